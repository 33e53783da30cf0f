import PyProof.Rows.All
import Wide.All
import OpenK.AllK
import Wide.FinOn
import Open.Tops
import Lean
import PySem.Challenge.RW_dm0059_05
set_option Elab.async false
set_option linter.all false
set_option maxRecDepth 100000
set_option maxHeartbeats 0
set_option genSizeOf false
set_option genInjectivity false
noncomputable section
open PySem.Str renaming ofString→aA0
open Option.some renaming inj→aA1
open PySem renaming wpAny_bind→aA2,wpAny_pure→aA4,Shared→aA7,World→aB9,Addr→aC1,wpAny→aD2,Params→aD3,model→aD9,Builtin→aE0,Stmt→aE7,builtinLookup_eq_fast→aE9,Heap→aF0,Comprehension→aF6,Arguments→aG0,Program→aG3,wpAny_call_entry→aG7,typeLookup_type→aH0,mainGlobals→aH2,Around→aH7,wpAny_newObj_type→aH8,SetTable→aI1,typeLookup→aI2,wpAny_callSpecial?_slot→aJ0,wpAny_holding→aJ8,wpAny_standAt→aK0,codeAny_mono→aK6,isSubtype_type→aL2,Spec→aL7,wpAny_setField→aL9,codeAny_call_builtin→aM4,codeAny→aM9,assignInOrder→aO3,DictEntry→aO6,wpAny_truthy_bool→aO7,getMethod_builtin→aO8,wpAny_askSetting→aP3,wpAny_mono→aP5,NameKind→aP8,pyIter→aQ6,wpAny_load→aQ7,isSubtype→aR1,wpAny_seqItems→aR2,wpAny_call→aR9,OsState→aS0,holding→aS1,codeAny_builtin→aS5,FuncData→aS6,pyNext→aT1,wpAny_of_eq→aT9,wpAny_field→aU0,firstArgMember→aU2,checkBoundCall→aU3,setsByText→aU5,bindArgs→aU7,wpAny_isInstance→aV0,entryFor_of_tree→aV1,wpAny_attempt→aV7,swappedStores→aV8,wpAny_specialOf→aW1,letOwnedTupleGo→aW2,wpAny_isSame_plain→aW5,isInstance→aW6,argsOk→aW7,slot_listiter_next→aW9,builtinsNs→aX0,treeTable→aX2,codeAny_call_builtin_at→aX3,compareOp→aX4,getMethod→aX6,wpAny_loadPart→aY6,getAttr→aY7,wpAny_pyIter_enum→aY9,Setting→aZ4,rawInt→bA8,plainId_quiet→bB2,BindsTo→bB4,sizeLine→bB5,entryFor→bB6,evalThenUse→bB7,setState→bB8,wpAny_updateSeq→bC1,wpAny_contains_slot→bC4,specialOf→bD3,wpAny_rule→bD6,Result→bD7,keeperOf→bD8,wpAny_Constant_int→bE0,Model→bE3,wpAny_pyIter_slot→bE5,signature?_of→bE7,Operator→bF5,CmpOp→bF6,call_meetsIn→bG5,codeAny_of_tree→bH0,wpAny_tryCatch→bH5,isSubtype_stop→bH6,unpackItems→bH7,builtinKind→bH9,entryFor_alias→bI0,UnaryOp→bI6,wpAny_handled→bJ1,wpAny_release→bJ3,call_meets→bJ6,wpAny_Name→bJ7,Flow→bJ9,GenState→bK2,wpAny_typeOf→bK3,BoolOp→bL2,wpAny_throw→bL5,wpAny_letGo→bL7,Keyword→bM2,intKind_is→bM3,strKind_is→bM4,numAt_eq→bN0,Fin→bN4,wpAny_For→bN7,ElemsOf→bO1,Code→bO3,Slot→bO5
open Nat renaming le_trans→aA3,le_refl→aA9,lt_of_lt_of_le→aB3,eq_of_beq_eq_true→aB4,le_of_eq→aB7,lt_succ_self→aC2,zero_le→aC7,beq→aD0,lt_of_le_of_lt→aD1,le_add_right→aE1,le_of_lt→aE4,ne_of_lt→aE5,not_lt_zero→aE6,zero_add→aF3,lt_succ_of_lt→aG5,succ_le_succ→aG8,le_succ_of_le→aI0,pos_of_ne_zero→aI6,le_of_lt_succ→aJ3,ne_of_gt→aJ6,le_succ→aK1,add_le_add_left→aK2,le_of_ble_eq_true→aK5,eq_zero_of_not_pos→aL5,add_assoc→aM1,not_lt→aM3,lt_add_of_pos_right→aM5,lt_irrefl→aM6,le_of_succ_le→aN0,le_of_add_right_le→aN1,le_of_not_lt→aN5,add_le_add_right→aQ4,succ→aQ9,one_pos→aR5,lt_of_succ_lt_succ→aS2,min_le_left→aS7,rec→aT3,add_right_cancel→aU8,ble→aV2,succ_pos→aV3,min_eq_left→aW0,add_right_comm→aW4,add_sub_cancel_left→aX8,lt_or_ge→aY2,lt_trans→aY3,succ_sub_succ→aZ5,lt_one_iff→aZ6,add_sub_assoc→aZ7,lt_of_not_le→bA3,not_succ_le_self→bB9,add_lt_add_left→bC7,sub_self→bD2,lt_or_eq_of_le→bE1,min_eq_right→bF2,not_le→bG6,sub_zero→bG7,le_antisymm→bH1,le_zero→bI3,blt→bL0,sub_lt→bM8
open List renaming getElem?_eq_some_iff→aA5,getElem?_eq_getElem→aA6,length_map→aB0,getD_eq_getElem?_getD→aB2,rec→aB5,mem_singleton→aB6,mem_of_getElem?→aB8,mem_append→aC0,length_append→aC3,getElem?_map→aC5,mem_cons_self→aC6,range→aC8,mem_cons_of_mem→aC9,mem_cons→aD7,toArray→aE2,getElem?_toArray→aF1,eq_nil_of_length_eq_zero→aF5,append_nil→aF8,length_take→aG2,length_range→aG6,getElem?_eq_none→aG9,getElem?_append_left→aI4,mem_filter→aI5,length_drop→aJ1,getElem?_append_right→aJ2,getElem?_of_mem→aJ4,nodup_append→aK8,filter_cons_of_pos→aK9,filter_cons_of_neg→aL0,append_assoc→aL8,map_cons→aM7,mem_map→aM8,length_reverse→aN3,pairwise_iff_getElem→aN4,getElem?_drop→aO0,map_map→aO2,map_append→aP0,take_of_length_le→aP2,map→aP9,getElem?_take→aQ0,length_filter_le→aQ1,drop_eq_getElem_cons→aQ2,mem_range→aR0,take_length→aR3,pairwise_cons→aR7,range_succ→aS8,filterMap_append→aT2,pairwise_map→aT4,getElem?_inj→aT6,reverse_cons→aT7,flatMap_cons→aT8,length→aU6,mem_append_left→aU9,getLast?_eq_getElem?→aV4,Pairwise→aV6,nodup_cons→aW3,drop_sublist→aY4,pairwise_lt_range→aY5,take_add_one→aY8,mem_append_right→bA0,getElem?_reverse→bA1,take_append_drop→bA2,all_eq_true→bA5,getElem_mem→bA9,drop_length→bB1,getElem?_range→bC3,mem_map_of_mem→bC6,any_eq_true→bF4,isEmpty_nil→bF7,nodup_range→bF8,getElem_map→bF9,length_cons→bG1,map_reverse→bG2,drop_zero→bH8,nodup_nil→bI1,lookup→bI2,Perm→bI7,map_take→bJ5,cons→bL3,filter→bM1,drop→bN5
open False renaming elim→aA8
open PySem.Heap renaming get?_push_of_some→aB1,get?_push_size→aC4,size_push→aE3,SameBut→aF7,get?_update_self→aI7,lt_size→aI8,get?_update_other→aJ7,size_update→aJ9,get?_none_of_le→aQ5,ExtBut→aU1,get?→bN9
open Int renaming ofNat_lt→aD4,toNat_eq_max→aD6,toNat_natCast→aH9,natCast_nonneg→aL1,zero_add→aL3,ofNat_le→aM2,le_trans→aQ3,add_zero→aR6,fmod_nonneg_of_pos→aS3,le_refl→aU4,lt_of_lt_of_le→aW8,add_sub_cancel→aX1,zero_mul→aY0,le_of_eq→aY1,not_lt→bA7,lt_trans→bC9,lt_of_le_of_lt→bD5,max_eq_right→bF3,le_of_lt→bG3,max_eq_left→bG8,mul_add→bH2,neg_mul→bH3,mul_nonneg→bH4,ofNat→bI5,add_assoc→bI9,mul_assoc→bJ0,mul_zero→bK0,mul_comm→bK1,ediv_one→bK6,one_mul→bL4,not_le→bM6
open Option renaming rec→aD5,map→aD8,map_eq_some_iff→aL4,bind_eq_some_iff→aQ8,getD_none→bG0,getD→bL9,bind→bM0
open Bool renaming and_eq_true_iff→aE8,rec→aH3,and_eq_true→aH6,false_eq_true→aI3,noConfusion→aN7,false_ne_true→aP6,eq_false_iff→aZ3,eq_iff_iff→bC0,or_eq_true_iff→bC5,not_eq_true'→bE6,not_true→bE9,or_eq_true→bG9
open LawfulBEq renaming eq_of_beq→aF2
open PySem.W renaming Looks→aF4,kas_place→aN9,kas_desc→aZ1,kas_sort→aZ2,boot_heap→bB0,kas_descPart→bD1,Frag→bE8,plainGet_of→bL6,check_slot→bM7,boot_drawn→bN2,kas_count→bN6,boot_toks→bN8,SharedT→bO0,KasT→bO4
open PySem.NameKind renaming free→aF9,cell→aT0,rec→bK7
open PySem.SetTable renaming below→aG1,grown→aP7,insertAt→bE2
open Classical renaming byContradiction→aG4,em→aO1
open PySem.Challenge renaming pw_dm0059_05→aH1
open Array renaming length_toList→aH4,getElem?_eq_getElem→aJ5,getElem?_toList→aK3,getElem?_eq_some_iff→aP4,any_toList→bF1,any→bN3
open PySem.Heap.SameBut renaming update→aH5
open PySem.Value renaming none→aI9,ref→aN2,int→bA4,type→bA6,str→bL1
open PySem.Obj renaming mapSeq→aK4,mapFields→bF0
open PySem.F renaming slot_tuple_iterator_next→aK7,slot_dict_getattribute→aN8,slot_set_getattribute→aO5,plainAttrs_list→aO9,called_set→aR8,plain_extend_loop→aV5,slot_tuple_iter→aX5,plainAttrs_dict→aX7,slot_dict_get→aZ8
open PySem.Builtin.SmallTypes renaming nextOf→aL6
open PySem.W.Looks renaming of_peek→aM0,of_pure→bB3,ld→bM9
open PySem.Sem renaming wp→aN6
open PySem.Around renaming under_plainId→aO4
open ForInStep renaming yield→aP1
open PySem.Builtin.Range renaming rangeSize→aR4
open PyProof renaming noPylong_small→aS4
open Int.ofNat renaming inj→aS9
open PySem.Builtin.List renaming listExtendWith→aT5
open Prod renaming ext→aV9
open PySem.SeqAt renaming EqAt→aX9,RcNeAt→bG4,RcAt→bM5
open PySem.W.KasT renaming ret→aZ0,rec→bK5,ask→bN1
open List.Perm renaming append_left→aZ9
open PySem.W.WShape renaming hasItems→bC2,has→bJ8
open Ne renaming symm→bC8
open PySem.Code renaming builtin→bD0,quiet_builtin→bD4
open PySem.PyData renaming keyHash→bD9
open PySem.Bind renaming madeBy→bE4
open PySem.W.SharedT renaming abs→bI4
open PySem.W.WData renaming int→bI8
open PyProof.Rows renaming listUpdate_at→bJ2,seqEpoch_at→bL8
open PySem.BindsTo renaming of_eq→bJ4
open Nat.succ renaming inj→bK4
open PySem.Stmt renaming casesOn→bK8
open PySem.pickOrder renaming go→bK9
open PySem.Slot renaming of→bO2
namespace Mine
def bO6:=@congrArg
def bO7:=@if_pos
def bO8:=@if_neg
def bO9:=@absurd
def bP0:=@decide_eq_true
def bP1:=@decide_eq_false
def bP2:=@of_decide_eq_true
def bP3:=@beq_self_eq_true
def bP4:=@beq_eq_false_iff_ne
def bP5:=@decide_eq_decide
end Mine
open Mine
local macro_rules
 | `(tactic| rfl') => `(tactic| kernel_rfl)

section
open PySem PySem.W PyProof.Rows
namespace Mine
def YK{α:Type}(as:Array α)(p:α->Bool)(a b:Nat):Bool:=
 aH3 (as.any p a b) (R.anyR as.toList p) (aD0 a 0&&aD0 b as.size)
def UF:@bN3.{0}=@YK:=by
 funext α as p a b
 unfold YK
 cases h:(aD0 a 0&&aD0 b as.size)with
 | false=>rfl
 | true=>
  obtain⟨h1,h2⟩:=aE8.mp h
  have:=aB4 h1
  subst this
  have:=aB4 h2
  subst this
  show as.any p 0 as.size=R.anyR as.toList p
  rw[<-bF1]
  exact congrFun (congrFun (congrFun R.anyR_eq α) as.toList) p
abbrev Lc:Type 1:=(α:Type)->(as:Array α)->(p:α->Bool)->(start:Nat)->(stop:Nat)->Bool
inductive Yo:(Lc->aE0)->aE0->Lc->Type 2
 | mk (F:Lc->aE0) (a:Lc):Yo F (F a) a
structure mR(v:aE0)(a:Lc):Type 2 where
 F:Lc->aE0
 h:Yo F v a
def mR.ok{v:aE0}{a:Lc}(x:mR v a):v=x.F a:=by
 obtain⟨F,h⟩:=x
 cases h
 rfl
def uT:mR Fast.tw4202317264376624991 (@bN3.{0}):=by
 apply mR.mk
 delta Fast.tw4202317264376624991
 generalize @bN3.{0}=any
 exact Yo.mk _ @any
def tnB:aE0:=uT.F (@YK)
def YX:aE0.«type.__new__» = tnB:=by
 refine Fast.te4202317264376624991.trans (uT.ok.trans ?_)
 exact bO6 uT.F UF
noncomputable def jE(b:aE0)(id:String):Option aE0:=if id == "type.__new__" then some b else aX2 id
def XU:aX2=jE aE0.«type.__new__»:=by
 funext id
 unfold jE
 by_cases h:(id == "type.__new__")=true
 ·rw[bO7 h,aF2 h]
  rfl'
 ·rw[bO8 h]
lay_quick Mine.jE
def mD:String->Option aE0:=jE tnB
def Yw:aX2=mD:=XU.trans (bO6 jE YX)
end Mine
end
section
open PySem PySem.W PyProof.Rows
def PySem.W.Fast.tw1544363975561320374:aE0:=Mine.tnB
def PySem.W.Fast.te1544363975561320374:Mine.tnB=PySem.W.Fast.tw1544363975561320374:=rfl
end
section
open PySem PySem.W PyProof.Rows
namespace Mine
lay_quick Mine.mD
noncomputable def JB:Option Value:=some (.ref 6)
def Vs(n:Nat)(w:aB9)(p:aG3)(l b:List aE7)(s:bO0)(e:Env):Option (bJ9×bO0×bO3×Pos):=
 segRunT mD p w 11 JB 1 n s (piecesOf l e (.body b e) ⟨0,0,0,0⟩ [topFrame ⟨0,0,0,0⟩])
lay_quick Mine.Vs
noncomputable def A6:Option aE7->List aE7
 | some (.ClassDef _ _ _ b _ _ _ _ _ _ _)=>b
 | _=>[]
noncomputable def AM:Pos:={line:=0,col:=0,endLine:=0,endCol:=0}
end Mine
end
namespace Lq
inductive ń where
 | v (i:Nat) | k (n:Nat) | a (x y:ń) | s (x y:ń) | m (n:Nat) (x:ń) | mi (x y:ń) | ma (x y:ń) | c (x:ń) | g (x:ń)
inductive FF where
 | le (x y:ń) | lt (x y:ń) | eq (x y:ń) | il (x y:ń) | it (x y:ń) | ie (x y:ń) | an (p q:FF) | or(p q:FF) | im (p q:FF) | no (p:FF) | fa
noncomputable abbrev CD{α}(d:α):List α->Nat->α
 | [],_=>d
 | a::_,0=>a
 | _::r,i+1=>CD d r i
noncomputable abbrev ń.dn(c:List Nat):ń->Nat
 | v i=>CD 0 c i
 | k n=>n
 | a x y=>x.dn c+y.dn c
 | s x y=>x.dn c-y.dn c
 | m n x=>n*x.dn c
 | mi x y=>min (x.dn c) (y.dn c)
 | ma x y=>max (x.dn c) (y.dn c)
 | .c x=>x.dn c
 | g x=>x.dn c
noncomputable abbrev ń.di(c:List Nat)(z:List Int):ń->Int
 | v i=>CD 0 z i
 | k n=>n
 | a x y=>x.di c z+y.di c z
 | s x y=>x.di c z-y.di c z
 | m n x=>n*x.di c z
 | mi x y=>min (x.di c z) (y.di c z)
 | ma x y=>max (x.di c z) (y.di c z)
 | .c x=>(x.dn c:Int)
 | g x=>- x.di c z
abbrev FF.dn(c:List Nat)(z:List Int):FF->Prop
 | le x y=>x.dn c<=y.dn c
 | lt x y=>x.dn c<y.dn c
 | eq x y=>x.dn c=y.dn c
 | il x y=>x.di c z<=y.di c z
 | it x y=>x.di c z<y.di c z
 | ie x y=>x.di c z=y.di c z
 | an p q=>p.dn c z/\q.dn c z
 | or p q=>p.dn c z\/q.dn c z
 | im p q=>p.dn c z->q.dn c z
 | no p=>¬ p.dn c z
 | fa=>False
noncomputable abbrev pT:Nat->Nat->(ń->Nat->FF)->FF
 | 0,_,_=>.fa
 | f+1,n,r=>
  let t:=n%16
  let n:=n / 16
  if t<8 then r (.v t) n else if t=8 then r (.k (n%16)) (n / 16)else if t=9 then r (.k (n%16777216)) (n / 16777216)
  else if t=10 then pT f n λx n=>pT f n λy=>r (.a x y)else if t=11 then pT f n λx n=>pT f n λy=>r (.s x y)
  else if t=12 then pT f (n / 256) λx=>r (.m (n%256) x)
  else if t=13 then pT f n λx n=>pT f n λy=>r (.mi x y)else if t=14 then pT f n λx n=>pT f n λy=>r (.ma x y)
  else if n%16=0 then pT f (n / 16) λx=>r (.c x)else if n%16=1 then pT f (n / 16) λx=>r (.g x)else r (.v (n%16+6)) (n / 16)
noncomputable abbrev pF:Nat->Nat->(FF->Nat->FF)->FF
 | 0,_,_=>.fa
 | f+1,n,r=>
  let t:=n%16
  let n:=n / 16
  if t<6 then pT f n λx n=>pT f n λy=>r (if t=0 then .le x y else if t=1 then .lt x y else if t=2 then .eq x y else if t=3 then .il x y else if t=4 then .it x y else .ie x y)
  else if t=6 then pF f n λp n=>pF f n λq=>r (.an p q)else if t=7 then pF f n λp n=>pF f n λq=>r (.or p q)
  else if t=8 then pF f n λp n=>pF f n λq=>r (.im p q)else if t=9 then pF f n λp=>r (.no p)else r .fa n
abbrev rd(n:Nat):FF:=pF 60 n λp _=>p
abbrev Ů:=Int×List Int
noncomputable def Qt:List Int->List Int->List Int
 | [],l=>l
 | l,[]=>l
 | a::l,b::m=>(a+b)::Qt l m
noncomputable def To(k:Int)(l:List Int):List Int:=l.map (k * ·)
def Ů.add(p q:Ů):Ů:=(p.1+q.1,Qt p.2 q.2)
def Ů.mul(k:Int)(p:Ů):Ů:=(k*p.1,To k p.2)
noncomputable def Ky:Nat->List Int
 | 0=>[1]
 | i+1=>0::0::Ky i
def Ů.le(p q:Ů):Ů:=q.add (p.mul (-1))
def Ů.lt(p q:Ů):Ů:=((p.le q).1-1,(p.le q).2)
abbrev CN:=Bool×Ů
def YQ(p q:Ů)(r1 r2:List CN->Bool)(cs:List CN):Bool:=
 bif cs.contains (false,p.le q)then r1 cs else bif cs.contains (false,q.lt p)then r2 cs else r1 ((false,p.le q)::cs)&&r2 ((false,q.lt p)::cs)
noncomputable def ń.cn:ń->(Ů->List CN->Bool)->List CN->Bool
 | v i,r,cs=>r (0,Ky i) cs
 | k n,r,cs=>r (n,[]) cs
 | a x y,r,cs=>x.cn (λp=>y.cn λq=>r (p.add q)) cs
 | s x y,r,cs=>x.cn (λp=>y.cn λq=>YQ q p (r (p.add (q.mul (-1)))) (r (0,[]))) cs
 | m n x,r,cs=>x.cn (λp=>r (p.mul n)) cs
 | mi x y,r,cs=>x.cn (λp=>y.cn λq=>YQ p q (r p) (r q)) cs
 | ma x y,r,cs=>x.cn (λp=>y.cn λq=>YQ p q (r q) (r p)) cs
 | c x,r,cs=>x.cn r cs
 | g x,r,cs=>x.cn r cs
noncomputable def ń.ci:ń->(Ů->List CN->Bool)->List CN->Bool
 | v i,r,cs=>r (0,0::Ky i) cs
 | k n,r,cs=>r (n,[]) cs
 | a x y,r,cs=>x.ci (λp=>y.ci λq=>r (p.add q)) cs
 | s x y,r,cs=>x.ci (λp=>y.ci λq=>r (p.add (q.mul (-1)))) cs
 | m n x,r,cs=>x.ci (λp=>r (p.mul n)) cs
 | mi x y,r,cs=>x.ci (λp=>y.ci λq=>YQ p q (r p) (r q)) cs
 | ma x y,r,cs=>x.ci (λp=>y.ci λq=>YQ p q (r q) (r p)) cs
 | c x,r,cs=>x.cn r cs
 | g x,r,cs=>x.ci (λp=>r (p.mul (-1))) cs
def EW(b:Nat)(r:List CN->Bool)(p q:Ů)(cs:List CN):Bool:=
 match b with
 | 0=>r ((false,p.le q)::cs)
 | 1=>r ((false,p.lt q)::cs)
 | 2=>r ((true,p.le q)::cs)
 | _=>r ((false,p.lt q)::cs)&&r ((false,q.lt p)::cs)
noncomputable def FF.br:FF->Bool->(List CN->Bool)->List CN->Bool
 | le x y,true,r,cs=>x.cn (λp=>y.cn (EW 0 r p)) cs
 | le x y,false,r,cs=>x.cn (λp=>y.cn λq=>EW 1 r q p) cs
 | lt x y,true,r,cs=>x.cn (λp=>y.cn (EW 1 r p)) cs
 | lt x y,false,r,cs=>x.cn (λp=>y.cn λq=>EW 0 r q p) cs
 | eq x y,true,r,cs=>x.cn (λp=>y.cn (EW 2 r p)) cs
 | eq x y,false,r,cs=>x.cn (λp=>y.cn (EW 3 r p)) cs
 | il x y,true,r,cs=>x.ci (λp=>y.ci (EW 0 r p)) cs
 | il x y,false,r,cs=>x.ci (λp=>y.ci λq=>EW 1 r q p) cs
 | it x y,true,r,cs=>x.ci (λp=>y.ci (EW 1 r p)) cs
 | it x y,false,r,cs=>x.ci (λp=>y.ci λq=>EW 0 r q p) cs
 | ie x y,true,r,cs=>x.ci (λp=>y.ci (EW 2 r p)) cs
 | ie x y,false,r,cs=>x.ci (λp=>y.ci (EW 3 r p)) cs
 | an p q,true,r,cs=>p.br true (q.br true r) cs
 | an p q,false,r,cs=>p.br false r cs&&q.br false r cs
 | or p q,true,r,cs=>p.br true r cs&&q.br true r cs
 | or p q,false,r,cs=>p.br false (q.br false r) cs
 | im p q,true,r,cs=>p.br false r cs&&q.br true r cs
 | im p q,false,r,cs=>p.br true (q.br false r) cs
 | no p,b,r,cs=>p.br (!b) r cs
 | fa,true,_,_=>true
 | fa,false,r,cs=>r cs
noncomputable def FD:Ů->Int
 | (_,[])=>0
 | (_,a::_)=>a
noncomputable def mY(p:Ů):Ů:=(p.1,p.2.tail)
def Jg(m n:Int)(p q:Ů):Ů:=((mY p).mul m).add ((mY q).mul n)
def Ul(e:Ů)(c:CN):CN:=(c.1,bif FD e<0 then Jg (- FD e) (FD c.2) c.2 e else Jg (FD e) (- FD c.2) c.2 e)
def gY(cs:List CN):List CN:=
 let ng:=cs.filter (FD ·.2<0)
 cs.filterMap (λp=>if FD p.2=0 then some (p.1,mY p.2)else none)++(cs.filter (0<FD ·.2)).flatMap λp=>ng.map λq=>(false,Jg (- FD q.2) (FD p.2) p.2 q.2)
def Sk(cs:List CN):List CN:=
 match cs.find? λc=>c.1&&FD c.2 != 0 with
 | some e=>cs.map (Ul e.2)
 | none=>gY cs
noncomputable def Y7(p:Ů):Bool:=p.2.all (· = 0)
def oG(p:CN):Bool:=Y7 p.2&&(p.2.1<0||(p.1&&0<p.2.1))
noncomputable def fm:Nat->Bool->List CN->Bool
 | 0,_,cs=>cs.any oG
 | f+1,b,cs=>cs.any oG||(let cs:=cs.filter (λp=>!Y7 p.2);if cs.isEmpty||150<cs.length then false else fm f (!b) (Sk (bif b then(false,(0,[1]))::cs else cs)))
def chk(n:Nat):Bool:=(rd n).br false (fm 40 true) []
section
variable{c:List Nat}{z:List Int}
noncomputable def ev(f:Nat->Int):List Int->Int
 | []=>0
 | a::l=>a*f 0+ev (λi=>f (i+1)) l
noncomputable def Zn(f g:Nat->Int)(i:Nat):Int:=aT3 (motive:=λ_=>(Nat->Int)->(Nat->Int)->Int) (λf _=>f 0) (λ_ r f g=>r g λj=>f (j+1)) i f g
noncomputable def env(c:List Nat)(z:List Int):Nat->Int:=Zn (λi=>(CD 0 c i:Nat)) (CD 0 z)
def Ů.val(f:Nat->Int)(p:Ů):Int:=p.1+ev f p.2
def v5(a b c d:Int):a+b+(c+d)=a+c+(b+d):=by rw[bI9,bI9,Int.add_left_comm b]
theorem S3 :∀(f:Nat->Int) (l m:List Int),ev f (Qt l m)=ev f l+ev f m
 | f,[],m=>(aL3 _).symm
 | f,a::l,[]=>(aR6 _).symm
 | f,a::l,b::m=>by
  show(a+b)*f 0+ev _ (Qt l m)=(a*f 0+ev _ l)+(b*f 0+ev _ m)
  rw[S3,Int.add_mul];exact v5 ..
theorem Ry(k:Int) :∀(f:Nat->Int) (l:List Int),ev f (To k l)=k*ev f l
 | f,[]=>(bK0 k).symm
 | f,a::l=>by
  show(k*a)*f 0+ev _ (To k l)=k*(a*f 0+ev _ l)
  rw[Ry,bH2,bJ0]
def Ed(f:Nat->Int)(p q:Ů):(p.add q).val f=p.val f+q.val f:=by
 show p.1+q.1+ev f (Qt p.2 q.2)=_
 rw[S3];exact v5 ..
def DW(f:Nat->Int)(k:Int)(p:Ů):(p.mul k).val f=k*p.val f:=by
 show k*p.1+ev f (To k p.2)=k*(p.1+_)
 rw[Ry,bH2]
def HL(f:Nat->Int)(p q:Ů):(p.le q).val f=q.val f-p.val f:=by
 unfold Ů.le;rw[Ed,DW,bH3,bL4];rfl
def Gx(f:Nat->Int)(p q:Ů):(p.lt q).val f=q.val f-p.val f-1:=by
 rw[<-HL];exact Int.add_right_comm _ (-1) _
theorem JJ :∀(i:Nat) (f g:Nat->Int),ev (Zn f g) (Ky i)=f i
 | 0,f,g=>by show 1*f 0+0=f 0;rw[bL4,aR6]
 | i+1,f,g=>by
  show 0*_+(0*_+ev (Zn (λj=>f (j+1)) λj=>g (j+1)) (Ky i))=_
  rw[JJ i,aY0,aY0,aL3,aL3]
def CN.is(f:Nat->Int)(c:CN):Prop:=match c.1 with
 | true=>c.2.val f=0
 | false=>0<=c.2.val f
def NL(f:Nat->Int)(cs:List CN):Prop:=∀p∈cs,p.is f
def Ok(f:Nat->Int)(r:List CN->Bool):Prop:=∀cs,NL f cs->r cs=true->False
def wI(f:Nat->Int)(v:Int)(r:Ů->List CN->Bool):Prop:=∀p,p.val f=v->Ok f (r p)
def NL.cons{f:Nat->Int}{p:CN}{cs:List CN}(h:p.is f)(s:NL f cs):NL f (p::cs):=λq hq=>(aD7.mp hq).elim (λe=>e▸h) (s q)
def NL.c0{f:Nat->Int}{p:Ů}{cs:List CN}(s:NL f cs)(h:0<=p.val f):NL f ((false,p)::cs):=s.cons (p:=(false,p)) h
def NL.c1{f:Nat->Int}{p:Ů}{cs:List CN}(s:NL f cs)(h:p.val f=0):NL f ((true,p)::cs):=s.cons (p:=(true,p)) h
def Gl{f:Nat->Int}{p q:Ů}{r1 r2}(h1:p.val f<=q.val f->Ok f r1)(h2:q.val f<p.val f->Ok f r2):Ok f (YQ p q r1 r2):=λcs s e=>by
 unfold YQ at e
 have g1:CN.is f (false,p.le q)->p.val f<=q.val f:=λ(g:0<=(p.le q).val f)=>by rw[HL]at g;omega
 have g2:CN.is f (false,q.lt p)->q.val f<p.val f:=λ(g:0<=(q.lt p).val f)=>by rw[Gx]at g;omega
 cases c1:cs.contains (false,p.le q)with
 | true=>rw[c1]at e;exact h1 (g1 (s _ (List.contains_iff_mem.mp c1))) _ s e
 | false=>
  rw[c1]at e
  cases c2:cs.contains (false,q.lt p)with
  | true=>rw[c2]at e;exact h2 (g2 (s _ (List.contains_iff_mem.mp c2))) _ s e
  | false=>
   rw[c2]at e
   have e:=aH6 _ _▸e
   by_cases l:p.val f<=q.val f
   ·exact h1 l _ (s.c0 (by rw[HL];omega)) e.1
   ·exact h2 (by omega) _ (s.c0 (by rw[Gx];omega)) e.2
def uC(i:Nat):ev (env c z) (Ky i)=(CD 0 c i:Nat):=JJ i _ _
def rU(i:Nat):ev (env c z) (0::Ky i)=CD 0 z i:=by
 show 0*_+ev (Zn (CD 0 z) λj=>(CD 0 c (j+1):Nat)) (Ky i)=_
 rw[JJ i,aY0,aL3]
theorem Cl :∀(x:ń) {r},wI (env c z) (x.dn c) r->Ok (env c z) (x.cn r)
 | .v i,r,h=>h _ (by show 0+ev _ _=_;rw[uC];exact aL3 _)
 | .k n,r,h=>h _ (aR6 _)
 | .a x y,r,h=>Cl x λp hp=>Cl y λq hq=>h _ (by rw[Ed,hp,hq];rfl)
 | .m n x,r,h=>Cl x λp hp=>h _ (by rw[DW,hp];rfl)
 | .c x,r,h=>Cl x h
 | .g x,r,h=>Cl x h
 | .s x y,r,h=>Cl x λp hp=>Cl y λq hq=>Gl (λl=>h _ (by rw[Ed,DW,hp,hq];rw[hp,hq]at l;show _=((x.dn c-y.dn c:Nat):Int);omega)) λl=>h _ (by rw[hp,hq]at l;show(0:Int)+0=((x.dn c-y.dn c:Nat):Int);omega)
 | .mi x y,r,h=>Cl x λp hp=>Cl y λq hq=>Gl (λl=>h _ (by rw[hp,hq]at l;rw[hp];exact bO6 bI5 (aW0 (aM2.mp l)).symm)) λl=>h _ (by rw[hp,hq]at l;rw[hq];exact bO6 bI5 (bF2 (aE4 (aD4.mp l))).symm)
 | .ma x y,r,h=>Cl x λp hp=>Cl y λq hq=>Gl (λl=>h _ (by rw[hp,hq]at l;rw[hq];exact bO6 bI5 (Nat.max_eq_right (aM2.mp l)).symm)) λl=>h _ (by rw[hp,hq]at l;rw[hp];exact bO6 bI5 (Nat.max_eq_left (aE4 (aD4.mp l))).symm)
theorem DQ :∀(x:ń) {r},wI (env c z) (x.di c z) r->Ok (env c z) (x.ci r)
 | .v i,r,h=>h _ (by show 0+ev _ _=_;rw[rU];exact aL3 _)
 | .k n,r,h=>h _ (aR6 _)
 | .a x y,r,h=>DQ x λp hp=>DQ y λq hq=>h _ (by rw[Ed,hp,hq])
 | .m n x,r,h=>DQ x λp hp=>h _ (by rw[DW,hp])
 | .c x,r,h=>Cl x h
 | .g x,r,h=>DQ x λp hp=>h _ (by rw[DW,hp];show -1*x.di c z = - x.di c z;omega)
 | .s x y,r,h=>DQ x λp hp=>DQ y λq hq=>h _ (by rw[Ed,DW,hp,hq];show _=x.di c z-y.di c z;omega)
 | .mi x y,r,h=>DQ x λp hp=>DQ y λq hq=>Gl (λl=>h _ (by rw[hp,hq]at l;rw[hp];exact(Int.min_eq_left l).symm)) λl=>h _ (by rw[hp,hq]at l;rw[hq];exact(Int.min_eq_right (bG3 l)).symm)
 | .ma x y,r,h=>DQ x λp hp=>DQ y λq hq=>Gl (λl=>h _ (by rw[hp,hq]at l;rw[hq];exact(bF3 l).symm)) λl=>h _ (by rw[hp,hq]at l;rw[hp];exact(bG8 (bG3 l)).symm)
def Qo(b:Nat)(v w:Int):Prop:=match b with
 | 0=>v<=w
 | 1=>v<w
 | 2=>v=w
 | _=>v≠w
def Gb{f:Nat->Int}{r}(h:Ok f r){p q:Ů} :∀{b:Nat},Qo b (p.val f) (q.val f)->Ok f (EW b r p q)
 | 0,e=>λcs s=>h _ (s.c0 (by rw[HL];exact Int.sub_nonneg_of_le e))
 | 1,e=>λcs s=>h _ (s.c0 (by rw[Gx];have e:p.val f<q.val f:=e;omega))
 | 2,e=>λcs s=>h _ (s.c1 (by rw[HL];have e:p.val f=q.val f:=e;omega))
 | b+3,e=>λcs s y=>by
  have e:p.val f≠q.val f:=e
  have y:=aH6 _ _▸y
  rcases Int.lt_or_gt_of_ne e with l | l
  ·exact h _ (s.c0 (by rw[Gx];omega)) y.1
  ·exact h _ (s.c0 (by rw[Gx];omega)) y.2
def Fm{r}(h:Ok (env c z) r)(x y:ń){b:Nat}(e:Qo b (x.dn c) (y.dn c)):Ok (env c z) (x.cn λp=>y.cn (EW b r p)):=
 Cl x λ_ hp=>Cl y λ_ hq=>Gb h (by rw[hp,hq];exact e)
def Kq{r}(h:Ok (env c z) r)(x y:ń){b:Nat}(e:Qo b (y.dn c) (x.dn c)):Ok (env c z) (x.cn λp=>y.cn λq=>EW b r q p):=
 Cl x λ_ hp=>Cl y λ_ hq=>Gb h (by rw[hp,hq];exact e)
def F1{r}(h:Ok (env c z) r)(x y:ń){b:Nat}(e:Qo b (x.di c z) (y.di c z)):Ok (env c z) (x.ci λp=>y.ci (EW b r p)):=
 DQ x λ_ hp=>DQ y λ_ hq=>Gb h (by rw[hp,hq];exact e)
def LS{r}(h:Ok (env c z) r)(x y:ń){b:Nat}(e:Qo b (y.di c z) (x.di c z)):Ok (env c z) (x.ci λp=>y.ci λq=>EW b r q p):=
 DQ x λ_ hp=>DQ y λ_ hq=>Gb h (by rw[hp,hq];exact e)
def Ċ(b:Bool)(P:Prop):Prop:=match b with
 | true=>P
 | false=>¬ P
theorem DG :∀(p:FF) {b:Bool} {r},Ok (env c z) r->Ċ b (p.dn c z)->Ok (env c z) (p.br b r)
 | .le x y,true,r,h,e=>Fm h x y (b:=0) (aM2.mpr e)
 | .le x y,false,r,h,e=>Kq h x y (b:=1) (aD4.mpr (bA3 e))
 | .lt x y,true,r,h,e=>Fm h x y (b:=1) (aD4.mpr e)
 | .lt x y,false,r,h,e=>Kq h x y (b:=0) (aM2.mpr (aN5 e))
 | .eq x y,true,r,h,e=>Fm h x y (b:=2) (bO6 bI5 e)
 | .eq x y,false,r,h,e=>Fm h x y (b:=3) λq=>e (aS9 q)
 | .il x y,true,r,h,e=>F1 h x y (b:=0) e
 | .il x y,false,r,h,e=>LS h x y (b:=1) (Int.lt_of_not_ge e)
 | .it x y,true,r,h,e=>F1 h x y (b:=1) e
 | .it x y,false,r,h,e=>LS h x y (b:=0) (Int.le_of_not_gt e)
 | .ie x y,true,r,h,e=>F1 h x y (b:=2) e
 | .ie x y,false,r,h,e=>F1 h x y (b:=3) e
 | .an p q,true,r,h,e=>DG p (b:=true) (DG q (b:=true) h e.2) e.1
 | .an p q,false,r,h,e=>λcs s y=>by
  have y:=aH6 _ _▸y
  exact e ⟨aG4 λn=>DG p (b:=false) h n cs s y.1,aG4 λn=>DG q (b:=false) h n cs s y.2⟩
 | .or p q,true,r,h,e=>λcs s y=>by
  have y:=aH6 _ _▸y
  exact Or.elim e (λn=>DG p (b:=true) h n cs s y.1) λn=>DG q (b:=true) h n cs s y.2
 | .or p q,false,r,h,e=>DG p (b:=false) (DG q (b:=false) h λn=>e (.inr n)) λn=>e (.inl n)
 | .im p q,true,r,h,e=>λcs s y=>by
  have y:=aH6 _ _▸y
  exact DG p (b:=false) h (λn=>DG q (b:=true) h (e n) cs s y.2) cs s y.1
 | .im p q,false,r,h,e=>DG p (b:=true) (DG q (b:=false) h λn=>e λ_=>n) (aG4 λn=>e λm=>bO9 m n)
 | .no p,true,r,h,e=>DG p (b:=false) h e
 | .no p,false,r,h,e=>DG p (b:=true) h (Classical.not_not.mp e)
 | .fa,true,r,h,e=>e.elim
 | .fa,false,r,h,e=>h
theorem Py :∀(f:Nat->Int) (l:List Int),l.all (· = 0)=true->ev f l=0
 | f,[],_=>rfl
 | f,a::l,h=>by
  have h:=aH6 _ _▸h
  have e:a=0:=bP2 h.1
  show a*f 0+ev _ l=0
  rw[e,Py _ l h.2,aY0];rfl
def Rg{f:Nat->Int}{cs:List CN}(s:NL f cs)(h:cs.any oG=true):False:=by
 obtain⟨⟨b,p⟩,hp,e⟩:=bF4.mp h
 have e:=aH6 _ _▸e
 have v:p.val f=p.1:=by unfold Ů.val;rw[Py f _ e.1];exact aR6 _
 rcases(bG9 _ _).mp e.2 with l | l
 ·have l:p.1<0:=bP2 l
  cases b
  ·have:=s _ hp;have:0<=p.val f:=this;omega
  ·have:=s _ hp;have:p.val f=0:=this;omega
 ·have l:=aH6 _ _▸l
  have l2:0<p.1:=bP2 l.2
  cases b
  ·exact nomatch l.1
  ·have:=s _ hp;have:p.val f=0:=this;omega
def La(f:Nat->Int) :∀(p:Ů),p.val f=FD p*f 0+(mY p).val λi=>f (i+1)
 | (k,[])=>by show k+0=0*f 0+(k+0);omega
 | (k,a::l)=>by show k+(a*f 0+ev _ l)=a*f 0+(k+ev _ l);omega
def L0(f:Nat->Int)(m n:Int)(p q:Ů)(h:m*FD p+n*FD q=0):(Jg m n p q).val (λi=>f (i+1))=m*p.val f+n*q.val f:=by
 have e:m*(FD p*f 0)+n*(FD q*f 0)=0:=by rw[<-bJ0,<-bJ0,<-Int.add_mul,h,aY0]
 unfold Jg
 rw[Ed,DW,DW,La f p,La f q,bH2,bH2]
 omega
def Yh{f:Nat->Int}{e:Ů}(he:e.val f=0)(h0:FD e≠0){c:CN}(hc:c.is f):(Ul e c).is λi=>f (i+1):=by
 obtain⟨b,p⟩:=c
 have k :∃m n,0<=m/\m*FD p+n*FD e=0/\Ul e (b,p)=(b,Jg m n p e):=by
  unfold Ul
  by_cases l:FD e<0
  ·exact⟨- FD e,FD p,by omega,by rw[bH3,bK1 (FD p)];omega,by rw[bP0 l];rfl⟩
  ·exact⟨FD e,- FD p,by omega,by rw[bH3,bK1 (FD p)];omega,by rw[bP1 l];rfl⟩
 obtain⟨m,n,hm,h,e1⟩:=k
 rw[e1]
 have v:=L0 f m n p e h
 rw[he,bK0,aR6]at v
 cases b
 ·show 0<=(Jg m n p e).val _
  exact v▸bH4 hm hc
 ·show(Jg m n p e).val _=0
  have hc:p.val f=0:=hc
  rw[v,hc,bK0]
def CN.nn{f:Nat->Int} :∀{c:CN},c.is f->0<=c.2.val f
 | (true,_),h=>aY1 (Eq.symm h)
 | (false,_),h=>h
def Tg{f:Nat->Int}{cs:List CN}(s:NL f cs):NL (λi=>f (i+1)) (Sk cs):=λp hp=>by
 unfold Sk at hp
 cases fe:cs.find? λc=>c.1&&FD c.2 != 0 with
 | some e=>
  rw[fe]at hp
  obtain⟨q,hq,rfl⟩:=aM8.mp hp
  have k:=aH6 _ _▸List.find?_some fe
  have he:=s e (List.mem_of_find?_eq_some fe)
  obtain⟨b,e⟩:=e
  have ľ:b=true:=k.1
  subst ľ
  exact Yh he (bne_iff_ne.mp k.2) (s q hq)
 | none=>
  rw[fe]at hp
  rcases aC0.mp hp with hp | hp
  ·obtain⟨⟨b,q⟩,hq,e⟩:=List.mem_filterMap.mp hp
   split at e
   ·rename_i h0
    have:=s _ hq
    have v:=La f q
    rw[show FD q=0 from h0,aY0,aL3]at v
    have e:=aA1 e
    subst e
    cases b
    ·have t:0<=q.val f:=this
     rw[v]at t
     exact t
    ·have t:q.val f=0:=this
     rw[v]at t
     exact t
   ·cases e
  ·obtain⟨q,hq,e⟩:=List.mem_flatMap.mp hp
   obtain⟨r,hr,rfl⟩:=aM8.mp e
   have hr:=aI5.mp hr
   have hq:=aI5.mp hq
   have r0:FD r.2<0:=bP2 hr.2
   have q0:0<FD q.2:=bP2 hq.2
   show 0<=Ů.val _ (Jg _ _ _ _)
   rw[L0 f _ _ _ _ (by rw[bH3,bK1 (FD q.2)];omega)]
   exact Int.add_nonneg (bH4 (by omega) (CN.nn (s q hq.1))) (bH4 (by omega) (CN.nn (s r hr.1)))
noncomputable def oU(b:Bool)(i:Nat):Bool:=aT3 (motive:=λ_=>Bool->Bool) (λb=>b) (λ_ r b=>r (!b)) i b
theorem Ln :∀(i:Nat) (f g:Nat->Int),(∀j,0<=f j)->(oU true i=true->0<=Zn f g i)/\(oU false i=true->0<=Zn g f i)
 | 0,f,g,h=>⟨λ_=>h 0,λe=>(nomatch e)⟩
 | i+1,f,g,h=>⟨(Ln i (λj=>f (j+1)) g λj=>h (j+1)).2,(Ln i f (λj=>g (j+1)) h).1⟩
theorem Vo :∀(n:Nat) (b:Bool) (f:Nat->Int),(∀i,oU b i=true->0<=f i)->Ok f (fm n b)
 | 0,b,f,h,cs,s,e=>Rg s e
 | n+1,b,f,h,cs,s,e=>by
  rcases(bG9 _ _).mp e with e | e
  ·exact Rg s e
  ·have s':NL f (cs.filter (λp=>!Y7 p.2)):=λp hp=>s p (aI5.mp hp).1
   dsimp only at e
   split at e
   ·cases e
   ·refine Vo n (!b) (λi=>f (i+1)) (λi hi=>h (i+1) hi) _ (Tg ?_) e
    cases b
    ·exact s'
    ·exact s'.c0 (by show 0<=0+(1*f 0+0);rw[aL3,bL4,aR6];exact h 0 rfl)
def Q(c:List Nat)(z:List Int)(n:Nat)(ok:chk n=true):(rd n).dn c z:=
 aG4 λh=>DG (c:=c) (z:=z) (rd n) (b:=false) (Vo 40 true _ λi hi=>(Ln i _ _ λ_=>aL1 _).1 hi) h [] (λp hp=>nomatch hp) ok
end
end Lq
namespace Mine
def Ū(c:List Nat)(z:List Int)(n:Nat)(ok:Lq.chk n=true):(Lq.rd n).dn c z:=Lq.Q c z n ok
def ql(c:List Nat)(n:Nat)(ok:Lq.chk n=true):(Lq.rd n).dn c []:=Lq.Q c [] n ok
end Mine
local macro_rules
 | `(tactic| exists[$a,*],[$b,*],$n,$h,*)=>`(tactic| exact Mine.Ū [$a,*] [$b,*] $n (by rfl') $h*)
local macro_rules
 | `(tactic| exists[$a,*],$n:num,$h,*)=>`(tactic| exact Mine.ql [$a,*] $n (by rfl') $h*)
local macro_rules
 | `(tactic| exists[$a,*],$n:num)=>`(tactic| exact Mine.ql [$a,*] $n (by rfl'))
local macro_rules
 | `(tactic| exists $k:num,$n:num,$h,*)=>do
  let u<-`(_)
  let a:=Array.replicate k.getNat u
  `(tactic| exact Mine.ql [$a,*] $n (by rfl') $h*)
local macro_rules
 | `(tactic| exists $k:num,$n:num)=>do
  let u<-`(_)
  let a:=Array.replicate k.getNat u
  `(tactic| exact Mine.ql [$a,*] $n (by rfl'))
section
open PySem PySem.W PyProof.Rows PySem.Spec PySem.Calls
namespace Mine
def Sx(xs:Array Nat):Prop:=xs.toList.Pairwise (· < ·)
def Sx.at{xs:Array Nat}(h:Sx xs){a b x y:Nat}(ha:xs[a]?=some x)(hb:xs[b]?=some y)(l:a<b):x<y:=by
 obtain⟨ź,rfl⟩:=aP4.mp ha
 obtain⟨b1,rfl⟩:=aP4.mp hb
 exact aN4.mp h a b ź b1 l
structure X6(xs:Array Nat)(j r:Nat):Prop where
 le:r<=xs.size
 lo :∀i x,i<r->xs[i]?=some x->x<j
 hi :∀i x,r<=i->xs[i]?=some x->j<=x
def ZU{lo hi:Nat}(h:lo<hi):lo<=(lo+hi) / 2/\(lo+hi) / 2<hi:=by omega
def ND{lo hi m f:Nat}(h:hi-lo<=f+1)(m1:lo<=m)(m2:m<hi):hi-(m+1)<=f/\m-lo<=f:=by exists 4,0x213b02183a0b0603183108182a10b08,h,m1,m2
theorem ME{xs:Array Nat}{j:Nat}(h:Sx xs) :∀f lo hi,hi-lo<=f->hi<=xs.size->lo<=hi->(∀i x,i<lo->xs[i]?=some x->x<j)->(∀i x,hi<=i->xs[i]?=some x->j<=x)->X6 xs j (aG1.go xs j f lo hi)
 | 0,lo,hi,h1,h2,h3,ō,Ξ=>by
  have:lo=hi:=by exists 2,0x1201080810b08,h1,h3
  subst this
  exact⟨h2,ō,Ξ⟩
 | f+1,lo,hi,h1,h2,h3,ō,Ξ=>by
  unfold aG1.go
  split
  ·rename_i hl
   obtain⟨m1,m2⟩:=ZU hl
   have hm:(lo+hi) / 2<xs.size:=aB3 m2 h2
   have e:xs[(lo+hi) / 2]?=some (xs[(lo+hi) / 2]):=aJ5 hm
   have e2:xs.getD ((lo+hi) / 2) j=xs[(lo+hi) / 2]:=by simp[Array.getD,hm]
   dsimp only
   rw[e2]
   split
   ·rename_i q
    exact ME h f _ hi (ND h1 m1 m2).1 h2 m2 (λi x hi' hx=>by
     rcases aY2 i ((lo+hi) / 2)with z | z
     ·exact aY3 (h.at hx e z) q
     ·have:i=(lo+hi) / 2:=by exists 2,0x1020108181a018,hi',z
      subst this
      rw[e]at hx;cases hx;exact q) Ξ
   ·rename_i q
    exact ME h f lo _ (ND h1 m1 m2).2 (aE4 hm) m1 ō λi x hi' hx=>by
     rcases aY2 ((lo+hi) / 2) i with z | z
     ·exact aA3 (aN5 q) (aE4 (h.at e hx z))
     ·have:i=(lo+hi) / 2:=by exists 2,0x1201081008,hi',z
      subst this
      rw[e]at hx;cases hx;exact aN5 q
  ·have:lo=hi:=by rename_i u0;exists 2,0x102101981008,h3,u0
   subst this
   exact⟨h2,ō,Ξ⟩
def Hp{xs:Array Nat}(h:Sx xs)(j:Nat):X6 xs j (aG1 xs j):=
 ME h _ _ _ (by exists 1,0x80b0) (aA9 _) (aC7 _) (λi x h=>bO9 h (aE6 i)) λi x h e=>bO9 (aP4.mp e).1 (aM3.mpr h)
def X6.one{xs:Array Nat}{j r r':Nat}(a:X6 xs j r)(b:X6 xs j r'):r=r':=by
 rcases Nat.lt_trichotomy r r' with z | z | z
 ·have e:xs[r]?=some (xs[r]'(aB3 z b.le)):=aJ5 _
  exact bO9 (b.lo r _ z e) (aM3.mpr (a.hi r _ (aA9 _) e))
 ·exact z
 ·have e:xs[r']?=some (xs[r']'(aB3 z a.le)):=aJ5 _
  exact bO9 (a.lo r' _ z e) (aM3.mpr (b.hi r' _ (aA9 _) e))
def RE{α:Type}(xs:Array α)(p:Nat)(x:α)(hp:p<=xs.size):(bE2 xs p x).toList=xs.toList.take p++x::xs.toList.drop p:=by
 unfold bE2
 simp
 exact aP2 (by simp)
def QO(t:aI1)(j:Nat):Prop:=t.place[aG1 t.place j]?≠some j
def Uw{xs:Array Nat}{j:Nat}(h:Sx xs)(hj:xs[aG1 xs j]?≠some j):Sx (bE2 xs (aG1 xs j) j):=by
 have b:=Hp h j
 unfold Sx
 rw[RE _ _ _ b.le,List.pairwise_append]
 have tk :∀a∈xs.toList.take (aG1 xs j),a<j:=λa ha=>by
  obtain⟨i,hi,rfl⟩:=List.mem_take_iff_getElem.mp ha
  exact b.lo i _ (by exists 3,0x10121d018,hi) (by rw[<-aK3];exact aA6 _)
 have dr :∀a∈xs.toList.drop (aG1 xs j),j<a:=λa ha=>by
  obtain⟨i,hi,rfl⟩:=List.mem_drop_iff_getElem.mp ha
  have e:xs[aG1 xs j+i]?=some (xs.toList[aG1 xs j+i]):=by rw[<-aK3];exact aA6 _
  refine Nat.lt_of_le_of_ne (b.hi _ _ (aE1 ..) e) λz=>hj ?_
  cases i with
  | zero=>exact e.trans (bO6 some z.symm)
  | succ i=>
   have hs:aG1 xs j<xs.size:=by have:=hi;rw[aH4]at this;exists 3,0x21121180aa18,this
   have e0:xs[aG1 xs j]?=some xs[aG1 xs j]:=aJ5 hs
   have l1:=b.hi _ _ (aA9 _) e0
   have l2:=h.at e0 e (by exists 2,0x181a0a01)
   exact aA8 (ql [_,_,_] 0xa121820081028 (by rfl') z l1 l2)
 exact⟨h.sublist (List.take_sublist ..),aR7.mpr ⟨dr,h.sublist (aY4 ..)⟩,λa ha b hb=>(aD7.mp hb).elim (λz=>z▸tk a ha) λz=>aY3 (tk a ha) (dr b z)⟩
def E7(n:Nat):Sx (Array.range n):=by
 unfold Sx
 rw[Array.toList_range]
 exact aY5
def I1{t:aI1}{j:Nat}(h :∀i,t.slot j≠.live i):QO t j:=λz=>h (aG1 t.place j) (by
 unfold aI1.slot
 dsimp only
 rw[z]
 simp)
def En(t:aI1)(p:aI1.Probe):(t.advance p).dummy=p.dummy:=by
 unfold aI1.advance
 split<;>rfl
theorem HB{t:aI1}{f:Nat->Int}{h:Int} :∀n (p:aI1.Probe),(∀d,p.dummy=some d->QO t d)->∀j dummy,aI1.probe.go t f h n p=some (.empty j dummy)->QO t j/\∀d,dummy=some d->QO t d
 | 0,p,_,j,dummy,e=>by cases e
 | n+1,p,hp,j,dummy,e=>by
  unfold aI1.probe.go at e
  split at e
  ·rename_i q
   cases e
   exact⟨I1 λi z=>(by rw[q]at z;cases z),hp⟩
  ·rename_i q
   exact HB n _ (λd hd=>by rw[En]at hd;cases hd;exact I1 λi z=>by rw[q]at z;cases z) j dummy e
  ·split at e
   ·cases e
   ·exact HB n _ (λd hd=>by rw[En]at hd;exact hp d hd) j dummy e
def O3{t:aI1}{h:Int}{j:Nat}{b:Bool}(e:t.freeSlot h=some (j,b)):QO t j:=by
 unfold aI1.freeSlot at e
 split at e
 ·rename_i k dummy q
  cases e
  obtain⟨h1,h2⟩:=HB _ _ (λd hd=>by cases hd) k dummy q
  cases dummy with
  | none=>exact h1
  | some d=>exact h2 d rfl
 ·cases e
def TA(w:aB9)(t:aI1):Prop:=Sx t.place/\t.led = !w.params.followText "set-order"
def Ut{w:aB9}{t:aI1}(h:TA w t)(n:Nat):TA w (t.orStandIn n):=by
 unfold aI1.orStandIn
 split
 ·exact h
 ·exact⟨E7 n,h.2⟩
def MY{w:aB9}{t:aI1}(ht:TA w t)(es:Array (Int×Value))(h:Int)(x:Value):TA w (layNew t es h x).2.1:=by
 unfold layNew
 split
 ·rename_i slot wasDummy q
  exact Ut (t:=(t.put slot).1) ⟨Uw ht.1 (O3 q),ht.2⟩ _
 ·exact⟨E7 _,ht.2⟩
def KI{w:aB9}{t:aI1}(ht:TA w t)(es:Array (Int×Value))(n:Nat):TA w (relayAll t es n).2.1:=by
 unfold relayAll
 split
 ·rename_i t' order q
  dsimp only
  split
  ·unfold aI1.relaid aI1.laid at q
   obtain⟨owner,q1,Ľ⟩:=aQ8.mp q
   cases Ľ
   refine⟨?_,ht.2⟩
   show aV6 _ _
   simp only[aT4]
   refine List.pairwise_filterMap.mpr (aY5.imp λ{a b} l x hx y hy=>?_)
   obtain⟨_,_,rfl⟩:=aL4.mp hx
   obtain⟨_,_,rfl⟩:=aL4.mp hy
   exact l
  ·exact⟨E7 _,ht.2⟩
 ·exact⟨E7 _,ht.2⟩
section
variable{prog:aG3}{w:aB9}{A:aH7}{E:Value->aA7->Prop}{s:aA7}
noncomputable def GF(w:aB9):Obj:={cls:=.type "set",dict:=none,data:=.set #[] 0 (.fresh 0 0 (!w.params.followText "set-order"))}
def Q7{Q:Value->aA7->Prop}(h:Q (.ref s.heap.objs.size) {s with heap:=s.heap.push (GF w)}):aM9 (aD9 prog w) A (.call (.builtin "set.__new__") ⟨[.type "set"],[]⟩) (wants Q E) s:=by
 refine aX3 (bB2 F.plain_set_new _) F.entry_set_new (aT9 F.newCall_set_0 ?_)
 rw[aO4 F.plain_set_new _]
 unfold aE0.«set.__new__» aE0.Frozenset.newClass
 have hsub:=sub_set_self
 obtain⟨hp,g,d,tk,os⟩:=s
 dsimp only
 wp_walk
 exact aP3 (aA4 (aA2 (wpAny_alloc (aA4 (aA4 h)))))
def Ra{Q:Value->aA7->Prop}(h:Q (.ref s.heap.objs.size) {s with heap:=s.heap.push (GF w)}):aD2 (aD9 prog w) A (call (.type "set") []) Q E s:=by
 obtain⟨c,tl,hmro⟩:=aR8.mro
 have hmade:=aR8.made
 have hsub:=aR8.sub
 refine aR9 (bH0 ?_)
 show aD2 _ _ (callAny (.type "set") _) _ _ _
 refine aA4 ⟨bD4 _ (by decide +kernel),aS5 F.entry_type_call ?_⟩
 rw[aH7.under_plain (weight_type_call_type "set" [] []) rfl]
 have h1:=aR8.notType
 have h2:=aR8.canCreate
 have hct:=F.typeCall_set_0
 repeat (any_goals (first | assumption | wp_step))
 refine aK6 (Q7 (E:=E) (Q:=λobj s₁=>obj = .ref s.heap.objs.size/\s₁ = {s with heap:=s.heap.push (GF w)}) ⟨rfl,rfl⟩) λr s₁ hr=>?_
 cases r with
 | error e=>exact hr
 | ok fl=>
  cases fl with
  | ret obj=>
   obtain⟨rfl,rfl⟩:=hr
   have hT:aA7.TypeIs {s with heap:=s.heap.push (GF w)} (.ref s.heap.objs.size) "set":=⟨_,aC4 _ rfl,rfl⟩
   have hli:=aR8.init.lookup
   have hbi:=aR8.init.bind (.ref s.heap.objs.size)
   repeat (any_goals (first | assumption | wp_step))
   refine aK6 (aM4 (R:=wants (λr s₂=>r = .none/\Q (.ref s.heap.objs.size) s₂) E) aR8.init.plain F.entry_set_init (check_set_init hT ?_)) λr₂ s₂ hr₂=>?_
   ·unfold aE0.«set.__init__» noKeywords
    wp_walk
    exact⟨rfl,h⟩
   ·cases r₂ with
    | error e=>exact hr₂
    | ok fl₂=>
     cases fl₂ with
     | ret r=>
      obtain⟨rfl,hq⟩:=hr₂
      repeat (any_goals (first | assumption | wp_step))
     | _=>exact hr₂.elim
  | _=>exact hr.elim
end
set_option genInjectivity true in
inductive AB where
 | int (i:Int)
 | str (s:Str)
deriving DecidableEq
inductive SK where
 | tup | lst | mat
deriving DecidableEq
inductive Bi where
 | len | range | set | enumerate | sum | append | pop | sort | get | setdefault | has | tnew | tuple | list | map | extend | divmod | min | sorted | index | max | add
noncomputable def Bi.val(b:Bi):Value:=match b with
 | .len=>.builtin "len"
 | .range=>.type "range"
 | .set=>.type "set"
 | .enumerate=>.type "enumerate"
 | .sum=>.builtin "sum"
 | .append=>.builtin "list.append"
 | .pop=>.builtin "list.pop"
 | .sort=>.builtin "list.sort"
 | .get=>.builtin "dict.get"
 | .setdefault=>.builtin "dict.setdefault"
 | .has=>.builtin "set.__contains__"
 | .tnew=>.builtin "tuple.__new__"
 | .tuple=>.type "tuple"
 | .list=>.type "list"
 | .map=>.type "map"
 | .extend=>.builtin "list.extend"
 | .divmod=>.builtin "divmod"
 | .min=>.builtin "min"
 | .sorted=>.builtin "sorted"
 | .index=>.builtin "list.index"
 | .max=>.builtin "max"
 | .add=>.builtin "set.add"
inductive AV where
 | none
 | bool (b:Bool)
 | key (k:AB)
 | seq (k:SK) (vs:List AV)
 | ref (x:Nat)
 | fn (b:Bi)
 | glo (a:aC1)
 | bm (f:Bi) (x:AV)
 | dct (es:List (AB×AV))
 | fset (xs:List AB)
 | lam
noncomputable abbrev AV.int(i:Int):AV:=.key (.int i)
noncomputable abbrev AV.str(s:Str):AV:=.key (.str s)
noncomputable abbrev AV.tup(vs:List AV):AV:=.seq .tup vs
noncomputable abbrev AV.lst(vs:List AV):AV:=.seq .lst vs
noncomputable abbrev AV.mat(vs:List AV):AV:=.seq .mat vs
inductive AO where
 | list (vs:List AV)
 | dict (es:List (AB×AV))
 | set (xs:List AB)
 | inst (C:aC1) (attrs:List (Str×AV))
 | tab (b:Bool)
structure St where
 ρ:List (Str×AV)
 H:List (Nat×AO)
 n:Nat
 anc:Nat
inductive AT where
 | loc
 | lock
 | cell (x:Str)
 | obj (x:Nat)
 | dict (x:Nat)
structure Ű where
 tag:aC1->Option AT
 μ:Nat->aC1
 δ:Nat->aC1
def Ű.own(G:Ű)(a:aC1):Prop:=G.tag a≠none
def Ű.mt(G:Ű)(a:aC1):Prop:=∃p,G.tag a=some p/\p≠.lock
def A3{G:Ű}{a:aC1}{p:AT}(h:G.tag a=some p):G.own a:=λz=>Option.noConfusion rfl (heq_of_eq (h.symm.trans z))
def Ű.mt_own{G:Ű}{a:aC1}(h:G.mt a):G.own a:=h.elim λ_ e=>A3 e.1
noncomputable def Aa:AB->Value->Bool
 | .int i,.int j _=>i==j
 | .str s,.str t _=>s==t
 | _,_=>false
noncomputable def Ao(vs:List Value)(n:Nat):Obj:={cls:=.type "tuple",data:=.seq vs.toArray n}
noncomputable def Ad(vs:List Value)(n:Nat):Obj:={cls:=.type "list",data:=.seq vs.toArray n}
noncomputable def BW(C:aC1)(vs:List Value)(e:Nat×Option aC1):Obj:={cls:=.ref C,dict:=e.2,data:=.seq vs.toArray e.1}
noncomputable def Cq(f v:Value):Obj:={cls:=.type "builtin_function_or_method",data:=.fields #[f,v]}
def Au{i:Int}{v:Value}(h:Aa (.int i) v=true) :∃t,v = .int i t:=by
 cases v with
 | int j t=>exact⟨t,bO6 (bA4 · t) (aF2 h).symm⟩
 | _=>cases h
def Ay{i:Str}{v:Value}(h:Aa (.str i) v=true) :∃t,v = .str i t:=by
 cases v with
 | str j t=>exact⟨t,bO6 (bL1 · t) (aF2 h).symm⟩
 | _=>cases h
def D9{a b:AB}{v:Value}(ha:Aa a v=true)(hb:Aa b v=true):a=b:=by
 cases a with
 | int i=>obtain⟨t,rfl⟩:=Au ha;cases b with
  | int j=>exact bO6 AB.int (aF2 hb).symm
  | str=>cases hb
 | str i=>obtain⟨t,rfl⟩:=Ay ha;cases b with
  | int=>cases hb
  | str j=>exact bO6 AB.str (aF2 hb).symm
noncomputable def keyHash(w:aB9):AB->Int
 | .int i=>hashInt i
 | .str s=>hashStr w s
def NV(i j:Int):(i==j)=decide (AB.int i=AB.int j):=(bP5 (p:=i=j)).mpr ⟨bO6 AB.int,AB.int.inj⟩
def Ti(i j:Str):(i==j)=decide (AB.str i=AB.str j):=bC0.mpr (beq_iff_eq.trans (Iff.trans ⟨bO6 AB.str,AB.str.inj⟩ decide_eq_true_iff.symm))
def M5(prog:aG3)(w:aB9){A E s}{a b:AB}{u v:Value}{Q:Bool->aA7->Prop}(hu:Aa a u=true)(hv:Aa b v=true)(h:Q (decide (a=b)) s):aD2 (aD9 prog w) A (eqBool u v) Q E s:=by
 cases a with
 | int i=>
  obtain⟨t,rfl⟩:=Au hu
  cases b with
  | int j=>
   obtain⟨t',rfl⟩:=Au hv
   exact(intKind prog w).eqBool (bM3 prog w i t) (bM3 prog w j t') ((decide_eq_decide.mpr ⟨bO6 AB.int,AB.int.inj⟩:decide (i=j)=decide (AB.int i=AB.int j))▸h)
  | str j=>
   obtain⟨t',rfl⟩:=Ay hv
   exact aX9.int_str i t j t' _ _ _ _ h
 | str i=>
  obtain⟨t,rfl⟩:=Ay hu
  cases b with
  | int j=>
   obtain⟨t',rfl⟩:=Au hv
   exact aX9.str_int i t j t' _ _ _ _ h
  | str j=>
   obtain⟨t',rfl⟩:=Ay hv
   exact(PySem.strKind prog w).eqBool (bM4 prog w i t) (bM4 prog w j t') ((decide_eq_decide.mpr ⟨bO6 AB.str,AB.str.inj⟩:decide (i=j)=decide (AB.str i=AB.str j))▸h)
def Af(prog:aG3)(w:aB9):PySem.KeyKind prog w AB where
 is:=Aa
 hash:=keyHash w
 inj:=λv a b ha hb=>D9 ha hb
 byValue:=λk v h=>by
  cases k with
  | int i=>obtain⟨t,rfl⟩:=Au h;rfl
  | str i=>obtain⟨t,rfl⟩:=Ay h;rfl
 pyHash:=λ{A E s k v Q} hv h=>by
  cases k with
  | int i=>obtain⟨t,rfl⟩:=Au hv;exact(intKind prog w).pyHash (bM3 prog w i t) h
  | str i=>obtain⟨t,rfl⟩:=Ay hv;exact(PySem.strKind prog w).pyHash (bM4 prog w i t) h
 eqBool:=λhu hv h=>M5 prog w hu hv h
 «strs»:=λk x t v h=>by
  cases k with
  | int i=>cases h
  | str i=>
   obtain rfl:i=x:=aF2 h
   cases v with
   | str j u=>exact Bool.beq_comm
   | _=>rfl
structure CU where
 prog:aG3
 w:aB9
 C:aC1
 lam:Value->aS6
 lq:Str
section
variable(L:CU)(h:aF0)(a:aC1)
def SK.cls(k:SK):Value:=SK.rec (.type "tuple") (.type "list") (.ref L.C) k
def SK.dict(k:SK)(d:Option aC1):Option aC1:=SK.rec none none d k
def W0(k:SK)(vs:List Value)(e:Nat×Option aC1):Obj:={cls:=k.cls L,dict:=k.dict e.2,data:=.seq vs.toArray e.1}
def CU.sq(k:SK)(vs:List Value):Prop:=∃e,h.get? a=some (W0 L k vs e)
def CU.dct(kvs:List (AB×Value)):Prop:=h.DictOf (Af L.prog L.w) a kvs/\(a==sysModules)=false
def CU.fun(u:Value):Prop:=h.get? a=some {cls:=.type "function",data:=.func (L.lam u)}
def CU.codF(b:Array Value×Tok)(_:aC1)(o:Obj):Prop:=o.data = .fields b.1/\b.1[1]?=some (.str L.lq b.2)
def CU.cod(b:Array Value×Tok):Prop:=∃o,h.get? a=some o/\L.codF b a o
def Vz(w:aB9):Prop:=∃o es ep t,h.get? a=some o/\o.data = .set es ep t/\TA w t
def CU.set(ks:List AB):Prop:=h.SetOf (Af L.prog L.w) a (λk=>decide (k∈ks)) ks.length/\ks.Nodup/\Vz h a L.w
end
structure IJ(P:aF0->aC1->Prop):Prop where
 inn :∀{h a},P h a->∃o,h.get? a=some o
 keep :∀{h h':aF0} {a},(∀o,h.get? a=some o->h'.get? a=some o)->P h a->P h' a
def IJ.at(f:aC1->Obj->Prop):IJ λh a=>∃o,h.get? a=some o/\f a o:=⟨λq=>q.imp λ_ e=>e.1,λk q=>q.imp λ_ e=>⟨k _ e.1,e.2⟩⟩
section
variable{L:CU}
def JE(k:SK)(vs:List Value):IJ λh a=>L.sq h a k vs:=⟨λq=>q.elim λ_ e=>⟨_,e⟩,λk q=>q.imp λ_ e=>k _ e⟩
def Fe(vs:List (AB×Value)):IJ λh a=>L.dct h a vs:=⟨λq=>q.1.imp λ_ x=>x.elim λ_ x=>x.elim λ_ x=>x.1,λk q=>⟨q.1.at k,q.2⟩⟩
def HZ(ks:List AB):IJ λh a=>L.set h a ks:=⟨λq=>q.1.objOf.imp λ_ x=>x.1,λk q=>⟨q.1.imp λ_ x=>x.imp λ_ x=>x.imp λ_ x=>x.imp λ_ x=>⟨k _ x.1,x.2⟩,q.2.1,q.2.2.imp λ_ x=>x.imp λ_ x=>x.imp λ_ x=>x.imp λ_ x=>⟨k _ x.1,x.2⟩⟩⟩
def Qi(u:Value):IJ λh a=>L.fun h a u:=⟨λe=>⟨_,e⟩,λk e=>k _ e⟩
def QY(b:Array Value×Tok):IJ λh a=>L.cod h a b:=IJ.at (L.codF b)
def UY(f v:Value):IJ λh a=>h.get? a=some (Cq f v):=⟨λe=>⟨_,e⟩,λk e=>k _ e⟩
end
inductive EF{β:Type}(P:aC1->β->Prop)(G:Ű)(R:β->Prop)(v:Value):Prop
 | mk (a:aC1) (b:β) (hv:v = .ref a) (hp:P a b) (ho:¬ G.own a) (hr:R b)
def Cj(G:Ű)(h:aF0)(G':Ű)(h':aF0):Prop:=∀a o,h.get? a=some o->¬ G.own a->h'.get? a=some o/\¬ G'.own a
def EF.imp{β:Type}{P:β->aF0->aC1->Prop}{G G':Ű}{h h':aF0}{R R':β->Prop}{v:Value}(t :∀b,IJ (P b))(k:Cj G h G' h')(r :∀b,R b->R' b)(q:EF (λa b=>P b h a) G R v):EF (λa b=>P b h' a) G' R' v:=
 q.casesOn λa b hv hp ho hr=>⟨a,b,hv,(t b).keep (λo e=>(k a o e ho).1) hp,((t b).inn hp).elim λo e=>(k a o e ho).2,r b hr⟩
section
variable(L:CU)(G:Ű)(h:aF0)(n:Nat)
mutual
def A8:AV->Value->Prop
 | .none,v=>v = .none
 | .bool b,v=>v = .bool b
 | .key k,v=>Aa k v=true
 | .seq k avs,v=>EF (λa us=>L.sq h a k us) G (A2 avs) v
 | .ref x,v=>v = .ref (G.μ x)/\x<n
 | .fn b,v=>v=b.val
 | .glo a,v=>v = .ref a
 | .bm f x,v=>EF (λa u=>h.get? a=some (Cq f.val u)) G (A8 x) v
 | .dct es,v=>EF (L.dct h) G (Ai es) v
 | .fset ks,v=>EF (λa (_:Unit)=>L.set h a ks) G (λ_=>True) v
 | .lam,v=>EF (L.fun h) G (EF (L.cod h) G λ_=>True) v
def A2:List AV->List Value->Prop
 | [],vs=>vs=[]
 | a::as,vs=>∃v r,vs=v::r/\A8 a v/\A2 as r
def Ai:List (AB×AV)->List (AB×Value)->Prop
 | [],vs=>vs=[]
 | a::as,vs=>∃v r,vs=(a.1,v)::r/\Vl a v/\Ai as r
def Vl:AB×AV->Value->Prop
 | (_,a),v=>A8 a v
end
end
section
variable(g:Nat->Option AV)
mutual
noncomputable def AV.sub:AV->Option AV
 | .ref x=>g x
 | .seq k vs=>(AD vs).map (.seq k)
 | .bm f x=>x.sub.map (.bm f)
 | .dct es=>(AI es).map .dct
 | v=>some v
noncomputable def AD:List AV->Option (List AV)
 | []=>some []
 | a::r=>a.sub.bind λa'=>(AD r).map (a' :: ·)
noncomputable def AI:List (AB×AV)->Option (List (AB×AV))
 | []=>some []
 | a::r=>(Ea a).bind λa'=>(AI r).map ((a.1,a') :: ·)
noncomputable def Ea:AB×AV->Option AV
 | (_,a)=>a.sub
end
end
noncomputable def AN(g:Nat->Option AV):List (Str×AV)->Option (List (Str×AV))
 | []=>some []
 | a::r=>(a.2.sub g).bind λa'=>(AN g r).map ((a.1,a') :: ·)
def AO.sub(g:Nat->Option AV):AO->Option AO
 | .list vs=>(AD g vs).map .list
 | .dict es=>(AI g es).map .dict
 | .inst C at_=>(AN g at_).map (.inst C)
 | o=>some o
def map_some{α β:Type}{f:α->β}{o:Option α}{b:β}(h:o.map f=some b) :∃a,o=some a/\f a=b:=by
 cases o with
 | none=>cases h
 | some a=>exact⟨a,rfl,aA1 h⟩
def AF{α β:Type}{f:α->Option β}{o:Option α}{b:β}(h:o.bind f=some b) :∃a,o=some a/\f a=some b:=by
 cases o with
 | none=>cases h
 | some a=>exact⟨a,rfl,h⟩
def DJ{α β:Type}{f:α->β}{P:β->Prop}{o:Option α}{b:β}(h:o.map f=some b)(k :∀a,o=some a->P (f a)):P b:=by
 obtain⟨a,e,rfl⟩:=map_some h
 exact k a e
def JF{α β γ:Type}{f:α->β}{P:β->γ->Prop}{o:Option α}{b:β}{c:γ}(h:o.map f=some b)(k :∀a,o=some a->P (f a) c):P b c:=DJ (P:=(P · c)) h k
def Fd{β γ:Type}{f:β->γ}{o:Option β}{l:Option (List γ)}{b:List γ}{δ:Type}{P:List γ->δ->Prop}{c:δ}(h:(o.bind λa=>l.map (f a :: ·))=some b)(k :∀a r,o=some a->l=some r->P (f a::r) c):P b c:=by
 obtain⟨a,e,h⟩:=AF h
 obtain⟨r,e',rfl⟩:=map_some h
 exact k a r e e'
section
variable{L:CU}{G G':Ű}{h h':aF0}{n n':Nat}{g:Nat->Option AV}(k:Cj G h G' h')(hg :∀x w,g x=some w->x<n->A8 L G' h' n' w (.ref (G.μ x)))
include k hg
theorem A8.sub(av:AV) :∀av' v,av.sub g=some av'->A8 L G h n av v->A8 L G' h' n' av' v:=by
 refine AV.rec (motive_1:=λav=>∀av' v,av.sub g=some av'->A8 L G h n av v->A8 L G' h' n' av' v) (motive_2:=λas=>∀as' vs,AD g as=some as'->A2 L G h n as vs->A2 L G' h' n' as' vs)
  (motive_3:=λas=>∀as' vs,AI g as=some as'->Ai L G h n as vs->Ai L G' h' n' as' vs) (motive_4:=λp=>∀a' v,Ea g p=some a'->Vl L G h n p v->A8 L G' h' n' a' v)
  (λ_ _ e=>aA1 e▸id) (λ_ _ _ e=>aA1 e▸id) (λ_ _ _ e=>aA1 e▸id) (λkd vs ih av' v e q=>JF e λas e=>EF.imp (JE kd) k (λb=>ih as b e) q) (λx av' v e q=>?_) (λ_ _ _ e=>aA1 e▸id) (λ_ _ _ e=>aA1 e▸id) (λf x ih av' v e q=>JF e λas e=>EF.imp (UY f.val) k (λb=>ih as b e) q)
  (λvs ih av' v e q=>JF e λas e=>EF.imp Fe k (λb=>ih as b e) q) (λks av' v e q=>aA1 e▸EF.imp (λ_=>HZ ks) k (λ_=>id) q)
  (λav' v e q=>aA1 e▸EF.imp Qi k (λ_=>EF.imp QY k λ_=>id) q)
  (λ_ _ e=>aA1 e▸id) (λa r i1 i2 as' vs e q=>?_) (λ_ _ e=>aA1 e▸id) (λa r i1 i2 as' vs e q=>?_) (λkey a ih=>ih) av
 ·have q:v = .ref (G.μ x)/\x<n:=q
  rw[q.1]
  exact hg x av' e q.2
 ·exact Fd e λa' r' e1 e2=>q.imp λv q=>q.imp λu q=>⟨q.1,i1 a' v e1 q.2.1,i2 r' u e2 q.2.2⟩
 ·exact Fd e λa' r' e1 e2=>q.imp λv q=>q.imp λu q=>⟨q.1,i1 a' v e1 q.2.1,i2 r' u e2 q.2.2⟩
theorem A2.sub{as as':List AV}{vs:List Value}(e:AD g as=some as')(q:A2 L G h n as vs):A2 L G' h' n' as' vs:=
 aB5 (motive:=λas=>∀as' vs,AD g as=some as'->A2 L G h n as vs->A2 L G' h' n' as' vs) (λ_ _ e=>aA1 e▸id)
  (λa r ih as' vs e q=>Fd e λa' r' e1 e2=>q.imp λv q=>q.imp λu q=>⟨q.1,A8.sub k hg a a' v e1 q.2.1,ih r' u e2 q.2.2⟩) as as' vs e q
theorem Ai.sub{as as':List (AB×AV)}{vs:List (AB×Value)}(e:AI g as=some as')(q:Ai L G h n as vs):Ai L G' h' n' as' vs:=
 aB5 (motive:=λas=>∀as' vs,AI g as=some as'->Ai L G h n as vs->Ai L G' h' n' as' vs) (λ_ _ e=>aA1 e▸id)
  (λa r ih as' vs e q=>by obtain⟨key,a⟩:=a;exact Fd e λa' r' e1 e2=>q.imp λv q=>q.imp λu q=>⟨q.1,A8.sub k hg a a' v e1 q.2.1,ih r' u e2 q.2.2⟩) as as' vs e q
end
section
variable(L:CU)(G:Ű)(h:aF0)(n:Nat)
def AZ:List (Str×AV)->List aO6->Prop
 | [],l=>l=[]
 | a::r,l=>∃hsh t v l',l=⟨hsh,.str a.1 t,v⟩::l'/\A8 L G h n a.2 v/\AZ r l'
inductive ID{β:Type}(P R:β->Prop):Prop
 | mk (b:β) (hp:P b) (hr:R b)
inductive dZ(x:Nat)(C:aC1)(R:List aO6->Prop):Prop
 | mk (es:List aO6) (e:Nat) (h1:h.get? (G.μ x)=some (instObj C (G.δ x))) (h2:h.get? (G.δ x)=some (dictOf es e)) (hr:R es) (ht:G.tag (G.δ x)=some (.dict x))
def C6(x:Nat):AO->Prop
 | .list avs=>ID (λus=>L.sq h (G.μ x) .lst us) (A2 L G h n avs)
 | .dict es=>ID (L.dct h (G.μ x)) (Ai L G h n es)
 | .set ks=>L.set h (G.μ x) ks
 | .inst C attrs=>dZ G h x C (AZ L G h n attrs)
 | .tab b=>∃o,h.get? (G.μ x)=some o/\∃ps:Array Value,o = {cls:=.none,data:=.fields ps}/\(b=false->ps = #[])
end
noncomputable def AO.two:AO->Bool
 | .inst ..=>true
 | _=>false
def ID.imp{β:Type}{P P' R R':β->Prop}(k :∀b,P b->P' b)(r :∀b,R b->R' b)(q:ID P R):ID P' R':=q.casesOn λb hp hr=>⟨b,k b hp,r b hr⟩
section
variable{L:CU}{G G':Ű}{h h':aF0}{n n':Nat}{g:Nat->Option AV}
theorem AZ.sub(k:Cj G h G' h')(hg :∀x w,g x=some w->x<n->A8 L G' h' n' w (.ref (G.μ x))){as as':List (Str×AV)}{es:List aO6}(e:AN g as=some as')(q:AZ L G h n as es):AZ L G' h' n' as' es:=
 aB5 (motive:=λas=>∀as' vs,AN g as=some as'->AZ L G h n as vs->AZ L G' h' n' as' vs) (λ_ _ e=>aA1 e▸id)
  (λa r ih as' vs e q=>Fd (f:=λa'=>(a.1,a')) e λa' r' e1 e2=>q.imp λ_ q=>q.imp λ_ q=>q.imp λv q=>q.imp λu q=>⟨q.1,A8.sub k hg a.2 a' v e1 q.2.1,ih r' u e2 q.2.2⟩) as as' es e q
theorem C6.sub(k:Cj G h G' h')(hg :∀x w,g x=some w->x<n->A8 L G' h' n' w (.ref (G.μ x))){x y:Nat}(e1:G'.μ y=G.μ x)(e2:G'.δ y=G.δ x)
  (h1 :∀o,h.get? (G.μ x)=some o->h'.get? (G.μ x)=some o) (h2:G.tag (G.δ x)=some (.dict x)->(∀o,h.get? (G.δ x)=some o->h'.get? (G.δ x)=some o)/\G'.tag (G.δ x)=some (.dict y)) :
  ∀(o o':AO),o.sub g=some o'->C6 L G h n x o->C6 L G' h' n' y o':=by
 intro o o' e q
 cases o with
 | list vs=>exact DJ e λvs' e=>ID.imp (λb p=>e1.symm▸(JE .lst b).keep h1 p) (λb r=>A2.sub k hg e r) q
 | dict vs=>exact DJ e λvs' e=>ID.imp (λb p=>e1.symm▸(Fe b).keep h1 p) (λb r=>Ai.sub k hg e r) q
 | set ks=>exact aA1 e▸(e1.symm▸(HZ ks).keep h1 q:L.set h' (G'.μ y) ks)
 | tab b=>exact aA1 e▸(e1.symm▸q.imp λo q=>⟨h1 o q.1,q.2⟩ :∃o,h'.get? (G'.μ y)=some o/\∃ps:Array Value,o = {cls:=.none,data:=.fields ps}/\(b=false->ps = #[]))
 | inst C at_=>exact DJ e λvs' e=>q.casesOn λes z q1 Ľ q3 ő=>⟨es,z,by rw[e1,e2];exact h1 _ q1,e2.symm▸(h2 ő).1 _ Ľ,AZ.sub k hg e q3,e2.symm▸(h2 ő).2⟩
def C6.tagd{y:Nat}{o:AO}(q:C6 L G h n y o)(ho:o.two=true):G.tag (G.δ y)=some (.dict y):=by
 cases o with
 | inst C at_=>exact q.casesOn λ_ _ _ _ _ t=>t
 | _=>cases ho
end
def Cw{α β:Type}{o:Option β}{l:Option (List α)}{f:β->α}{a:β}{r:List α}(h1:o=some a)(h2:l=some r):(o.bind λa=>l.map (f a :: ·))=some (f a::r):=by rw[h1,h2];rfl
def sub_id(av:AV):av.sub (λx=>some (.ref x))=some av:=
 AV.rec (motive_1:=λav=>av.sub (λx=>some (.ref x))=some av) (motive_2:=λas=>AD (λx=>some (.ref x)) as=some as)
  (motive_3:=λas=>AI (λx=>some (.ref x)) as=some as) (motive_4:=λp=>Ea (λx=>some (.ref x)) p=some p.2)
  rfl (λ_=>rfl) (λ_=>rfl) (λk _=>bO6 (aD8 (AV.seq k))) (λ_=>rfl) (λ_=>rfl) (λ_=>rfl)
  (λf _=>bO6 (aD8 (AV.bm f))) (λ_=>bO6 (aD8 AV.dct)) (λ_=>rfl) rfl rfl (λa r i1 i2=>Cw i1 i2) rfl (λa r i1 i2=>Cw (f:=λb=>(a.1,b)) i1 i2) (λ_ _ ih=>ih) av
def Dh(as:List AV):AD (λx=>some (.ref x)) as=some as:=aB5 rfl (λa r ih=>Cw (sub_id a) ih) as
def FE(as:List (AB×AV)):AI (λx=>some (.ref x)) as=some as:=aB5 rfl (λa r ih=>by obtain⟨key,a⟩:=a;exact Cw (f:=λb=>(key,b)) (sub_id a) ih) as
def GM(as:List (Str×AV)):AN (λx=>some (.ref x)) as=some as:=aB5 rfl (λa r ih=>Cw (f:=λb=>(a.1,b)) (sub_id a.2) ih) as
def AO.sub_id :∀o:AO,o.sub (λx=>some (.ref x))=some o:=λo=>by
 cases o with
 | list vs=>exact bO6 (aD8 AO.list) (Dh vs)
 | dict vs=>exact bO6 (aD8 AO.dict) (FE vs)
 | inst C vs=>exact bO6 (aD8 (AO.inst C)) (GM vs)
 | _=>rfl
section
variable{α β:Type} [BEq α] [LawfulBEq α]
def Al(l:List (α×β))(x:α)(v:β):List (α×β):=aB5 [(x,v)] (λp r ih=>bif p.1==x then(p.1,v)::r else p::ih) l
def AS(y:α)(p:α×β)(r:List (α×β)):(p::r).lookup y=bif y==p.1 then some p.2 else r.lookup y:=by
 show(match y==p.1 with | true=>_ | false=>_)=_
 cases y==p.1<;>rfl
def EO(x y:α)(v:β)(l:List (α×β)):(Al l x v).lookup y=bif y==x then some v else l.lookup y:=by
 refine aB5 (AS y (x,v) []) (λp r ih=>?_) l
 show(bif p.1==x then(p.1,v)::r else p::Al r x v).lookup y=_
 rw[AS]
 cases hp:p.1==x with
 | true=>
  rw[<-aF2 hp]
  refine(AS y (p.1,v) r).trans ?_
  cases y==p.1<;>rfl
 | false=>
  refine(AS y p _).trans ?_
  rw[ih]
  cases hy:y==p.1 with
  | true=>rw[aF2 hy,hp];rfl
  | false=>rfl
def CC{l:List (α×β)}{x y:α}{v w:β}{P:Prop}(h:(Al l x v).lookup y=some w)(a:y=x->v=w->P)(b:y≠x->l.lookup y=some w->P):P:=by
 rw[EO]at h
 cases hy:y==x with
 | true=>rw[hy]at h;exact a (aF2 hy) (aA1 h)
 | false=>rw[hy]at h;exact b (ne_of_beq_false hy) h
end
def St.put(σ:St)(x:Str)(v:AV):St:=⟨Al σ.ρ x v,σ.H,σ.n,σ.anc⟩
def St.set(σ:St)(x:Nat)(o:AO):St:=⟨σ.ρ,Al σ.H x o,σ.n,σ.anc⟩
def St.new(σ:St)(o:AO):St:=⟨σ.ρ,Al σ.H σ.n o,σ.n+1,σ.anc⟩
structure Ŀ(G:Ű)(h:aF0)(G':Ű)(h':aF0):Prop where
 keep :∀a o,h.get? a=some o->¬ G.mt a->h'.get? a=some o
 own :∀a,G'.own a->G.own a\/h.objs.size<=a
 mt :∀a,G'.mt a->G.mt a\/h.objs.size<=a
 size:h.objs.size<=h'.objs.size
 lock :∀a,G.tag a=some .lock->G'.tag a=some .lock
def Ce{h:aF0}{a:aC1}{o:Obj}{P:Prop}(e:h.get? a=some o)(w:h.objs.size<=a):P:=bO9 (aI8 e) (aM3.mpr w)
def Ŀ.off{G G':Ű}{h h':aF0}(k:Ŀ G h G' h'){a:aC1}{o:Obj}(e:h.get? a=some o)(q:¬ G.own a):¬ G'.own a:=λz=>(k.own a z).elim q (Ce e)
def Ŀ.offm{G G':Ű}{h h':aF0}(k:Ŀ G h G' h'){a:aC1}{o:Obj}(e:h.get? a=some o)(q:¬ G.mt a):¬ G'.mt a:=λz=>(k.mt a z).elim q (Ce e)
def Ŀ.still{G G':Ű}{h h':aF0}(k:Ŀ G h G' h'):Cj G h G' h':=λa o e q=>⟨k.keep a o e λz=>q (Ű.mt_own z),k.off e q⟩
def Ŀ.refl(G:Ű)(h:aF0):Ŀ G h G h:=⟨λ_ _ e _=>e,λ_=>.inl,λ_=>.inl,aA9 _,λ_=>id⟩
def Ŀ.trans{G₁ G₂ G₃:Ű}{h₁ h₂ h₃:aF0}(a:Ŀ G₁ h₁ G₂ h₂)(b:Ŀ G₂ h₂ G₃ h₃):Ŀ G₁ h₁ G₃ h₃:=
 ⟨λx o e q=>b.keep x o (a.keep x o e q) (a.offm e q),λx e=>(b.own x e).elim (a.own x) λz=>.inr (aA3 a.size z),
  λx e=>(b.mt x e).elim (a.mt x) λz=>.inr (aA3 a.size z),aA3 a.size b.size,λx e=>b.lock x (a.lock x e)⟩
def Į(n:Nat)(G G':Ű):Prop:=∀x,x<n->G'.μ x=G.μ x/\G'.δ x=G.δ x
structure Cx where
 L:CU
 A:aH7
 env:Env
 hs:aF0
 h₀:aF0
 aG:Ű
 an:Nat
 gens:Array bK2
 os:aS0
abbrev Cx.en(X:Cx)(e:Env):Cx:={X with env:=e}
structure Ž where
 G:Ű
 σ:St
 s:aA7
noncomputable def Ž.hp(c:Ž)(σ:St)(h:aF0)(t:Nat):Ž:=⟨c.G,σ,{c.s with heap:=h,toks:=t}⟩
def VR(X:Cx)(c:Ž)(a:AV)(v:Value):Prop:=A8 X.L c.G c.s.heap c.σ.n a v
def Ŧ(X:Cx)(c:Ž)(a:List AV)(v:List Value):Prop:=A2 X.L c.G c.s.heap c.σ.n a v
def VD(X:Cx)(c:Ž)(a:List (AB×AV))(v:List (AB×Value)):Prop:=Ai X.L c.G c.s.heap c.σ.n a v
inductive Pb(X:Cx)(c:Ž):Prop
 | mk (m:Str->Option Value) (hm:c.s.heap.Ns X.env.locals m) (r :∀x av,c.σ.ρ.lookup x=some av->X.env.kindOf x=some .local->∃v,m x=some v/\VR X c av v)
inductive OX(X:Cx)(c:Ž)(x:Str)(a:aC1):Prop
 | mk (v:Option Value) (hv:c.s.heap.IsCell a v) (r :∀av,c.σ.ρ.lookup x=some av->X.env.kindOf x≠some .local->∃u,v=some u/\VR X c av u)
structure Fw(X:Cx)(c:Ž)(x:Nat)(o:AO):Prop where
 lt:x<c.σ.n
 tag:c.G.tag (c.G.μ x)=some (.obj x)
 rel:C6 X.L c.G c.s.heap c.σ.n x o
structure ŵ(X:Cx)(c:Ž):Prop where
 base :∀b o,X.h₀.get? b=some o->c.s.heap.get? b=some o
 keep :∀b o,X.hs.get? b=some o->¬ X.aG.mt b->c.s.heap.get? b=some o
 size:X.hs.objs.size<=c.s.heap.objs.size
 mutHs :∀a,c.G.mt a->X.aG.mt a\/X.hs.objs.size<=a
 ownB :∀a,c.G.own a->X.h₀.get? a=none
 ownLt :∀a,c.G.own a->a<c.s.heap.objs.size
 gens:c.s.gens=X.gens
 os:c.s.os=X.os
 loc:Pb X c
 cel :∀x a,X.env.cells.lookup x=some a->OX X c x a
 celAll :∀x,X.env.kindOf x=some .cell\/X.env.kindOf x=some .free->X.env.cells.lookup x=none->False
 tloc:c.G.tag X.env.locals=some .loc
 tcel :∀x a,X.env.cells.lookup x=some a->c.G.tag a=some (.cell x)
 obj :∀x o,c.σ.H.lookup x=some o->Fw X c x o
 anc:X.an<=c.σ.anc/\c.σ.anc<=c.σ.n/\∀i,i<X.an->c.G.μ i=X.aG.μ i/\c.G.δ i=X.aG.δ i
 bsz:X.h₀.objs.size<=c.s.heap.objs.size
structure Dy(c c':Ž):Prop where
 still:Cj c.G c.s.heap c'.G c'.s.heap
 nm:Į c.σ.n c.G c'.G
 n:c.σ.n<=c'.σ.n
structure Cb(X:Cx)(c c':Ž):Prop where
 kp:Ŀ c.G c.s.heap c'.G c'.s.heap
 pre:Dy c c'
 R:ŵ X c'
theorem Dy.trans{a b c:Ž}(x:Dy a b)(y:Dy b c):Dy a c:=
 ⟨λa o e q=>(x.still a o e q).elim λe q=>y.still a o e q,λz hz=>⟨(y.nm z (aB3 hz x.n)).1.trans (x.nm z hz).1,(y.nm z (aB3 hz x.n)).2.trans (x.nm z hz).2⟩,aA3 x.n y.n⟩
theorem Cb.trans{X:Cx}{a b c:Ž}(x:Cb X a b)(y:Cb X b c):Cb X a c:=⟨x.kp.trans y.kp,x.pre.trans y.pre,y.R⟩
theorem Cb.refl{X:Cx}{c:Ž}(R:ŵ X c):Cb X c c:=⟨.refl _ _,⟨(Ŀ.refl _ _).still,λ_ _=>⟨rfl,rfl⟩,aA9 _⟩,R⟩
section
variable{X:Cx}{c c':Ž}(p:Dy c c')
include p
theorem Dy.hg(L:CU) :∀x w,(λx=>some (AV.ref x)) x=some w->x<c.σ.n->A8 L c'.G c'.s.heap c'.σ.n w (.ref (c.G.μ x)):=λx w e hx=>by
 cases e
 exact⟨bO6 _ (p.nm x hx).1.symm,aB3 hx p.n⟩
theorem Dy.v{a:AV}{v:Value}(r:VR X c a v):VR X c' a v:=A8.sub p.still (p.hg _) a a v (sub_id a) r
theorem Dy.va{a:List AV}{v:List Value}(r:Ŧ X c a v):Ŧ X c' a v:=A2.sub p.still (p.hg _) (Dh a) r
theorem Dy.vd{a:List (AB×AV)}{v:List (AB×Value)}(r:VD X c a v):VD X c' a v:=Ai.sub p.still (p.hg _) (FE a) r
theorem Dy.loc(e:c'.σ.ρ=c.σ.ρ)(h :∀o,c.s.heap.get? X.env.locals=some o->c'.s.heap.get? X.env.locals=some o)(l:Pb X c):Pb X c':=
 l.casesOn λm hm r=>⟨m,hm.at' h,λx av e1 e2=>(r x av (e▸e1) e2).imp λv q=>⟨q.1,p.v q.2⟩⟩
theorem Dy.cel{x:Str}{a:aC1}(e:c'.σ.ρ=c.σ.ρ)(h :∀o,c.s.heap.get? a=some o->c'.s.heap.get? a=some o)(l:OX X c x a):OX X c' x a:=
 l.casesOn λv hv r=>⟨v,hv.imp λo q=>⟨h o q.1,q.2⟩,λav e1 e2=>(r av (e▸e1) e2).imp λu q=>⟨q.1,p.v q.2⟩⟩
theorem Dy.obj{x:Nat}{o:AO}(t1:c'.G.tag (c.G.μ x)=some (.obj x))(h1 :∀o,c.s.heap.get? (c.G.μ x)=some o->c'.s.heap.get? (c.G.μ x)=some o)
  (h2:c.G.tag (c.G.δ x)=some (.dict x)->(∀o,c.s.heap.get? (c.G.δ x)=some o->c'.s.heap.get? (c.G.δ x)=some o)/\c'.G.tag (c.G.δ x)=some (.dict x)) (q:Fw X c x o):Fw X c' x o:=
 ⟨aB3 q.lt p.n,(p.nm x q.lt).1.symm▸t1,C6.sub p.still (p.hg _) (p.nm x q.lt).1 (p.nm x q.lt).2 h1 h2 o o (AO.sub_id o) q.rel⟩
end
def ŵ.go{X:Cx}{c c':Ž}(R:ŵ X c)(k:Ŀ c.G c.s.heap c'.G c'.s.heap)(p:Dy c c')(hl :∀a,c'.G.own a->a<c'.s.heap.objs.size)(hg:c'.s.gens=c.s.gens)(ho:c'.s.os=c.s.os)(ha:c'.σ.anc=c.σ.anc)
  (tl :∀a q,c.G.tag a=some q->c'.G.tag a=some q) (loc:Pb X c') (cel :∀x a,X.env.cells.lookup x=some a->OX X c' x a) (obj :∀x o,c'.σ.H.lookup x=some o->Fw X c' x o):Cb X c c' where
 kp:=k
 pre:=p
 R:={
  base:=λb o e=>k.keep b o (R.base b o e) λz=>nomatch e.symm.trans (R.ownB b (Ű.mt_own z))
  keep:=λb o e q=>k.keep b o (R.keep b o e q) λz=>(R.mutHs b z).elim q (Ce e)
  size:=aA3 R.size k.size
  mutHs:=λa z=>(k.mt a z).elim (R.mutHs a) λw=>.inr (aA3 R.size w)
  ownB:=λa z=>(k.own a z).elim (R.ownB a) λw=>Option.eq_none_iff_forall_ne_some.mpr λo e=>Ce (R.base a o e) w
  ownLt:=hl
  gens:=hg.trans R.gens
  os:=ho.trans R.os
  loc:=loc
  cel:=cel
  celAll:=R.celAll
  tloc:=tl _ _ R.tloc
  tcel:=λx a e=>tl _ _ (R.tcel x a e)
  obj:=obj
  anc:=⟨ha.symm▸R.anc.1,ha.symm▸aA3 R.anc.2.1 p.n,λi e=>
   have hi:i<c.σ.n:=aB3 e (aA3 R.anc.1 R.anc.2.1)
   ⟨(p.nm i hi).1.trans (R.anc.2.2 i e).1,(p.nm i hi).2.trans (R.anc.2.2 i e).2⟩⟩
  bsz:=aA3 R.bsz k.size}
def ED{G:Ű}{a:aC1}{p:AT}(h:G.tag a=some p)(hp:p≠.lock):G.mt a:=⟨p,h,hp⟩
def E6{G:Ű}{a b:aC1}{p q:AT}(ha:G.tag a=some p)(hb:G.tag b=some q)(hn:p≠q):a≠b:=λe=>hn (aA1 ((e▸ha).symm.trans hb))
def LU(p:AT):Prop:=p = .loc\/∃y,p = .cell y
def FJ{x:Nat}:¬ LU (.obj x):=λz=>z.elim (λz=>nomatch z) λz=>z.elim λ_ z=>nomatch z
def EY{x:Nat}:¬ LU (.dict x):=λz=>z.elim (λz=>nomatch z) λz=>z.elim λ_ z=>nomatch z
section
variable{X:Cx}{c c':Ž}
def ŵ.gone(R:ŵ X c):¬ c.G.own c.s.heap.objs.size:=λz=>aM6 _ (R.ownLt _ z)
def ŵ.more(R:ŵ X c)(hk :∀a o,c.s.heap.get? a=some o->c'.s.heap.get? a=some o)(hs:c.s.heap.objs.size<=c'.s.heap.objs.size)(ht :∀a,a<c.s.heap.objs.size->c'.G.tag a=c.G.tag a)
  (hl :∀a,c'.G.own a->a<c'.s.heap.objs.size) (m:Į c.σ.n c.G c'.G) (hn:c.σ.n<=c'.σ.n) (hg:c'.s.gens=c.s.gens) (ho:c'.s.os=c.s.os) (er:c'.σ.ρ=c.σ.ρ) (ha:c'.σ.anc=c.σ.anc)
  (obj :∀x o,c'.σ.H.lookup x=some o->c.σ.H.lookup x=some o\/(Dy c c'->Fw X c' x o)):Cb X c c':=by
 have told :∀a p,c.G.tag a=some p->c'.G.tag a=some p:=λa p e=>(ht a (R.ownLt a (A3 e))).trans e
 have cs :∀{a} {P:Prop},(a<c.s.heap.objs.size->P)->P\/c.s.heap.objs.size<=a:=λ{a P} f=>(aY2 a c.s.heap.objs.size).imp f id
 have k:Ŀ c.G c.s.heap c'.G c'.s.heap:=⟨λa o e _=>hk a o e,λa e=>cs λl z=>e ((ht a l).trans z),λa e=>cs λl=>e.imp λp q=>⟨(ht a l).symm.trans q.1,q.2⟩,hs,λa=>told a _⟩
 have p:Dy c c':=⟨k.still,m,hn⟩
 exact R.go k p hl hg ho ha told (p.loc er (hk _) R.loc) (λx a e=>p.cel er (hk a) (R.cel x a e)) λx o e=>(obj x o e).elim (λe=>p.obj (told _ _ (R.obj x o e).tag) (hk _) (λz=>⟨hk _,told _ _ z⟩) (R.obj x o e)) λf=>f p
def ŵ.grow(R:ŵ X c){h':aF0}(t:Nat)(hk :∀a o,c.s.heap.get? a=some o->h'.get? a=some o)(hs:c.s.heap.objs.size<=h'.objs.size):Cb X c (c.hp c.σ h' t):=
 R.more hk hs (λ_ _=>rfl) (λa e=>aB3 (R.ownLt a e) hs) (λ_ _=>⟨rfl,rfl⟩) (aA9 _) rfl rfl rfl rfl λ_ _=>.inl
def ŵ.toks(R:ŵ X c)(t:Nat):Cb X c (c.hp c.σ c.s.heap t):=R.grow t (λ_ _ e=>e) (aA9 _)
def Cu{h:aF0}(o:Obj):h.objs.size<=(h.push o).objs.size:=aE3 h o▸aK1 _
theorem ŵ.push(R:ŵ X c)(o:Obj)(t:Nat):Cb X c (c.hp c.σ (c.s.heap.push o) t):=R.grow t (λ_ _ e=>aB1 o e) (Cu o)
def Ŀ.at{G:Ű}{h h':aF0}{a:aC1}(ha:G.mt a)(hb:aF7 a h h'):Ŀ G h G h':=⟨λb o e q=>(hb.2 b λz=>q (z▸ha)).trans e,λ_=>.inl,λ_=>.inl,aB7 hb.1.symm,λ_=>id⟩
theorem Dy.at{a:aC1}(ha:c.G.mt a){h':aF0}{t:Nat}{σ':St}(hb:aF7 a c.s.heap h')(e1:σ'.n=c.σ.n):Dy c (c.hp σ' h' t):=⟨(Ŀ.at ha hb).still,λ_ _=>⟨rfl,rfl⟩,aB7 e1.symm⟩
def ŵ.chg(R:ŵ X c){a:aC1}{pl:AT}(hp:c.G.tag a=some pl)(hl:pl≠.lock){h':aF0}{t:Nat}{σ':St}(hb:aF7 a c.s.heap h')(e1:σ'.n=c.σ.n)(e2:σ'.anc=c.σ.anc)
  (loc:LU pl->Pb X (c.hp σ' h' t)/\∀x a,X.env.cells.lookup x=some a->OX X (c.hp σ' h' t) x a) (hr:¬ LU pl->σ'.ρ=c.σ.ρ)
  (obj :∀x o,σ'.H.lookup x=some o->Fw X (c.hp σ' h' t) x o\/pl≠.obj x/\pl≠.dict x/\c.σ.H.lookup x=some o):Cb X c (c.hp σ' h' t):=by
 have p:Dy c (c.hp σ' h' t):=.at (ED hp hl) hb e1
 have kk :∀{b q},c.G.tag b=some q->pl≠q->∀o,c.s.heap.get? b=some o->h'.get? b=some o:=λ{b q} hq hn o e=>(hb.2 b (E6 hq hp hn.symm)).trans e
 have lc:Pb X (c.hp σ' h' t)/\∀x a,X.env.cells.lookup x=some a->OX X (c.hp σ' h' t) x a:=(aO1 (LU pl)).elim loc λhc=>⟨p.loc (hr hc) (kk R.tloc λz=>hc (.inl z)) R.loc,λx a e=>p.cel (hr hc) (kk (R.tcel x a e) λz=>hc (.inr ⟨x,z⟩)) (R.cel x a e)⟩
 exact R.go (.at (ED hp hl) hb) p (λb e=>hb.1.symm▸R.ownLt b e) rfl rfl e2 (λ_ _ e=>e) lc.1 lc.2 λx o e=>(obj x o e).elim id λq=>p.obj (R.obj x o q.2.2).tag (kk (R.obj x o q.2.2).tag q.1) (λz=>⟨kk z q.2.1,z⟩) (R.obj x o q.2.2)
def ŵ.storeLocal(R:ŵ X c){x:Str}{av:AV}{v:Value}(hx:X.env.kindOf x=some .local)(hv:VR X c av v){m:Str->Option Value}
  (hl :∀x av,c.σ.ρ.lookup x=some av->X.env.kindOf x=some .local->∃v,m x=some v/\VR X c av v)
  {h':aF0} {t:Nat} (hn:h'.Ns X.env.locals (λy=>if y=x then some v else m y)) (hb:aF7 X.env.locals c.s.heap h'):Cb X c (c.hp (c.σ.put x av) h' t):=by
 have p:Dy c (c.hp (c.σ.put x av) h' t):=.at (ED R.tloc λz=>nomatch z) hb rfl
 refine R.chg R.tloc (λz=>nomatch z) hb rfl rfl (λ_=>⟨⟨_,hn,λy w e1 e2=>?_⟩,λy a e=>?_⟩) (λz=>bO9 (.inl rfl) z) λy o e=>.inr ⟨λz=>(nomatch z),λz=>(nomatch z),e⟩
 ·exact CC e1 (λhy hw=>⟨v,bO7 hy,hw▸p.v hv⟩) λhy e1=>(hl y w e1 e2).imp λu q=>⟨(bO8 hy).trans q.1,p.v q.2⟩
 ·exact(R.cel y a e).casesOn λu hu r=>⟨u,hu.sameBut hb (E6 (R.tcel y a e) R.tloc λz=>nomatch z),λw e1 e2=>CC e1 (λhy _=>bO9 (hy▸hx) e2) λ_ e1=>(r w e1 e2).imp λu q=>⟨q.1,p.v q.2⟩⟩
def ŵ.storeCell(R:ŵ X c){x:Str}{a:aC1}{av:AV}{v:Value}(hx:X.env.kindOf x≠some .local)(hc:X.env.cells.lookup x=some a)(hv:VR X c av v)
  {h':aF0} {t:Nat} (hn:h'.IsCell a (some v)) (hb:aF7 a c.s.heap h'):Cb X c (c.hp (c.σ.put x av) h' t):=by
 have p:Dy c (c.hp (c.σ.put x av) h' t):=.at (ED (R.tcel x a hc) λz=>nomatch z) hb rfl
 refine R.chg (R.tcel x a hc) (λz=>nomatch z) hb rfl rfl (λ_=>⟨?_,λy b e=>?_⟩) (λz=>bO9 (.inr ⟨x,rfl⟩) z) λy o e=>.inr ⟨λz=>(nomatch z),λz=>(nomatch z),e⟩
 ·exact R.loc.casesOn λm hm r=>⟨m,hm.sameBut hb (E6 R.tloc (R.tcel x a hc) λz=>nomatch z),λy w e1 e2=>CC e1 (λhy _=>bO9 (hy▸e2) hx) λ_ e1=>(r y w e1 e2).imp λu q=>⟨q.1,p.v q.2⟩⟩
 ·refine(aO1 (y=x)).elim (λhy=>⟨some v,aA1 ((hy▸e).symm.trans hc)▸hn,λw e1 _=>CC e1 (λ_ hw=>⟨v,rfl,hw▸p.v hv⟩) λz _=>bO9 hy z⟩) λhy=>?_
  exact(R.cel y b e).casesOn λu hu r=>⟨u,hu.sameBut hb (E6 (R.tcel y b e) (R.tcel x a hc) λz=>hy (by cases z;rfl)),λw e1 e2=>CC e1 (λz _=>bO9 z hy) λ_ e1=>(r w e1 e2).imp λu q=>⟨q.1,p.v q.2⟩⟩
def ŵ.setAt(R:ŵ X c){x:Nat}{o₀ o:AO}(hx:c.σ.H.lookup x=some o₀){a:aC1}{pl:AT}(hp:c.G.tag a=some pl)(h2:pl = .obj x\/pl = .dict x){h':aF0}{t:Nat}(hb:aF7 a c.s.heap h')
  (hr:Dy c (c.hp (c.σ.set x o) h' t)->C6 X.L c.G h' c.σ.n x o):Cb X c (c.hp (c.σ.set x o) h' t):=by
 have hl:pl≠.lock:=λz=>h2.elim (λw=>nomatch z.symm.trans w) λw=>nomatch z.symm.trans w
 have no:¬ LU pl:=h2.elim (λw=>w▸FJ) λw=>w▸EY
 refine R.chg hp hl hb rfl rfl (λz=>bO9 z no) (λ_=>rfl) λy o' e=>CC e (λhy hw=>.inl ?_) λhy e=>.inr ⟨λz=>?_,λz=>?_,e⟩
 ·subst hy;subst hw
  exact⟨(R.obj y o₀ hx).lt,(R.obj y o₀ hx).tag,hr (.at (ED hp hl) hb rfl)⟩
 ·exact h2.elim (λw=>hy (by cases z.symm.trans w;rfl)) λw=>nomatch z.symm.trans w
 ·exact h2.elim (λw=>nomatch z.symm.trans w) λw=>hy (by cases z.symm.trans w;rfl)
def ŵ.setObj(R:ŵ X c){x:Nat}{o₀ o:AO}(hx:c.σ.H.lookup x=some o₀){h':aF0}{t:Nat}(hb:aF7 (c.G.μ x) c.s.heap h')(hr:Dy c (c.hp (c.σ.set x o) h' t)->C6 X.L c.G h' c.σ.n x o):Cb X c (c.hp (c.σ.set x o) h' t):=
 R.setAt hx (R.obj x o₀ hx).tag (.inl rfl) hb hr
def ŵ.setInst(R:ŵ X c){x:Nat}{o₀ o:AO}(hx:c.σ.H.lookup x=some o₀)(h2:o₀.two=true){h':aF0}{t:Nat}(hb:aF7 (c.G.δ x) c.s.heap h')(hr:Dy c (c.hp (c.σ.set x o) h' t)->C6 X.L c.G h' c.σ.n x o):Cb X c (c.hp (c.σ.set x o) h' t):=
 R.setAt hx ((R.obj x o₀ hx).rel.tagd h2) (.inr rfl) hb hr
def ŵ.chgs(R:ŵ X c){S:AT->Prop}(hS :∀p,S p->∃x,p = .obj x\/p = .dict x)(k :∀b o,c.s.heap.get? b=some o->(∀p,c.G.tag b=some p->¬ S p)->c'.s.heap.get? b=some o)(hs:c.s.heap.objs.size<=c'.s.heap.objs.size)(eG:c'.G=c.G)(hg:c'.s.gens=c.s.gens)(ho:c'.s.os=c.s.os)
  (er:c'.σ.ρ=c.σ.ρ) (en:c'.σ.n=c.σ.n) (ea:c'.σ.anc=c.σ.anc) (obj :∀x o,c'.σ.H.lookup x=some o->(Dy c c'->Fw X c' x o)\/¬ S (.obj x)/\¬ S (.dict x)/\c.σ.H.lookup x=some o):Cb X c c':=by
 have tg :∀{a o},c.G.tag a=o->c'.G.tag a=o:=λe=>eG.symm▸e
 have kn :∀{b q},c.G.tag b=some q->¬ S q->∀o,c.s.heap.get? b=some o->c'.s.heap.get? b=some o:=λ{b q} hq hn o e=>k b o e λp hp=>aA1 (hq.symm.trans hp)▸hn
 have kp:Ŀ c.G c.s.heap c'.G c'.s.heap:=⟨λa o e q=>k a o e λp hp z=>q ⟨p,hp,λw=>(hS p z).elim λx z=>z.elim (λz=>nomatch w.symm.trans z) λz=>nomatch w.symm.trans z⟩,λa e=>.inl (eG▸e),λa e=>.inl (eG▸e),hs,λa e=>tg e⟩
 have p:Dy c c':=⟨kp.still,λx _=>eG.symm▸⟨rfl,rfl⟩,aB7 en.symm⟩
 have nl :∀{q},(∀x,q≠.obj x/\q≠.dict x)->¬ S q:=λh z=>(hS _ z).elim λx z=>z.elim (h x).1 (h x).2
 exact R.go kp p (λb e=>aB3 (R.ownLt b (eG▸e)) hs) hg ho ea (λa q=>tg) (p.loc er (kn R.tloc (nl λx=>⟨λz=>(nomatch z),λz=>nomatch z⟩)) R.loc) (λx a e=>p.cel er (kn (R.tcel x a e) (nl λx=>⟨λz=>(nomatch z),λz=>nomatch z⟩)) (R.cel x a e))
  λx o e=>(obj x o e).elim (λf=>f p) λq=>p.obj (tg (R.obj x o q.2.2).tag) (kn (R.obj x o q.2.2).tag q.1) (λz=>⟨kn z q.2.1,tg z⟩) (R.obj x o q.2.2)
end
noncomputable def Ű.put(G:Ű)(a:aC1)(p:AT):Ű:=⟨λb=>bif b==a then some p else G.tag b,G.μ,G.δ⟩
def Ű.put_at{G:Ű}{a:aC1}{p:AT}:(G.put a p).tag a=some p:=bO6 (cond · (some p) (G.tag a)) (bP3 a)
def Ű.put_ne{G:Ű}{a b:aC1}{p:AT}(h:b≠a):(G.put a p).tag b=G.tag b:=bO6 (cond · (some p) (G.tag b)) (beq_eq_false_iff_ne.mpr h)
def Ű.put_own{G:Ű}{a b:aC1}{p:AT}(h:(G.put a p).own b):b=a\/G.own b:=(aO1 (b=a)).imp id λn z=>h ((Ű.put_ne n).trans z)
noncomputable def Ű.name(G:Ű)(n:Nat)(a d:aC1):Ű:=⟨G.tag,λx=>bif x==n then a else G.μ x,λx=>bif x==n then d else G.δ x⟩
def Ű.name_mu{G:Ű}{n:Nat}{a d:aC1}:(G.name n a d).μ n=a:=bO6 (cond · a (G.μ n)) (bP3 n)
def Ű.name_de{G:Ű}{n:Nat}{a d:aC1}:(G.name n a d).δ n=d:=bO6 (cond · d (G.δ n)) (bP3 n)
def Ű.name_nm{G:Ű}{n:Nat}{a d:aC1}:Į n G (G.name n a d):=λx hx=>⟨bO6 (cond · a (G.μ x)) (beq_eq_false_iff_ne.mpr (aE5 hx)),bO6 (cond · d (G.δ x)) (beq_eq_false_iff_ne.mpr (aE5 hx))⟩
section
variable{X:Cx}{c:Ž}
def Ix{G:Ű}{h:aF0}{n:Nat}(hl :∀a,G.own a->a<h.objs.size)(o:Obj){p:AT} :∀a,((G.put h.objs.size p).own a)->a<(h.push o).objs.size:=λa e=>by
 rw[aE3]
 exact(Ű.put_own e).elim (λz=>z▸aC2 _) λz=>aG5 (hl a z)
def Ž.add(c:Ž)(ao:AO)(o:Obj)(t:Nat):Ž:=⟨(c.G.put c.s.heap.objs.size (.obj c.σ.n)).name c.σ.n c.s.heap.objs.size 0,c.σ.new ao,{c.s with heap:=c.s.heap.push o,toks:=t}⟩
def ŵ.alloc(R:ŵ X c){o:Obj}{ao:AO}{t:Nat}(hr:Dy c (c.add ao o t)->(c.add ao o t).G.μ c.σ.n=c.s.heap.objs.size->C6 X.L (c.add ao o t).G (c.s.heap.push o) (c.σ.n+1) c.σ.n ao):Cb X c (c.add ao o t):=
 R.more (λ_ _ e=>aB1 o e) (Cu o) (λa l=>Ű.put_ne (aE5 l)) (Ix (n:=0) R.ownLt o) (λx hx=>Ű.name_nm x hx) (aK1 _) rfl rfl rfl rfl
  λx o' e=>CC e (λhx hw=>.inr λp=>hx▸hw▸⟨aC2 _,(bO6 _ Ű.name_mu).trans Ű.put_at,hr p Ű.name_mu⟩) λ_ e=>.inl e
def Ž.lck(c:Ž)(o:Obj)(t:Nat):Ž:=⟨c.G.put c.s.heap.objs.size .lock,c.σ,{c.s with heap:=c.s.heap.push o,toks:=t}⟩
theorem ŵ.lck(R:ŵ X c)(o:Obj)(t:Nat):Cb X c (c.lck o t):=
 R.more (λ_ _ e=>aB1 o e) (Cu o) (λa l=>Ű.put_ne (aE5 l)) (Ix (n:=0) R.ownLt o) (λx hx=>⟨rfl,rfl⟩) (aA9 _) rfl rfl rfl rfl λ_ _=>.inl
def ŵ.lockAt(R:ŵ X c){wr:List aC1}(hI :∀b∈wr,c.G.tag b=some .lock/\X.hs.objs.size<=b){h':aF0}{t:Nat}(hk :∀a o,a∉wr->c.s.heap.get? a=some o->h'.get? a=some o)(hs:c.s.heap.objs.size<=h'.objs.size):Dy c (c.hp c.σ h' t)/\ŵ X (c.hp c.σ h' t):=by
 have ow :∀{a},a∈wr->c.G.own a:=λz=>A3 (hI _ z).1
 have ne :∀{a p},c.G.tag a=some p->p≠.lock->∀o,c.s.heap.get? a=some o->h'.get? a=some o:=λ{a p} e hp o=>hk a o λz=>hp (aA1 (e.symm.trans (hI a z).1))
 have p:Dy c (c.hp c.σ h' t):=⟨λa o e q=>⟨hk a o (λz=>q (ow z)) e,q⟩,λ_ _=>⟨rfl,rfl⟩,aA9 _⟩
 exact⟨p,λb o e=>hk b o (λz=>nomatch e.symm.trans (R.ownB _ (ow z))) (R.base b o e),λb o e q=>hk b o (λz=>Ce e (hI b z).2) (R.keep b o e q),aA3 R.size hs,R.mutHs,R.ownB,λa e=>aB3 (R.ownLt a e) hs,R.gens,R.os,
  p.loc rfl (ne R.tloc λz=>nomatch z) R.loc,λx a e=>p.cel rfl (ne (R.tcel x a e) λz=>nomatch z) (R.cel x a e),R.celAll,R.tloc,R.tcel,λx o e=>p.obj (R.obj x o e).tag (ne (R.obj x o e).tag λz=>nomatch z) (λz=>⟨ne z λz=>(nomatch z),z⟩) (R.obj x o e),R.anc,aA3 R.bsz hs⟩
end
def ţ{α:Type}(X:Cx)(t:Sem α)(Q:α->aA7->Prop)(s:aA7):Prop:=aD2 (aD9 X.L.prog X.L.w) X.A t Q (λ_ _=>False) s
inductive A1{α β:Type}(X:Cx)(rel:Ž->β->α->Prop)(c:Ž)(Q:β->St->Prop)(v:α)(s':aA7):Prop
 | mk (G':Ű) (σ':St) (b:β) (x:Cb X c ⟨G',σ',s'⟩) (r:rel ⟨G',σ',s'⟩ b v) (q:Q b σ')
def Ń{α β:Type}(X:Cx)(rel:Ž->β->α->Prop)(t:Sem α)(σ:St)(Q:β->St->Prop):Prop:=∀G s,ŵ X ⟨G,σ,s⟩->ţ X t (A1 X rel ⟨G,σ,s⟩ Q) s
def Ks{α:Type}(_:Ž)(b a:α):Prop:=a=b
def JW{α β:Type}(_:Ž)(_:β)(_:α):Prop:=True
def TV(X:Cx)(t:Sem Value)(σ:St)(Q:AV->St->Prop):Prop:=Ń X (VR X) t σ Q
def TL(X:Cx)(t:Sem (List Value))(σ:St)(Q:List AV->St->Prop):Prop:=Ń X (Ŧ X) t σ Q
def Ħ(X:Cx)(t:Sem Bool)(σ:St)(Q:Bool->St->Prop):Prop:=Ń X Ks t σ Q
def ŝ(X:Cx)(c:Ž)(Q:AV->St->Prop)(t:Sem Value):Prop:=ţ X t (A1 X (VR X) c Q) c.s
def FZ(X:Cx)(c:Ž)(Q:St->Prop)(t:Sem Unit):Prop:=ţ X t (A1 X (β:=Unit) JW c λ_=>Q) c.s
section
variable{X:Cx}{α β γ ε:Type}
def ţ.mono{t:Sem α}{Q Q':α->aA7->Prop}{s:aA7}(h:ţ X t Q s)(k :∀v s,Q v s->Q' v s):ţ X t Q' s:=aP5 h k λ_ _ x=>x
def ţ.any{t:Sem α}{Q Q':α->aA7->Prop}{E:Value->aA7->Prop}{s:aA7}(h:ţ X t Q s)(k :∀v s,Q v s->Q' v s):aD2 (aD9 X.L.prog X.L.w) X.A t Q' E s:=aP5 h k λ_ _ x=>x.elim
def ţ.bind{t:Sem α}{f:α->Sem γ}{Q:γ->aA7->Prop}{s:aA7}(h:ţ X t (λv s=>ţ X (f v) Q s) s):ţ X (t >>= f) Q s:=aA2 h
def ţ.hold{t:Sem α}{vs:List Value}{Q:α->aA7->Prop}{s:aA7}(h:ţ X t Q s):ţ X (aS1 vs t) Q s:=aJ8 h
theorem ţ.pure{v:α}{Q:α->aA7->Prop}{s:aA7}(h:Q v s):ţ X (Pure.pure v) Q s:=aA4 h
def A1.lift{rel:Ž->β->α->Prop}{c c':Ž}{Q:β->St->Prop}{v:α}{s':aA7}(x:Cb X c c')(p:A1 X rel c' Q v s'):A1 X rel c Q v s':=p.casesOn λG σ b y r q=>⟨G,σ,b,x.trans y,r,q⟩
def A1.here{rel:Ž->β->α->Prop}{c:Ž}{Q:β->St->Prop}{v:α}{b:β}(R:ŵ X c)(r:rel c b v)(q:Q b c.σ):A1 X rel c Q v c.s:=⟨c.G,c.σ,b,.refl R,r,q⟩
def A1.to{rel:Ž->β->α->Prop}{c c':Ž}{Q:β->St->Prop}{v:α}{b:β}(x:Cb X c c')(r:rel c' b v)(q:Q b c'.σ):A1 X rel c Q v c'.s:=⟨c'.G,c'.σ,b,x,r,q⟩
def A1.up{rel:Ž->β->α->Prop}{c c':Ž}{Q:β->St->Prop}{t:Sem α}{s:aA7}(h:ţ X t (A1 X rel c' Q) s)(x:Cb X c c'):ţ X t (A1 X rel c Q) s:=h.mono λ_ _ p=>p.lift x
theorem Ń.mono{rel:Ž->β->α->Prop}{t:Sem α}{σ:St}{Q Q':β->St->Prop}(h:Ń X rel t σ Q)(k :∀b σ,Q b σ->Q' b σ):Ń X rel t σ Q':=λG s R=>(h G s R).mono λ_ _ p=>p.casesOn λG σ b y r q=>⟨G,σ,b,y,r,k _ _ q⟩
def Ń.go{rel:Ž->β->α->Prop}{t:Sem α}{c:Ž}{P:β->St->Prop}{f:α->aA7->Prop}(h:Ń X rel t c.σ P)(R:ŵ X c)(hf :∀b c₁ a,P b c₁.σ->Cb X c c₁->rel c₁ b a->f a c₁.s):ţ X t f c.s:=
 (h c.G c.s R).mono λa s₁ p=>p.casesOn λG σ b y r q=>hf b ⟨G,σ,s₁⟩ a q y r
end
def Ab{α:Type}(o:Option α)(k:α->Prop):Prop:=aD5 False k o
def AC{α:Type}{o:Option α}{k:α->Prop}{P:Prop}(h:Ab o k)(f :∀a,o=some a->k a->P):P:=by
 cases o with
 | none=>exact h.elim
 | some a=>exact f a rfl h
def Dp(c:Bool)(P:Prop):Prop:=aH3 False P c
def A4{c:Bool}{P:Prop}(h:Dp c P):c=true/\P:=by
 cases c with
 | true=>exact⟨rfl,h⟩
 | false=>exact h.elim
def AL{a b:Bool}(h:(a&&b)=true):a=true/\b=true:=aE8.mp h
noncomputable def BL:AV->Option AB
 | .key k=>some k
 | _=>none
noncomputable def AB.toInt:AB->Option Int
 | .int i=>some i
 | .str _=>none
def BX(a:AV):Option Int:=(BL a).bind AB.toInt
noncomputable def AO.lst:AO->Option (List AV)
 | .list vs=>some vs
 | _=>none
noncomputable def CW(σ:St):AV->Option (Nat×AO)
 | .ref x=>(σ.H.lookup x).map (x,·)
 | _=>none
def objOf(σ:St)(a:AV):Option AO:=(CW σ a).map (·.2)
def BK(σ:St)(a:AV):Option (List AV):=match a with
 | .seq .lst vs=>some vs
 | a=>(objOf σ a).bind AO.lst
def AE(n:Nat):Prop:=n<=1000000
def AE.line{n m:Nat}(h:AE n)(e:m=n):m<=bB5:=e▸aA3 h (by decide)
def AA{α:Type}{a:α}{P:Prop}(e:none=some a):P:=Option.noConfusion rfl (heq_of_eq e)
def Fh{P:AV->Prop}{a:AV}{k:AB}(e:BL a=some k)(f:P (.key k)):P a:=
 AV.casesOn (motive_1:=λa=>BL a=some k->P a) a AA (λ_=>AA) (λ_ e=>aA1 e▸f) (λ_ _=>AA) (λ_=>AA) (λ_=>AA) (λ_=>AA) (λ_ _=>AA) (λ_=>AA) (λ_=>AA) AA e
def RU{P:AV->Prop}{a:AV}{i:Int}(e:BX a=some i)(f:P (.int i)):P a:=by
 obtain⟨k,e1,e2⟩:=AF e
 exact Fh e1 (AB.casesOn (motive:=λk=>k.toInt=some i->P (.key k)) k (λ_ e=>aA1 e▸f) (λ_=>AA) e2)
def Pq{P:AV->Prop}{σ:St}{a:AV}{q:Nat×AO}(e:CW σ a=some q)(f:σ.H.lookup q.1=some q.2->P (.ref q.1)):P a:=
 AV.casesOn (motive_1:=λa=>CW σ a=some q->P a) a AA (λ_=>AA) (λ_=>AA) (λ_ _=>AA) (λx e=>by
  obtain⟨o',e1,rfl⟩:=map_some e
  exact f e1) (λ_=>AA) (λ_=>AA) (λ_ _=>AA) (λ_=>AA) (λ_=>AA) AA e
def AO.lst_eq{o:AO}{vs:List AV}(e:o.lst=some vs):o = .list vs:=
 AO.casesOn (motive:=λo=>o.lst=some vs->o = .list vs) o (λ_ e=>bO6 _ (aA1 e)) (λ_=>AA) (λ_=>AA) (λ_ _=>AA) (λ_=>AA) e
section
variable{X:Cx}{c:Ž}
@[elab_as_elim] theorem A5{P:Value->Prop}{a:AV}{i:Int}{v:Value}(e:BX a=some i)(r:VR X c a v)(f :∀t,P (.int i t)):P v:=by
 obtain⟨t,rfl⟩:=Au (RU (P:=λa=>VR X c a v->Aa (.int i) v=true) e id r)
 exact f t
def BS{a:AV}{k:AB}{v:Value}(e:BL a=some k):VR X c a v->Aa k v=true:=Fh (P:=λa=>VR X c a v->Aa k v=true) e id
def Ca{a:AV}{q:Nat×AO}{v:Value}(e:CW c.σ a=some q):VR X c a v->v = .ref (c.G.μ q.1)/\c.σ.H.lookup q.1=some q.2:=Pq (P:=λa=>VR X c a v->v = .ref (c.G.μ q.1)/\c.σ.H.lookup q.1=some q.2) e λh r=>⟨r.1,h⟩
def Hr{a:AV}{o:AO}{v:Value}(e:objOf c.σ a=some o)(R:ŵ X c)(r:VR X c a v) :∃x,v = .ref (c.G.μ x)/\Fw X c x o:=by
 obtain⟨q,e1,rfl⟩:=map_some e
 exact⟨q.1,(Ca e1 r).1,R.obj q.1 q.2 (Ca e1 r).2⟩
@[elab_as_elim] theorem Aw{P:Value->Prop}{a:AV}{vs:List AV}{v:Value}(e:BK c.σ a=some vs)(R:ŵ X c)(r:VR X c a v)(f :∀l us k,c.s.heap.get? l=some (Ad us k)->Ŧ X c vs us->P (.ref l)):P v:=by
 have ow :∀{a},VR X c a v->(objOf c.σ a).bind AO.lst=some vs->P v:=λ{a} r e=>by
  obtain⟨o,e1,e2⟩:=AF e
  obtain⟨x,rfl,q⟩:=Hr e1 R r
  rw[AO.lst_eq e2]at q
  exact q.rel.casesOn λus hp hr=>hp.elim λk hp=>f _ us k.1 hp hr
 exact AV.casesOn (motive_1:=λa=>VR X c a v->BK c.σ a=some vs->P v) a ow (λ_=>ow) (λ_=>ow) (λk=>SK.casesOn (motive:=λk=>∀us,VR X c (.seq k us) v->BK c.σ (.seq k us)=some vs->P v) k (λ_=>ow) (λus r e=>r.casesOn λl us hv hp ho hr=>hp.elim λk hp=>hv▸f l us k.1 hp (aA1 e▸hr)) λ_=>ow) (λ_=>ow) (λ_=>ow) (λ_=>ow) (λ_ _=>ow) (λ_=>ow) (λ_=>ow) ow r e
def A1.val{Q:AV->St->Prop}{av:AV}{v:Value}(t:Nat)(R:ŵ X c)(r:VR X c av v)(q:Q av c.σ):A1 X (VR X) c Q v {c.s with toks:=t}:=.to (R.toks t) ((R.toks t).pre.v r) q
theorem A1.int{Q:AV->St->Prop}{i:Int}{u:Tok}(t:Nat)(R:ŵ X c)(q:Q (.int i) c.σ):A1 X (VR X) c Q (.int i u) {c.s with toks:=t}:=.to (b:=AV.int i) (R.toks t) (bP3 i) q
def A1.newLst{Q:AV->St->Prop}{vs:List AV}{us:List Value}(t k:Nat)(R:ŵ X c)(r:Ŧ X c vs us)(q:Q (.lst vs) c.σ):A1 X (VR X) c Q (.ref c.s.heap.objs.size) {c.s with heap:=c.s.heap.push (Ad us k),toks:=t}:=
 .to (b:=AV.lst vs) (R.push (Ad us k) t) ⟨_,us,rfl,⟨(k,none),aC4 _ rfl⟩,R.gone,(R.push (Ad us k) t).pre.va r⟩ q
def A1.newTup{Q:AV->St->Prop}{vs:List AV}{us:List Value}(t k:Nat)(R:ŵ X c)(r:Ŧ X c vs us)(q:Q (.tup vs) c.σ):A1 X (VR X) c Q (.ref c.s.heap.objs.size) {c.s with heap:=c.s.heap.push (Ao us k),toks:=t}:=
 .to (b:=AV.tup vs) (R.push (Ao us k) t) ⟨_,us,rfl,⟨(k,none),aC4 _ rfl⟩,R.gone,(R.push (Ao us k) t).pre.va r⟩ q
def A1.newList{Q:AV->St->Prop}{vs:List AV}{us:List Value}(t k:Nat)(R:ŵ X c)(r:Ŧ X c vs us)(q:Q (.ref c.σ.n) (c.σ.new (.list vs))):A1 X (VR X) c Q (.ref c.s.heap.objs.size) {c.s with heap:=c.s.heap.push (Ad us k),toks:=t}:=
 .to (c':=c.add (.list vs) (Ad us k) t) (b:=AV.ref c.σ.n) (R.alloc λp e=>⟨us,⟨(k,none),(bO6 _ e).trans (aC4 _ rfl)⟩,p.va r⟩) ⟨bO6 _ Ű.name_mu.symm,aC2 _⟩ q
end
section
variable{L:CU}{G:Ű}{h:aF0}{n:Nat}
def A2.len{as:List AV}{vs:List Value}(q:A2 L G h n as vs):vs.length=as.length:=
 aB5 (motive:=λas=>∀vs,A2 L G h n as vs->vs.length=as.length) (λ_ q=>bO6 _ q) (λa r ih vs q=>q.elim λv q=>q.elim λu q=>(bO6 _ q.1).trans (bO6 aQ9 (ih u q.2.2))) as vs q
def A2.append{as bs:List AV}{vs us:List Value}(q:A2 L G h n as vs)(r:A2 L G h n bs us):A2 L G h n (as++bs) (vs++us):=
 aB5 (motive:=λas=>∀vs,A2 L G h n as vs->A2 L G h n (as++bs) (vs++us)) (λvs q=>(show vs=[]from q).symm▸r) (λa l ih vs q=>q.elim λv q=>q.elim λu q=>⟨v,u++us,bO6 (· ++ us) q.1,q.2.1,ih u q.2.2⟩) as vs q
def A2.get{as:List AV}{vs:List Value}{i:Nat}{a:AV}(q:A2 L G h n as vs)(e:as[i]?=some a) :∃v,vs[i]?=some v/\A8 L G h n a v:=
 aB5 (motive:=λas=>∀vs (i:Nat),A2 L G h n as vs->as[i]?=some a->∃v,vs[i]?=some v/\A8 L G h n a v) (λvs i q e=>nomatch e)
  (λb l ih vs i q e=>q.elim λv q=>q.elim λu q=>by
   rw[q.1]
   cases i with
   | zero=>exact⟨v,rfl,aA1 e▸q.2.1⟩
   | succ i=>exact ih u i q.2.2 e) as vs i q e
end
def AP{h:aF0}{l:aC1}{us:List Value}{k:Nat}(e:h.get? l=some (Ad us k)):h.IsList l us.toArray:=⟨_,e,rfl,k,rfl⟩
def Ba{h:aF0}{l:aC1}{us:List Value}{k:Nat}(e:h.get? l=some (Ao us k)):h.IsTuple l us.toArray:=⟨_,e,rfl,k,rfl⟩
section
variable{prog:aG3}{w:aB9}{A:aH7}{E:Value->aA7->Prop}{Q:Value->aA7->Prop}{s:aA7}{l l':aC1}{us us':List Value}{k k':Nat}
def PG(h:s.heap.get? l=some (Ad us k))(h':s.heap.get? l'=some (Ad us' k'))(hz:us.length+us'.length<=bB5)(q:Q (.ref s.heap.objs.size) {s with heap:=s.heap.push (Ad (us++us') 0)}) :
  aD2 (aD9 prog w) A (binaryOp .Add (.ref l) (.ref l')) Q E s:=
 concat_meets ⟨_,h,rfl⟩ ⟨_,h',rfl⟩ noFill_list_add seq_list_add PySem.F.slot_list_add PySem.F.entry_list_add (PySem.F.args_list_add_2 _ _) (list_addW l l' us.toArray us'.toArray k k' none none #[] #[] hz) ⟨h,h',(List.append_toArray us us').symm▸q⟩
end
def FL(op:bF5)(a b:AV)(σ:St)(Q:AV->St->Prop):Prop:=match op with
 | .Add=>aD5 (Ab (BK σ a) λxs=>Ab (BK σ b) λys=>AE (xs.length+ys.length)/\Q (.lst (xs++ys)) σ) (λx=>Ab (BX b) λy=>Q (.int (x+y)) σ) (BX a)
 | .Sub=>Ab (BX a) λx=>Ab (BX b) λy=>Q (.int (x-y)) σ
 | .Mod=>Ab (BX a) λx=>Ab (BX b) λy=>y≠0/\Q (.int (x.fmod y)) σ
 | .FloorDiv=>Ab (BX a) λx=>Ab (BX b) λy=>y≠0/\aE0.divisionGoesByPylong x y=false/\Q (.int (x.fdiv y)) σ
 | _=>False
def XV(op:bF5)(a b:AV)(σ:St)(Q:AV->St->Prop):Prop:=match op with
 | .Add=>Ab (BX a) λx=>Ab (BX b) λy=>Q (.int (x+y)) σ
 | _=>False
def i8(op:bI6)(a:AV)(σ:St)(Q:AV->St->Prop):Prop:=match op with
 | .USub=>Ab (BX a) λx=>Q (.int (-x)) σ
 | _=>False
section
variable{X:Cx}{c:Ž}{a b:AV}{Q:AV->St->Prop}{va vb:Value}
def BM{α:Type}{o:Option α}{A:Prop}{B:α->Prop}{P:Prop}(h:aD5 (motive:=λ_=>Prop) A B o)(f:A->P)(g :∀x,o=some x->B x->P):P:=by
 cases o with
 | none=>exact f h
 | some x=>exact g x rfl h
def iT{op:bF5}(h:FL op a b c.σ Q)(R:ŵ X c)(ra:VR X c a va)(rb:VR X c b vb):ŝ X c Q (binaryOp op va vb):=
 bF5.casesOn (motive:=λop=>FL op a b c.σ Q->ŝ X c Q (binaryOp op va vb)) op
  (λh=>BM h (λh=>AC h λxs e1 h=>AC h λys e2 h=>Aw e1 R ra λl us k p1 p2=>Aw e2 R rb λl' us' k' p3 p4=>PG p1 p3 (h.1.line (p2.len▸p4.len▸rfl)) (.newLst _ 0 R (p2.append p4) h.2))
   λx e1 h=>AC h λy e2 h=>A5 e1 ra λt=>A5 e2 rb λu=>add_int (.int _ R h))
  (λh=>AC h λx e1 h=>AC h λy e2 h=>A5 e1 ra λt=>A5 e2 rb λu=>PyProof.Rows.sub_int' (.int _ R h))
  aA8
  aA8 aA8
  (λh=>AC h λx e1 h=>AC h λy e2 h=>A5 e1 ra λt=>A5 e2 rb λu=>mod_int' h.1 (.int _ R h.2))
  aA8
  aA8 aA8 aA8 aA8 aA8
  (λh=>AC h λx e1 h=>AC h λy e2 h=>A5 e1 ra λt=>A5 e2 rb λu=>floordiv_int h.1 (.int _ R h.2.2) (.inl h.2.1)) h
def i9{op:bF5}(h:XV op a b c.σ Q)(R:ŵ X c)(ra:VR X c a va)(rb:VR X c b vb):ŝ X c Q (inplaceOp op va vb):=by
 cases op with
 | Add=>exact AC h λx e1 h=>AC h λy e2 h=>A5 e1 ra λt=>A5 e2 rb λu=>iadd_int (.int _ R h)
 | _=>exact h.elim
def g4{op:bI6}(h:i8 op a c.σ Q)(R:ŵ X c)(ra:VR X c a va):ŝ X c Q (unaryOp op va):=by
 cases op with
 | USub=>exact AC h λx e1 h=>A5 e1 ra λt=>neg_int (.int _ R h)
 | _=>exact h.elim
end
end Mine
end
section
open PySem PySem.W PyProof.Rows PySem.Spec PySem.Calls PySem.SeqAt
namespace Mine
noncomputable def DR:AV->Option (SK×List AV)
 | .seq k vs=>some (k,vs)
 | _=>none
def Fj{P:AV->Prop}{a:AV}{q:SK×List AV}(e:DR a=some q)(f:P (.seq q.1 q.2)):P a:=
 AV.casesOn (motive_1:=λa=>DR a=some q->P a) a AA (λ_=>AA) (λ_=>AA) (λ_ _ e=>Eq.mp (bO6 (λq:SK×List AV=>P (.seq q.1 q.2)) (aA1 e).symm) f) (λ_=>AA) (λ_=>AA) (λ_=>AA) (λ_ _=>AA) (λ_=>AA) (λ_=>AA) AA e
def EH(f:AV->AV->Option Bool)(xs:List AV):List AV->Option Bool:=
 aB5 (λys=>some ys.isEmpty) (λa _ ih ys=>aB5 (some false) (λb bs _=>(f a b).bind λx=>(ih bs).map (x && ·)) ys) xs
def SK.eqs(k k':SK):Bool:=SK.rec (SK.rec true false false k') (SK.rec false true false k') false k
def LE(a b:AV):Option Bool:=(BL a).bind λx=>(BL b).map λy=>decide (x=y)
def WJ(f:AV->AV->Option Bool)(a b:AV):Option Bool:=(DR a).bind λp=>(DR b).bind λq=>bif p.1.eqs q.1 then EH f p.2 q.2 else none
def JA{α:Type}(o p:Option α):Option α:=aD5 p some o
def JN(n:Nat):AV->AV->Option Bool:=aT3 (λ_ _=>none) (λ_ f a b=>JA (LE a b) (WJ f a b)) n
def Dq{α:Type}{o p:Option α}{a:α}{P:Prop}(h:JA o p=some a)(f:o=some a->P)(g:p=some a->P):P:=by
 cases o with
 | none=>exact g h
 | some x=>exact f h
def HX{a b:AV}{r:Bool}{P:Prop}(h:LE a b=some r)(f :∀x y,BL a=some x->BL b=some y->decide (x=y)=r->P):P:=by
 obtain⟨x,e1,h⟩:=AF h
 obtain⟨y,e2,h⟩:=map_some h
 exact f x y e1 e2 h
def Ku{f:AV->AV->Option Bool}{a b:AV}{r:Bool}{P:Prop}(h:WJ f a b=some r)(g :∀p q,DR a=some p->DR b=some q->p.1.eqs q.1=true->EH f p.2 q.2=some r->P):P:=by
 obtain⟨p,e1,h⟩:=AF h
 obtain⟨q,e2,h⟩:=AF h
 cases hk:p.1.eqs q.1 with
 | false=>rw[hk]at h;exact AA h
 | true=>rw[hk]at h;exact g p q e1 e2 hk h
noncomputable def Ey(f:Nat->Bool)(n m:Nat):Bool:=(aC8 (min n m)).all f&&n==m
def Oi{g:Nat->Bool}{n m:Nat}:Ey g (n+1) (m+1)=(g 0&&Ey (λj=>g (j+1)) n m):=by
 unfold Ey
 rw[Nat.succ_min_succ,List.range_succ_eq_map,List.all_cons,List.all_map,Bool.and_assoc]
 exact bO6 (λb=>g 0&&(_&&b)) (by rw[bC0,beq_iff_eq,beq_iff_eq,Nat.succ_inj])
def KZ{f:AV->AV->Option Bool}{xs:List AV} :∀{ys:List AV} {r:Bool},EH f xs ys=some r->∃e:Nat->Bool,(∀(j:Nat) (a b:AV),xs[j]?=some a->ys[j]?=some b->f a b=some (e j))/\r=Ey e xs.length ys.length:=by
 refine aB5 (motive:=λxs=>∀{ys:List AV} {r:Bool},EH f xs ys=some r->∃e:Nat->Bool,(∀(j:Nat) (a b:AV),xs[j]?=some a->ys[j]?=some b->f a b=some (e j))/\r=Ey e xs.length ys.length) (λ{ys r} h=>⟨λ_=>true,λ_ _ _=>AA,?_⟩) (λa as ih ys r h=>?_) xs
 ·rw[<-aA1 h]
  cases ys<;>rfl
 ·cases ys with
  | nil=>exact⟨λ_=>true,λ_ _ _ _=>AA,(aA1 h).symm⟩
  | cons b bs=>
   obtain⟨x,e1,h⟩:=AF h
   obtain⟨y,e2,h⟩:=map_some h
   obtain⟨e,q1,Ľ⟩:=ih e2
   refine⟨λj=>aT3 x (λj _=>e j) j,λj=>?_,?_⟩
   ·cases j with
    | zero=>exact λa' b' p1 p2=>aA1 p1▸aA1 p2▸e1
    | succ j=>exact q1 j
   ·exact h▸Ľ▸(Oi (g:=λj=>aT3 x (λj _=>e j) j)).symm
section
variable{L:CU}{G:Ű}{h:aF0}{n:Nat}
def DH{a:AV}{q:SK×List AV}{v:Value}(e:DR a=some q):A8 L G h n a v->EF (λa us=>L.sq h a q.1 us) G (A2 L G h n q.2) v:=Fj (P:=λa=>A8 L G h n a v->EF (λa us=>L.sq h a q.1 us) G (A2 L G h n q.2) v) e id
def FB{a:AV}{k:AB}{v:Value}(e:BL a=some k):A8 L G h n a v->Aa k v=true:=Fh (P:=λa=>A8 L G h n a v->Aa k v=true) e id
def Kw{k k':SK}{us us':List Value}{e e':Nat×Option aC1}(z:some (W0 L k us e)=some (W0 L k' us' e')):k.cls L=k'.cls L/\us=us':=
 ⟨bO6 Obj.cls (aA1 z),bO6 (λo:Obj=>match o.data with | .seq a _=>a.toList | _=>[]) (aA1 z)⟩
def QR(m:Nat) :∀{a b:AV} {v:Value} {r:Bool},A8 L G h n a v->A8 L G h n b v->JN m a b=some r->r=true:=by
 refine aT3 (motive:=λm=>∀{a b:AV} {v:Value} {r:Bool},A8 L G h n a v->A8 L G h n b v->JN m a b=some r->r=true) (λ_ _=>AA) (λm ih a b v r q1 Ľ e=>?_) m
 refine Dq e (λe=>HX e λx y e1 e2 e=>e▸bP0 (D9 (FB e1 q1) (FB e2 Ľ))) λe=>Ku e λp q e1 e2 hk e=>?_
 cases DH e1 q1 with
 | mk l us hv hp _ hr=>
 cases DH e2 Ľ with
 | mk l' us' hv' hp' _ hr'=>
 obtain⟨k,hp⟩:=hp
 obtain⟨k',hp'⟩:=hp'
 cases hv.symm.trans hv'
 rw[<-(Kw (hp.symm.trans hp')).2]at hr'
 obtain⟨g,g1,g2⟩:=KZ e
 rw[g2,<-hr.len,<-hr'.len]
 refine aE8.mpr ⟨bA5.mpr λj hj=>?_,bP3 _⟩
 have hj:j<us.length:=aB3 (aR0.mp hj) (aS7 _ _)
 have ź:p.2[j]?=some (p.2[j]'(hr.len▸hj)):=aA6 _
 have a2:q.2[j]?=some (q.2[j]'(hr'.len▸hj)):=aA6 _
 obtain⟨u,u1,u2⟩:=hr.get ź
 obtain⟨u',u3,u4⟩:=hr'.get a2
 cases u1.symm.trans u3
 exact ih u2 u4 (g1 j _ _ ź a2)
end
section
variable{L:CU}{G:Ű}{s:aA7}{n:Nat}{A:aH7}{l l':aC1}{us us':List Value}{f:Nat->Bool}
def Uu{n m:Nat}(h:n≠m):Ey f n m=false:=by
 unfold Ey
 rw[beq_eq_false_iff_ne.mpr h,Bool.and_false]
def UB(n:Nat):Ey f n n=(aC8 n).all f:=by
 unfold Ey
 rw[Nat.min_self,bP3,Bool.and_true]
def LZ{k k':Nat}(hu:A.units<cLine)(p:s.heap.get? l=some (Ad us k))(p':s.heap.get? l'=some (Ad us' k'))(he :∀j (h1:j<us.length) (h2:j<us'.length),aX9 A.in1 s us[j] us'[j] (f j)) :
  bM5 A s (.ref l) (.ref l') (Ey f us.length us'.length)/\bG4 A s (.ref l) (.ref l') (!Ey f us.length us'.length):=by
 by_cases hz:us.length=us'.length
 ·rw[<-hz,UB]
  exact⟨bM5.lists (AP p) (AP p') hz hu he,bG4.lists (AP p) (AP p') hz hu he⟩
 ·rw[Uu hz]
  exact⟨bM5.lists_lengths (AP p) (AP p') (bne_iff_ne.mpr hz) hu,bG4.lists_lengths (AP p) (AP p') (bne_iff_ne.mpr hz) hu⟩
def Nr{k k':Nat}(hu:A.units<cLine)(p:s.heap.get? l=some (Ao us k))(p':s.heap.get? l'=some (Ao us' k'))(he :∀j (h1:j<us.length) (h2:j<us'.length),aX9 A.in1 s us[j] us'[j] (f j)) :
  bM5 A s (.ref l) (.ref l') (Ey f us.length us'.length)/\bG4 A s (.ref l) (.ref l') (!Ey f us.length us'.length):=
 ⟨bM5.tuples (Ba p) (Ba p') hu he,bG4.tuples (Ba p) (Ba p') hu he⟩
def Vb{k k':SK}(hk:k.eqs k'=true)(hu:A.units<cLine)(p:L.sq s.heap l k us)(p':L.sq s.heap l' k' us')(he :∀j (h1:j<us.length) (h2:j<us'.length),aX9 A.in1 s us[j] us'[j] (f j)) :
  bM5 A s (.ref l) (.ref l') (Ey f us.length us'.length):=by
 obtain⟨e,p⟩:=p
 obtain⟨e',p'⟩:=p'
 cases k with
 | tup=>cases k' with
  | tup=>exact(Nr (k:=e.1) (k':=e'.1) hu p p' he).1
  | _=>cases hk
 | lst=>cases k' with
  | lst=>exact(LZ (k:=e.1) (k':=e'.1) hu p p' he).1
  | _=>cases hk
 | mat=>cases hk
def HH{m:Nat}(ih :∀a b va vb r,A8 L G s.heap n a va->A8 L G s.heap n b vb->JN m a b=some r->aX9 A.in1 s va vb r){xs ys:List AV}{r:Bool}(q1:A2 L G s.heap n xs us)(Ľ:A2 L G s.heap n ys us')(h:EH (JN m) xs ys=some r){P:Bool->Prop}
  (k :∀f:Nat->Bool,(∀j (h1:j<us.length) (h2:j<us'.length),aX9 A.in1 s us[j] us'[j] (f j))->P (Ey f us.length us'.length)):P r:=by
 obtain⟨e,p1,p2⟩:=KZ h
 rw[p2,<-q1.len,<-Ľ.len]
 refine k e λj h1 h2=>?_
 have e1:xs[j]?=some (xs[j]'(q1.len▸h1)):=aA6 _
 have e2:ys[j]?=some (ys[j]'(Ľ.len▸h2)):=aA6 _
 obtain⟨v1,g1,r1⟩:=q1.get e1
 obtain⟨v2,g2,r2⟩:=Ľ.get e2
 rw[aA6 h1]at g1
 rw[aA6 h2]at g2
 cases g1;cases g2
 exact ih _ _ _ _ _ r1 r2 (p1 j _ _ e1 e2)
def TJ(m:Nat) :∀(A:aH7) (a b:AV) (va vb:Value) (r:Bool),A.units+m<cLine->A8 L G s.heap n a va->A8 L G s.heap n b vb->JN m a b=some r->aX9 A s va vb r:=by
 refine aT3 (motive:=λm=>∀(A:aH7) (a b:AV) (va vb:Value) (r:Bool),A.units+m<cLine->A8 L G s.heap n a va->A8 L G s.heap n b vb->JN m a b=some r->aX9 A s va vb r) (λ_ _ _ _ _ _ _ _ _=>AA) (λm ih A a b va vb r hu q1 Ľ e=>?_) m
 refine Dq e (λe=>HX e λx y e1 e2 e=>e▸λprog w E Q h=>M5 prog w (FB e1 q1) (FB e2 Ľ) h) λe'=>Ku e' λp q e1 e2 hk e'=>?_
 by_cases hs:va=vb
 ·subst hs
  exact QR (m+1) q1 Ľ e▸aX9.same _
 have hu':A.units+1+m<cLine:=aW4 A.units m 1▸hu
 cases DH e1 q1 with
 | mk l us hv hp _ hr=>
 cases DH e2 Ľ with
 | mk l' us' hv' hp' _ hr'=>
 subst hv;subst hv'
 exact aX9.of_refs (λz=>hs (bO6 _ z)) (HH (P:=bM5 A s (.ref l) (.ref l')) (λa b va vb r p1 p2 p3=>ih A.in1 a b va vb r hu' p1 p2 p3) hr hr' e' λf he=>Vb hk (aD1 (aE1 _ _) hu) hp hp' he)
def Yx{a b:AB}{u v:Value}(hu:Aa a u=true)(hv:Aa b v=true):bM5 A s u v (decide (a=b))/\bG4 A s u v (!decide (a=b)):=by
 cases a with
 | int i=>
  obtain⟨t,rfl⟩:=Au hu
  cases b with
  | int j=>obtain⟨t',rfl⟩:=Au hv;exact NV i j▸⟨.int_int _ _ _ _,.int_int _ _ _ _⟩
  | str j=>obtain⟨t',rfl⟩:=Ay hv;exact⟨.int_str _ _ _ _,.int_str _ _ _ _⟩
 | str i=>
  obtain⟨t,rfl⟩:=Ay hu
  cases b with
  | int j=>obtain⟨t',rfl⟩:=Au hv;exact⟨.str_int _ _ _ _,.str_int _ _ _ _⟩
  | str j=>obtain⟨t',rfl⟩:=Ay hv;exact Ti i j▸⟨.str_str _ _ _ _,.str_str _ _ _ _⟩
end
def FS(a:AV):Option (List AV):=(DR a).bind λp=>SK.rec (some p.2) none none p.1
def Sn(a b:AV):Option Bool:=match a with
 | .none=>(FS b).map λ_=>false
 | _=>none
def DT(σ:St)(a b:AV):Option Bool:=JA (LE a b) (JA ((BK σ a).bind λxs=>(BK σ b).bind λys=>EH (JN 8) xs ys) (JA ((FS a).bind λxs=>(FS b).bind λys=>EH (JN 8) xs ys) (Sn a b)))
def Rl{P:AV->Bool->Prop}{a b:AV}{r:Bool}(e:Sn a b=some r)(f :∀vs,FS b=some vs->P .none false):P a r:=
 AV.casesOn (motive_1:=λa=>Sn a b=some r->P a r) a (λe=>DJ (P:=P .none) e f) (λ_=>AA) (λ_=>AA) (λ_ _=>AA) (λ_=>AA) (λ_=>AA) (λ_=>AA) (λ_ _=>AA) (λ_=>AA) (λ_=>AA) AA e
def SH{P:AV->Prop}{a:AV}{vs:List AV}(e:FS a=some vs)(f:P (.tup vs)):P a:=by
 obtain⟨⟨k,us⟩,e1,e⟩:=AF e
 exact Fj e1 (SK.casesOn (motive:=λk=>SK.rec (motive:=λ_=>Option (List AV)) (some us) none none k=some vs->P (.seq k us)) k (λe=>aA1 e▸f) AA AA e)
section
variable{X:Cx}{c:Ž}{a b:AV}{va vb:Value}
@[elab_as_elim] theorem Di{P:Value->Prop}{vs:List AV}{v:Value}(e:FS a=some vs)(r:VR X c a v)(f :∀l us k,c.s.heap.get? l=some (Ao us k)->Ŧ X c vs us->P (.ref l)):P v:=
 SH (P:=λa=>VR X c a v->P v) e (λr=>r.casesOn λl us hv hp _ hr=>hp.elim λk hp=>hv▸f l us k.1 hp hr) r
def cB{r:Bool}(hu:X.A.units+10<cLine)(e:DT c.σ a b=some r)(R:ŵ X c)(ra:VR X c a va)(rb:VR X c b vb):bM5 X.A c.s va vb r/\bG4 X.A c.s va vb (!r):=by
 have ih :∀a b va vb r,VR X c a va->VR X c b vb->JN 8 a b=some r->aX9 X.A.in1 c.s va vb r:=λa b va vb r=>TJ 8 X.A.in1 a b va vb r (aY3 (aC2 _) hu)
 have hu':X.A.units<cLine:=aD1 (aE1 _ _) hu
 refine Dq e (λe=>HX e λx y e1 e2 e=>e▸Yx (BS e1 ra) (BS e2 rb)) λe=>Dq e (λe=>?_) λe=>Dq e (λe=>?_) λe=>Rl (P:=λa r=>VR X c a va->bM5 X.A c.s va vb r/\bG4 X.A c.s va vb (!r)) e (λvs e2 ra=>?_) ra
 ·obtain⟨xs,e1,e⟩:=AF e
  obtain⟨ys,e2,e⟩:=AF e
  exact Aw e1 R ra λl us k p1 p2=>Aw e2 R rb λl' us' k' p3 p4=>HH (P:=λr=>bM5 X.A c.s (.ref l) (.ref l') r/\bG4 X.A c.s (.ref l) (.ref l') (!r)) ih p2 p4 e λf he=>LZ hu' p1 p3 he
 ·obtain⟨xs,e1,e⟩:=AF e
  obtain⟨ys,e2,e⟩:=AF e
  exact Di e1 ra λl us k p1 p2=>Di e2 rb λl' us' k' p3 p4=>HH (P:=λr=>bM5 X.A c.s (.ref l) (.ref l') r/\bG4 X.A c.s (.ref l) (.ref l') (!r)) ih p2 p4 e λf he=>Nr hu' p1 p3 he
 ·rw[show va = .none from ra]
  exact Di e2 rb λl us k p1 p2=>⟨.none_tuple (Ba p1) hu',.none_tuple (Ba p1) hu'⟩
end
noncomputable def Nv(a:AV):Option Bool:=match a with
 | .none=>some true
 | .fn _=>none
 | _=>some false
def BQ(vs:List AV):Option (List AB):=aB5 (some []) (λa _ ih=>(BL a).bind λk=>ih.map (k :: ·)) vs
def F0(xs ys:List AV)(K:Bool->Prop):Prop:=Ab (BQ xs) λks=>Ab (BQ ys) λls=>K false/\(ks=ls->K true)
def Kr(a:AV):Option (List AV):=(DR a).bind λp=>SK.rec none (some p.2) none p.1
noncomputable def AB.toStr:AB->Option Str
 | .str i=>some i
 | .int _=>none
def HP(a:AV):Option Str:=(BL a).bind AB.toStr
def oJ(a b:AV)(K:Bool->Prop):Prop:=aD5 (Ab (Kr a) λxs=>aD5 (Ab (Kr b) λys=>F0 xs ys K) (λ_=>K false) (HP b)) (λ_=>Ab (Kr b) λ_=>K false) (HP a)
def uO(a b:AV)(K:Bool->Prop):Prop:=Ab (Nv a) λx=>Ab (Nv b) λy=>
 aH3 (aH3 (oJ a b K) (K false) y) (K y) x
def LA(a b:AV)(σ:St)(Q:AV->St->Prop)(f:Int->Int->Bool):Prop:=Ab (BX a) λx=>Ab (BX b) λy=>Q (.bool (f x y)) σ
def JG(op:bF6)(a b:AV)(σ:St)(Q:AV->St->Prop):Prop:=match op with
 | .Lt=>LA a b σ Q λx y=>decide (x<y)
 | .LtE=>LA a b σ Q λx y=>decide (x<=y)
 | .Gt=>LA a b σ Q λx y=>decide (y<x)
 | .GtE=>LA a b σ Q λx y=>decide (y<=x)
 | .Eq=>Ab (DT σ a b) λr=>Q (.bool r) σ
 | .NotEq=>Ab (DT σ a b) λr=>Q (.bool (!r)) σ
 | .Is=>uO a b λr=>Q (.bool r) σ
 | .IsNot=>uO a b λr=>Q (.bool (!r)) σ
 | _=>False
def EZ{P:AV->Prop}{a:AV}{vs:List AV}(e:Kr a=some vs)(f:P (.lst vs)):P a:=by
 obtain⟨⟨k,us⟩,e1,e⟩:=AF e
 exact Fj e1 (SK.casesOn (motive:=λk=>SK.rec (motive:=λ_=>Option (List AV)) none (some us) none k=some vs->P (.seq k us)) k AA (λe=>aA1 e▸f) AA e)
section
variable{L:CU}{G:Ű}{h:aF0}{n:Nat}
def PB{xs:List AV} :∀{ys:List AV} {ks ls:List AB} {us:List Value},BQ xs=some ks->BQ ys=some ls->A2 L G h n xs us->A2 L G h n ys us->ks=ls:=by
 refine aB5 (motive:=λxs=>∀{ys:List AV} {ks ls:List AB} {us:List Value},BQ xs=some ks->BQ ys=some ls->A2 L G h n xs us->A2 L G h n ys us->ks=ls) (λ{ys ks ls us} e1 e2 q1 Ľ=>?_) (λa as ih ys ks ls us e1 e2 q1 Ľ=>?_) xs
 ·have hl:=Ľ.len
  rw[show us=[]from q1]at hl
  cases ys with
  | nil=>exact aA1 (e1.symm.trans e2)
  | cons b bs=>cases hl
 ·obtain⟨v,u,rfl,ź,a2⟩:=q1
  cases ys with
  | nil=>cases Ľ
  | cons b bs=>
   obtain⟨v',u',e,b1,b2⟩:=Ľ
   cases e
   obtain⟨x,p1,e1⟩:=AF e1
   obtain⟨xs',p2,rfl⟩:=map_some e1
   obtain⟨y,p3,e2⟩:=AF e2
   obtain⟨ys',p4,rfl⟩:=map_some e2
   rw[D9 (FB p1 ź) (FB p3 b1),ih p2 p4 a2 b2]
def FC(b:Bool)(v:Value):Prop:=(v == .none)=b/\plainIs v .none=true/\plainIs .none v=true/\(aI9==v)=b
def F4{b b':Bool}{v v':Value}(q:FC b' v')(e:v=v')(z:some b'=some b):FC b v:=e▸aA1 z▸q
def Mk{a:AV}{b:Bool}{v:Value}(e:Nv a=some b)(q:A8 L G h n a v):FC b v:=by
 have rf :∀{l:aC1},v = .ref l->some false=some b->FC b v:=F4 ⟨rfl,rfl,rfl,rfl⟩
 have bx :∀{β:Type} {P:aC1->β->Prop} {R:β->Prop},EF P G R v->some false=some b->FC b v:=λq=>q.casesOn λ_ _ hv _ _ _=>rf hv
 exact AV.casesOn (motive_1:=λa=>A8 L G h n a v->Nv a=some b->FC b v) a (F4 ⟨rfl,rfl,rfl,rfl⟩) (λx=>F4 ⟨rfl,rfl,rfl,rfl⟩)
  (λk=>AB.casesOn (motive:=λk=>A8 L G h n (.key k) v->some false=some b->FC b v) k (λi q=>(Au q).elim λt=>F4 ⟨rfl,rfl,rfl,rfl⟩) λi q=>(Ay q).elim λt=>F4 ⟨rfl,rfl,rfl,rfl⟩)
  (λ_ _=>bx) (λx q=>rf q.1) (λ_ _=>AA) (λx=>rf) (λ_ _=>bx) (λ_=>bx) (λ_=>bx) bx q e
end
section
variable{X:Cx}{c:Ž}{a b:AV}{va vb:Value}
def Rw{P:AV->Prop}{a:AV}{i:Str}(e:HP a=some i)(f:P (.str i)):P a:=by
 obtain⟨k,e1,e2⟩:=AF e
 exact Fh e1 (AB.casesOn (motive:=λk=>k.toStr=some i->P (.key k)) k (λ_=>AA) (λ_ e=>aA1 e▸f) e2)
@[elab_as_elim] theorem EP{P:Value->Prop}{a:AV}{i:Str}{v:Value}(e:HP a=some i)(r:VR X c a v)(f :∀t,P (.str i t)):P v:=by
 obtain⟨t,rfl⟩:=Ay (Rw (P:=λa=>VR X c a v->Aa (.str i) v=true) e id r)
 exact f t
def eO{K:Bool->Prop}(h:uO a b K)(R:ŵ X c)(ra:VR X c a va)(rb:VR X c b vb){Q:Bool->aA7->Prop}(hq :∀r,K r->Q r c.s):ţ X (isSame va vb) Q c.s:=by
 refine AC h λx e1 h=>AC h λy e2 h=>?_
 have pa:=Mk e1 ra
 have pb:=Mk e2 rb
 cases x with
 | true=>
  have hv:va = .none:=aF2 pa.1
  exact aW5 (hv▸pb.2.2.1) (hv▸pb.2.2.2.symm▸hq y h)
 | false=>
  cases y with
  | true=>
   have hv:vb = .none:=aF2 pb.1
   exact aW5 (hv▸pa.2.1) (hv▸pa.1.symm▸hq false h)
  | false=>
   refine BM h (λh=>AC h λxs e1 h=>BM h (λh=>AC h λys e2 h=>AC h λks e3 h=>AC h λls e4 h=>?_) λx e2 h=>?_) λx e1 h=>AC h λys e2 h=>?_
   ·cases EZ (P:=λa=>VR X c a va->VR X c (.lst xs) va) e1 id ra with
    | mk l us hv hp _ hr=>
    cases EZ (P:=λb=>VR X c b vb->VR X c (.lst ys) vb) e2 id rb with
    | mk l' us' hv' hp' _ hr'=>
    subst hv;subst hv'
    obtain⟨k,hp⟩:=hp
    obtain⟨k',hp'⟩:=hp'
    by_cases hl:l=l'
    ·subst hl
     rw[<-(Kw (hp.symm.trans hp')).2]at hr'
     exact wpAny_isSame_ref_self (hq _ (h.2 (PB e3 e4 hr hr')))
    ·exact wpAny_isSame_ref_other hl hp hp' (show bA6 "list"≠bA6 "tuple" by decide) (hq _ h.1)
   ·cases EZ (P:=λa=>VR X c a va->VR X c (.lst xs) va) e1 id ra with
    | mk l us hv hp _ hr=>
    subst hv
    exact EP (P:=λvb=>ţ X (isSame (.ref l) vb) Q c.s) e2 rb λt=>aW5 rfl (hq _ h)
   ·cases EZ (P:=λa=>VR X c a vb->VR X c (.lst ys) vb) e2 id rb with
    | mk l us hv hp _ hr=>
    subst hv
    exact EP (P:=λva=>ţ X (isSame va (.ref l)) Q c.s) e1 ra λt=>aW5 rfl (hq _ h)
def JC{f:Int->Int->Bool}{op:bF6}{Q:AV->St->Prop}(h:LA a b c.σ Q f)(R:ŵ X c)(ra:VR X c a va)(rb:VR X c b vb)(g :∀{x y:Int} {t u:Tok},A1 X (VR X) c Q (.bool (f x y)) c.s->ŝ X c Q (aX4 op (.int x t) (.int y u))):ŝ X c Q (aX4 op va vb):=
 AC h λx e1 h=>AC h λy e2 h=>A5 e1 ra λt=>A5 e2 rb λu=>g (.here (b:=AV.bool (f x y)) R rfl h)
def iG{op:bF6}{Q:AV->St->Prop}(hu:X.A.units+10<cLine)(h:JG op a b c.σ Q)(R:ŵ X c)(ra:VR X c a va)(rb:VR X c b vb):ŝ X c Q (aX4 op va vb):=
 bF6.casesOn (motive:=λop=>JG op a b c.σ Q->ŝ X c Q (aX4 op va vb)) op
  (λh=>AC h λr e h=>(cB hu e R ra rb).1 _ _ _ _ (.here (b:=AV.bool r) R rfl h)) (λh=>AC h λr e h=>(cB hu e R ra rb).2 _ _ _ _ (.here (b:=AV.bool (!r)) R rfl h))
  (λh=>JC h R ra rb λq=>lt_int q) (λh=>JC h R ra rb λq=>le_int q) (λh=>JC h R ra rb λq=>gt_int q) (λh=>JC h R ra rb λq=>ge_int q)
  (λh=>ţ.bind (eO h R ra rb λr h=>ţ.pure (.here (b:=AV.bool r) R rfl h))) (λh=>ţ.bind (eO h R ra rb λr h=>ţ.pure (.here (b:=AV.bool (!r)) R rfl h))) aA8 aA8 h
end
def Ud:aI2 (.type "function") "__bool__" = pure none:=by rw[aH0,aE9];rfl'
def Tx:aI2 (.type "function") "__len__" = pure none:=by rw[aH0,aE9];rfl'
def M0{prog:aG3}{w:aB9}{A:aH7}{E:Value->aA7->Prop}{s:aA7}{a:aC1}{fd:aS6}{Q:Bool->aA7->Prop}(ho:s.heap.get? a=some {cls:=.type "function",data:=.func fd})(h:Q true s):aD2 (aD9 prog w) A (truthy (.ref a)) Q E s:=by
 have hT:s.TypeIs (.ref a) "function":=⟨_,ho,rfl⟩
 unfold truthy
 refine aA2 (wpAny_callSpecial?_none (name:=aA0 "__bool__") hT Ud ?_)
 refine aA2 (aW1 (name:=aA0 "__len__") hT Tx ?_)
 exact aA4 h
noncomputable def Lh(a:AV):Option Bool:=match a with
 | .lam=>some true
 | .bool b=>some b
 | .none=>some false
 | _=>none
def CV(a:AV)(σ:St)(Q:Bool->St->Prop):Prop:=aD5 (aD5 (aD5 (Ab (BK σ a) λvs=>AE vs.length/\Q (!vs.isEmpty) σ) (λx=>x.length<1000000/\Q ((x.length:Int) != 0) σ) (HP a)) (λi=>Q (i != 0) σ) (BX a)) (λb=>Q b σ) (Lh a)
def fits{n:Nat}(h:n<=1000000):(n:Int)<2 ^ 63:=bD5 (aM2.mpr h) (by decide)
def PH{α β:Type}{us:List α}{vs:List β}(h:us.length=vs.length):us.toArray.isEmpty=vs.isEmpty:=by
 cases us with
 | nil=>cases vs with
  | nil=>rfl
  | cons=>cases h
 | cons=>cases vs with
  | nil=>cases h
  | cons=>rfl
section
variable{X:Cx}{c:Ž}{a b:AV}{va vb:Value}
def Ow{b:Bool}(e:Lh a=some b)(q:VR X c a va){Q:Bool->aA7->Prop}(h:Q b c.s):ţ X (truthy va) Q c.s:=
 AV.casesOn (motive_1:=λa=>VR X c a va->Lh a=some b->ţ X (truthy va) Q c.s) a (λq e=>(show va = .none from q).symm▸truthy_none (aA1 e▸h)) (λx q e=>(show va = .bool x from q).symm▸aO7 (aA1 e▸h))
  (λ_ _=>AA) (λ_ _ _=>AA) (λ_ _=>AA) (λ_ _=>AA) (λ_ _=>AA) (λ_ _ _=>AA) (λ_ _=>AA) (λ_ _=>AA) (λq e=>q.casesOn λ_ _ hv ho _ _=>hv▸M0 ho (aA1 e▸h)) q e
def QU{Q:Bool->St->Prop}(h:CV a c.σ Q)(R:ŵ X c)(ra:VR X c a va):ţ X (truthy va) (A1 X Ks c Q) c.s:=
 BM h (λh=>BM h (λh=>BM h (λh=>AC h λvs e h=>Aw e R ra λl us k p1 p2=>wpAny_truthy_list (AP p1) (fits (aA3 (aB7 p2.len) h.1)) (PH p2.len▸A1.to (b:=!vs.isEmpty) (R.toks _) rfl h.2))
  λx e h=>EP e ra λt=>PySem.P.truthy_str (bM6.mpr (fits (aE4 h.1))) (.to (b:=((x.length:Int) != 0)) (R.toks _) rfl h.2)) λi e h=>A5 e ra λt=>PyProof.Rows.truthy_int (A1.here (b:=(i != 0)) R rfl h)) λb e h=>Ow e ra (A1.here (b:=b) R rfl h)
end
noncomputable def AO.dct:AO->Option (List (AB×AV))
 | .dict es=>some es
 | _=>none
def E5(σ:St)(a:AV):Option (List (AB×AV)):=match a with
 | .dct es=>some es
 | a=>(objOf σ a).bind AO.dct
noncomputable def AO.fs:AO->Option (List AB)
 | .set es=>some es
 | _=>none
def IR(σ:St)(a:AV):Option (List AB):=match a with
 | .fset es=>some es
 | a=>(objOf σ a).bind AO.fs
def AO.dct_eq{o:AO}{vs:List (AB×AV)}(e:o.dct=some vs):o = .dict vs:=
 AO.casesOn (motive:=λo=>o.dct=some vs->o = .dict vs) o (λ_=>AA) (λ_ e=>bO6 _ (aA1 e)) (λ_=>AA) (λ_ _=>AA) (λ_=>AA) e
def AO.fs_eq{o:AO}{vs:List AB}(e:o.fs=some vs):o = .set vs:=
 AO.casesOn (motive:=λo=>o.fs=some vs->o = .set vs) o (λ_=>AA) (λ_=>AA) (λ_ e=>bO6 _ (aA1 e)) (λ_ _=>AA) (λ_=>AA) e
section
variable{X:Cx}{c:Ž}{a b:AV}{va vb:Value}
@[elab_as_elim] theorem DA{P:Value->Prop}{es:List (AB×AV)}{v:Value}(e:E5 c.σ a=some es)(R:ŵ X c)(r:VR X c a v)(f :∀d kvs,X.L.dct c.s.heap d kvs->VD X c es kvs->P (.ref d)):P v:=by
 have ow :∀{a},VR X c a v->(objOf c.σ a).bind AO.dct=some es->P v:=λ{a} r e=>by
  obtain⟨o,e1,e2⟩:=AF e
  obtain⟨x,rfl,q⟩:=Hr e1 R r
  rw[AO.dct_eq e2]at q
  exact q.rel.casesOn λus hp hr=>f _ us hp hr
 exact AV.casesOn (motive_1:=λa=>VR X c a v->E5 c.σ a=some es->P v) a ow (λ_=>ow) (λ_=>ow) (λ_ _=>ow) (λ_=>ow) (λ_=>ow) (λ_=>ow) (λ_ _=>ow) (λus r e=>r.casesOn λl us hv hp ho hr=>hv▸f l us hp (aA1 e▸hr)) (λ_=>ow) ow r e
@[elab_as_elim] theorem FV{P:Value->Prop}{ks:List AB}{v:Value}(e:IR c.σ a=some ks)(R:ŵ X c)(r:VR X c a v)(f :∀d,X.L.set c.s.heap d ks->P (.ref d)):P v:=by
 have ow :∀{a},VR X c a v->(objOf c.σ a).bind AO.fs=some ks->P v:=λ{a} r e=>by
  obtain⟨o,e1,e2⟩:=AF e
  obtain⟨x,rfl,q⟩:=Hr e1 R r
  rw[AO.fs_eq e2]at q
  exact f _ q.rel
 exact AV.casesOn (motive_1:=λa=>VR X c a v->IR c.σ a=some ks->P v) a ow (λ_=>ow) (λ_=>ow) (λ_ _=>ow) (λ_=>ow) (λ_=>ow) (λ_=>ow) (λ_ _=>ow) (λ_=>ow) (λus r e=>r.casesOn λl _ hv hp ho hr=>hv▸f l (aA1 e▸hp)) ow r e
end
section
variable{L:CU}{G:Ű}{h:aF0}{n:Nat}
def Oj(k:AB)(p:AB×Value)(r:List (AB×Value)):valueAt (p::r) k=bif k==p.1 then some p.2 else valueAt r k:=by
 unfold valueAt
 rw[List.find?_cons]
 by_cases hk:p.1=k
 ·rw[bP0 hk,<-hk,bP3];rfl
 ·rw[bP1 hk,beq_eq_false_iff_ne.mpr (bC8 hk)];rfl
def Ai.look{es:List (AB×AV)}(k:AB) :∀{kvs:List (AB×Value)},Ai L G h n es kvs->∀{P:Option AV->Option Value->Prop},P none none->(∀a v,A8 L G h n a v->P (some a) (some v))->P (es.lookup k) (valueAt kvs k):=by
 refine aB5 (motive:=λes=>∀{kvs:List (AB×Value)},Ai L G h n es kvs->∀{P:Option AV->Option Value->Prop},P none none->(∀a v,A8 L G h n a v->P (some a) (some v))->P (es.lookup k) (valueAt kvs k)) (λ{kvs} q P p _=>(show kvs=[]from q)▸p) (λa r ih kvs q P p f=>?_) es
 obtain⟨key,a⟩:=a
 obtain⟨v,us,rfl,q1,Ľ⟩:=q
 rw[AS,Oj]
 cases k==key with
 | true=>exact f a v q1
 | false=>exact ih Ľ p f
def Ai.len{as:List (AB×AV)}{vs:List (AB×Value)}(q:Ai L G h n as vs):vs.length=as.length:=
 aB5 (motive:=λas=>∀vs,Ai L G h n as vs->vs.length=as.length) (λ_ q=>bO6 _ q) (λa r ih vs q=>q.elim λv q=>q.elim λu q=>(bO6 _ q.1).trans (bO6 aQ9 (ih u q.2.2))) as vs q
def A2.pick{vs:List AV}{us:List Value}(q:A2 L G h n vs us)(is:List Nat):A2 L G h n (is.filterMap (vs[·]?)) (is.filterMap (us.toArray[·]?)):=by
 refine aB5 (motive:=λis=>A2 L G h n (is.filterMap (vs[·]?)) (is.filterMap (us.toArray[·]?))) rfl (λi r ih=>?_) is
 cases e1:vs[i]? with
 | none=>
  rw[List.filterMap_cons_none e1,List.filterMap_cons_none (aF1.trans (aG9 (q.len▸List.getElem?_eq_none_iff.mp e1)))]
  exact ih
 | some a=>
  obtain⟨u,g1,g2⟩:=q.get e1
  rw[List.filterMap_cons_some e1,List.filterMap_cons_some (aF1.trans g1)]
  exact⟨u,_,rfl,g2,ih⟩
end
noncomputable def CD(vs:List AV)(k:Int):Option AV:=(seqIndex? k vs.length).bind (vs[·]?)
def Ar(k:Int):Prop:=-1000000<=k/\k<1000000
def iF(vs:List AV)(b:AV)(σ:St)(Q:AV->St->Prop):Prop:=Ab (BX b) λk=>Ar k/\∃v,CD vs k=some v/\Q v σ
def Fo(a b:AV)(σ:St)(Q:AV->St->Prop):Prop:=
 aD5 (aD5 (Ab (E5 σ a) λes=>Ab (BL b) λk=>∃v,es.lookup k=some v/\Q v σ) (λvs=>iF vs b σ Q) (BK σ a)) (λvs=>iF vs b σ Q) (FS a)
def HD(a:AV):Option (Option Int):=match a with
 | .none=>some none
 | a=>(BX a).map some
noncomputable def Ag{α:Type}(vs:List α)(lo hi st:Option Int):List α:=
 (sliceRange (sliceBounds lo hi st vs.length).1 (sliceBounds lo hi st vs.length).2.1 (sliceBounds lo hi st vs.length).2.2).filterMap (vs[·]?)
def jN(a lo hi st:AV)(σ:St)(Q:AV->St->Prop):Prop:=
 Ab (BK σ a) λvs=>Ab (HD lo) λl=>Ab (HD hi) λh=>Ab (HD st) λt=>t≠some 0/\AE vs.length/\Q (.lst (Ag vs l h t)) σ
def Ar.hi{k:Int}(h:Ar k):k<2 ^ 63:=bC9 h.2 (by decide)
def Ar.lo{k:Int}(h:Ar k):-(2 ^ 63)<=k:=aQ3 (by decide) h.1
section
variable{X:Cx}{c:Ž}{a b:AV}{va vb:Value}{Q:AV->St->Prop}
def SA{vs:List AV}{us:List Value}{k:Int}{v:AV}(e:CD vs k=some v)(q:Ŧ X c vs us) :∃j u,seqIndex? k us.length=some j/\us[j]?=some u/\VR X c v u:=by
 obtain⟨j,e1,e2⟩:=AF e
 obtain⟨u,g1,g2⟩:=q.get e2
 exact⟨j,u,q.len.symm▸e1,g1,g2⟩
def P3{prog:aG3}{w:aB9}{A:aH7}{E:Value->aA7->Prop}{s:aA7}{l:aC1}{us:List Value}{k:Int}{t:Tok}{n j:Nat}{x:Value}{Q:Value->aA7->Prop}(hl:s.heap.get? l=some (Ad us n))(hk:Ar k)(hj:seqIndex? k us.length=some j)(hx:us[j]?=some x)(q:Q x s) :
  aD2 (aD9 prog w) A (getItem (.ref l) (.int k t)) Q E s:=by
 unfold seqIndex? at hj
 by_cases h0:k<0
 ·rw[bO7 h0]at hj
  obtain⟨h1,h2⟩:=Option.ite_none_right_eq_some.mp hj
  have h3:=(AL h1).1
  exact wpAny_getItem_list_neg (AP hl) h0 (Int.zero_sub (us.length:Int)▸Int.sub_left_le_of_le_add (Int.add_comm k us.length▸bP2 h3)) hk.lo (aF1.trans ((aA1 h2).symm▸hx)) q
 ·rw[bO8 h0]at hj
  obtain⟨h1,h2⟩:=Option.ite_none_right_eq_some.mp hj
  exact wpAny_getItem_list (AP hl) (bA7.mp h0) hk.hi (aF1.trans ((aA1 h2).symm▸hx)) q
def dJ(h:Fo a b c.σ Q){value slice:Expr}(hs :∀o i,subscripted slice false o i=operate [o,i] (getItem o i))(R:ŵ X c)(ra:VR X c a va)(rb:VR X c b vb):ŝ X c Q (subscriptTail value slice va vb):=
 BM h (λh=>BM h
  (λh=>AC h λes e1 h=>AC h λk e2 h=>DA e1 R ra λd kvs p1 p2=>h.elim λv h=>by
   have hv :∃u,valueAt kvs k=some u/\VR X c v u:=p2.look k (P:=λx y=>x=some v->∃u,y=some u/\VR X c v u) AA (λa u r e=>⟨u,rfl,aA1 e▸r⟩) h.1
   obtain⟨u,e3,r3⟩:=hv
   exact tail_any p1.1.typeIs slot_dict_getitem.lookup (wpAny_getItem_of (BS e2 rb) p1.1.mapOf e3 (.val _ R r3 h.2)) (hs _ _))
  λvs e1 h=>AC h λk e2 h=>Aw e1 R ra λl us n p1 p2=>A5 e2 rb λt=>h.2.elim λv h'=>(SA h'.1 p2).elim λj z=>z.elim λu z=>tail_any (AP p1).typeIs slot_list_getitem.lookup (P3 p1 h.1 z.1 z.2.1 (.here R z.2.2 h'.2)) (hs _ _))
 λvs e1 h=>AC h λk e2 h=>Di e1 ra λl us n p1 p2=>A5 e2 rb λt=>h.2.elim λv h'=>(SA h'.1 p2).elim λj z=>z.elim λu z=>item_tupleT ⟨_,p1,rfl,n,rfl⟩ h.1.lo h.1.hi z.1 z.2.1 (.here R z.2.2 h'.2) (hs _ _)
def J9{k:Option Int}(e:HD a=some k)(r:VR X c a va):IsPart va k:=by
 have ow :∀{a},VR X c a va->(BX a).map some=some k->IsPart va k:=λ{a} r e=>by
  obtain⟨i,e1,rfl⟩:=map_some e
  exact A5 e1 r λt=>.int i t
 exact AV.casesOn (motive_1:=λa=>VR X c a va->HD a=some k->IsPart va k) a (λq e=>(show va = .none from q)▸aA1 e▸.none) (λ_=>ow) (λ_=>ow) (λ_ _=>ow) (λ_=>ow) (λ_=>ow) (λ_=>ow) (λ_ _=>ow) (λ_=>ow) (λ_=>ow) ow r e
def PU{lo hi st:Option Expr}{p:Pos}{o i:Value} :∃ops,subscripted (.Slice lo hi st p) false o i=operate ops (getItem o i):=by
 cases st<;>exact⟨_,rfl⟩
def jL{d e:AV}{vd ve:Value}(h:jN a b d e c.σ Q){value:Expr}{el eh et:Option Expr}{p:Pos}(R:ŵ X c)(ra:VR X c a va)(rb:VR X c b vb)(rd:VR X c d vd)(re:VR X c e ve) :
  ţ X (newFields "slice" [vb,vd,ve]) (λi s'=>ţ X (subscriptTail value (.Slice el eh et p) va i) (A1 X (VR X) c Q) s') c.s:=by
 refine AC h λvs e0 h=>AC h λl e1 h=>AC h λu e2 h=>AC h λt e3 h=>Aw e0 R ra λll us n p1 p2=>aH8 (T:="slice") (data:=.fields #[vb,vd,ve]) (dict:=none) ?_
 have x:=R.push {cls:=.type "slice",data:=.fields #[vb,vd,ve]} c.s.toks
 obtain⟨ops,hs⟩:=PU (lo:=el) (hi:=eh) (st:=et) (p:=p) (o:=.ref ll) (i:=.ref c.s.heap.objs.size)
 have l1:(c.s.heap.push {cls:=.type "slice",data:=.fields #[vb,vd,ve]}).IsList ll us.toArray:=AP (k:=n) (aB1 _ p1)
 have pk:Ŧ X c (Ag vs l u t) (slicePick us.toArray l u t).toList:=by
  unfold Ag
  rw[<-p2.len]
  exact p2.pick _
 exact tail_any (aF0.IsList.typeIs (s:={c.s with heap:=c.s.heap.push {cls:=.type "slice",data:=.fields #[vb,vd,ve]}}) l1) slot_list_getitem.lookup
  (wpAny_getItem_list_slice l1 (aF0.IsSliceOf.new ..) (J9 e1 rb) (J9 e2 rd) (J9 e3 re) h.1 (.lift x (.newLst (c:=c.hp c.σ _ c.s.toks) _ 0 x.R (x.pre.va pk) h.2.2)) (h.2.1.line p2.len)) hs
end
end Mine
end
section
open PySem PySem.W PyProof.Rows
namespace Mine
def Fx{M:bE3}{Γ:Ctx}{p:Pos}{t:Sem bN4}{fs:List Frame}{s:aA7}{e:End}{s':aA7}(h:Runs M Γ p t fs s e s'):s.heap.objs.size<=s'.heap.objs.size:=by
 induction h with
 | update _ _ ih=>rw[aJ9]at ih;exact ih
 | alloc _ ih=>rw[aE3]at ih;exists 2,0x1001180a08,ih
 | _=>first | exact aA9 _ | assumption | (simp only[aA7.setGen]at *;omega) | omega
def M4{M:bE3}{Γ:Ctx}{p:Pos}{g:Nat}{r:Resume}{s:aA7}{res:GenResult}{s':aA7}(h:Wakes M Γ p g r s res s'):s.heap.objs.size<=s'.heap.objs.size:=by
 unfold Wakes at h
 split at h
 ·exact h.elim
 ·split at h
  ·obtain⟨e₁,s₁,h1,_,_,rfl⟩:=h
   have:=Fx h1;exact this
  ·rw[h.2];exact aA9 _
  ·rw[h.2];exact aA9 _
 ·obtain⟨e₁,s₁,h1,_,_,rfl⟩:=h
  have:=Fx h1;exact this
 ·rw[h.2];exact aA9 _
 ·rw[h.2];exact aA9 _
def VG{α:Type}{M:bE3}{Γ:Ctx} :∀(t:Sem α) {Q:α->Pos->aA7->Prop} {E:Value->Pos->aA7->Prop} {p:Pos} {s:aA7} (n:Nat),n<=s.heap.objs.size->aN6 M Γ t Q E p s->aN6 M Γ t (λa p' s'=>Q a p' s'/\n<=s'.heap.objs.size) (λa p' s'=>E a p' s'/\n<=s'.heap.objs.size) p s:=by
 intro t
 induction t with
 | pure a=>intro Q E p s n hn h;unfold aN6 at h ⊢;exact⟨h,hn⟩
 | raise a=>intro Q E p s n hn h;unfold aN6 at h ⊢;exact⟨h,hn⟩
 | unsupported=>intro Q E p s n hn h;unfold aN6 at h;exact h.elim
 | finish=>intro Q E p s n hn h;unfold aN6 at h;exact h.elim
 | register=>intro Q E p s n hn h;unfold aN6 at h;exact h.elim
 | yield=>intro Q E p s n hn h;unfold aN6 at h;exact h.elim
 | fork=>intro Q E p s n hn h;unfold aN6 at h;exact h.elim
 | await=>intro Q E p s n hn h;unfold aN6 at h;exact h.elim
 | rule tag k ih=>intro Q E p s n hn h;unfold aN6 at h ⊢;exact ih _ n hn h
 | «at» p' k ih=>intro Q E p s n hn h;unfold aN6 at h ⊢;exact ih _ n hn h
 | load a pt k ih=>intro Q E p s n hn h;unfold aN6 at h ⊢;obtain⟨o,h1,h2⟩:=h;exact⟨o,h1,ih _ n hn h2⟩
 | update a pt f k ih=>intro Q E p s n hn h;unfold aN6 at h ⊢;exact⟨h.1,ih _ n (by show n<=(s.heap.update a f).objs.size;rw[aJ9];exact hn) h.2⟩
 | loadIfAlive a k ih=>intro Q E p s n hn h;unfold aN6 at h ⊢;exact ih _ n hn h
 | point l k ih=>intro Q E p s n hn h;unfold aN6 at h ⊢;exact ih _ n hn h
 | alloc o k ih=>intro Q E p s n hn h;unfold aN6 at h ⊢;exact ih _ n (by show n<=(s.heap.push o).objs.size;rw[aE3];exact id (ql [_,_] 0x181a001008 (by rfl') hn)) h
 | fresh k ih=>intro Q E p s n hn h;unfold aN6 at h ⊢;exact ih _ n hn h
 | ask k ih=>intro Q E p s n hn h;unfold aN6 at h ⊢;exact ih _ n hn h
 | choose src m k ih=>intro Q E p s n hn h;unfold aN6 at h ⊢;exact⟨h.1,ih _ n hn h.2⟩
 | os q l k ih=>intro Q E p s n hn h;unfold aN6 at h ⊢;exact ih _ n hn h
 | call c hd g l k ih=>
  intro Q E p s n hn h
  unfold aN6 at h ⊢
  obtain⟨r,s',h1,h2⟩:=h
  exact⟨r,s',h1,ih r n (aA3 hn (Fx h1)) h2⟩
 | handled own k ih=>intro Q E p s n hn h;unfold aN6 at h ⊢;exact ih _ n hn h
 | genState g k ih=>intro Q E p s n hn h;unfold aN6 at h ⊢;obtain⟨o,h1,h2⟩:=h;exact⟨o,h1,ih _ n hn h2⟩
 | newGen c k ih=>intro Q E p s n hn h;unfold aN6 at h ⊢;exact ih _ n hn h
 | resume g r l k ih=>
  intro Q E p s n hn h
  unfold aN6 at h ⊢
  obtain⟨res,s',h1,h2⟩:=h
  exact⟨res,s',h1,ih res n (aA3 hn (M4 h1)) h2⟩
 | stack k ih=>intro Q E p s n hn h;unfold aN6 at h ⊢;exact ih _ n hn h
 | thread k ih=>intro Q E p s n hn h;unfold aN6 at h ⊢;exact ih _ n hn h
def M3{α:Type}{M:bE3}{A:aH7}{t:Sem α}{Q:α->aA7->Prop}{E:Value->aA7->Prop}{s:aA7}(h:aD2 M A t Q E s) :
  aD2 M A t (λa s'=>Q a s'/\s.heap.objs.size<=s'.heap.objs.size) (λe s'=>E e s'/\s.heap.objs.size<=s'.heap.objs.size) s:=
 λΓ p hΓ=>VG t _ (aA9 _) (h Γ p hΓ)
def EX{α:Type}{M:bE3}{A:aH7}{t:Sem α}{Q:α->aA7->Prop}{E:Value->aA7->Prop}{s:aA7}(h:aD2 M A t (λa s'=>s.heap.objs.size<=s'.heap.objs.size->Q a s') E s):aD2 M A t Q E s:=
 aP5 (M3 h) (λa s' h'=>h'.1 h'.2) λe s' h'=>h'.1
end Mine
end
section
open PySem PySem.W PyProof.Rows PySem.Spec PySem.Calls PySem.SeqAt
namespace Mine
structure MatC(h₀:aF0)(C:aC1):Prop where
 iter :∀M,aF4 M h₀ (aI2 (.ref C) "__iter__") (some (.builtin "tuple.__iter__"))
 sub :∀M,aF4 M h₀ (aR1 (.ref C) (.type "tuple")) true
section
variable{prog:aG3}{w:aB9}{A:aH7}{E:Value->aA7->Prop}{s:aA7}{h₀:aF0}{C m:aC1}{us:List Value}{k:Nat×Option aC1}
def Gy{M:bE3}{Q:Value->aA7->Prop}(hm:s.heap.get? m=some (BW C us k))(h:Q (.ref C) s):aD2 M A (typeOf (.ref m)) Q E s:=
 aA2 (aY6 hm (aA4 h))
def C4{M:bE3}{name:Str}{r:Option Value}{Q:Option Value->aA7->Prop}(hm:s.heap.get? m=some (BW C us k))(hk :∀b o,h₀.get? b=some o->s.heap.get? b=some o)
  (hl:aF4 M h₀ (aI2 (.ref C) name) r) (h:Q r s):aD2 M A (bD3 (.ref m) name) Q E s:=
 aA2 (Gy hm (hl A Q E s hk h))
def Sv{M:bE3}(hc:MatC h₀ C)(hm:s.heap.get? m=some (BW C us k))(hk :∀b o,h₀.get? b=some o->s.heap.get? b=some o):aF4 M s.heap (aW6 (.ref m) (.type "tuple")) true:=
 λA Q E s' k' q=>aA2 (Gy (k' _ _ hm) ((hc.sub M) A Q E s' (λb o e=>k' _ _ (hk b o e)) q))
def OZ{M:bE3}{name:Str}{id:String}{args:List Value}{Q:Option Value->aA7->Prop}(hm:s.heap.get? m=some (BW C us k))(hk :∀b o,h₀.get? b=some o->s.heap.get? b=some o)
  (hl:aF4 M h₀ (aI2 (.ref C) name) (some (.builtin id))) (hb :∀self,bindSpecial (.builtin id) self=pure (.builtin id,[self]))
  (hc:aD2 M A (call (.builtin id) (.ref m::args)) (λv=>Q (some v)) E s):aD2 M A (callSpecialIfBound? (.ref m) name args) Q E s:=by
 simp only[callSpecialIfBound?,bindSpecialIfBound?]
 refine aJ8 (aA2 (aA2 (C4 hm hk hl ?_)))
 simp only[hb]
 refine aA2 (aP3 (wpAny_ite ?_))
 have fin:aD2 M A (call (.builtin id) ([.ref m]++args) >>= λv=>pure (some v)) Q E s:=
  aA2 (aP5 hc (λv s' h'=>aA4 h') λ_ _ h'=>h')
 split
 ·exact aA2 (aA4 (aA4 fin))
 ·exact bH5 (aA2 (aA4 (aA4 fin)))
def MW{M:bE3}{name:Str}{id:String}{refuse:Sem Value}{Q:Option Value->aA7->Prop}(hm:s.heap.get? m=some (BW C us k))(hk :∀b o,h₀.get? b=some o->s.heap.get? b=some o)
  (hl:aF4 M h₀ (aI2 (.ref C) name) (some (.builtin id))) (hb :∀self,bindSpecial (.builtin id) self=pure (.builtin id,[self]))
  (hc:aD2 M A (call (.builtin id) [.ref m]) (λv=>Q (some v)) E s):aD2 M A (callSpecialIfBoundUnlessNone? (.ref m) name refuse) Q E s:=by
 simp only[callSpecialIfBoundUnlessNone?,bindSpecialIfBound?]
 refine aJ8 (aA2 (aA2 (C4 hm hk hl ?_)))
 simp only[hb]
 refine aA2 (aP3 (wpAny_ite ?_))
 have fin:aD2 M A (if(Value.builtin id==aI9)=true then(refuse >>= λv=>pure (some v))else(call (.builtin id) [.ref m] >>= λv=>pure (some v))) Q E s:=by
  simp only[builtin_beq_none,aI3,if_false]
  exact aA2 (aP5 hc (λv s' h'=>aA4 h') λ_ _ h'=>h')
 split
 ·exact aA2 (aA4 (aA4 fin))
 ·exact bH5 (aA2 (aA4 (aA4 fin)))
end
def Hn(h:aF0)(t:aC1)(items:Array Value):Prop:=∃o n,h.get? t=some o/\o.data = .seq items n
section
variable{prog:aG3}{w:aB9}{A:aH7}{E:Value->aA7->Prop}{s:aA7}
def OK{it t:aC1}{i:Nat}{items:Array Value}{x:Value}{Q:Option Value->aA7->Prop}(hit:s.heap.IsTupleIter it t i)
  (ht:Hn s.heap t items) (hx:items[i]?=some x)
  (hQ :∀h',h'.IsTupleIter it t (i+1)->aF7 it s.heap h'->Q (some x) {s with heap:=h'}) :
  aD2 (aD9 prog w) A (aT1 (.ref it)) Q E s:=by
 obtain⟨o,ho,hc,hd⟩:=id hit
 obtain⟨ol,nl,hol,hdl⟩:=ht
 unfold aT1
 refine aA2 (aV7 (aJ0 (name:=aA0 "__next__") hit.typeIs aK7
  (aG7 aK7 hit.typeIs PySem.F.entry_tuple_iterator_next ?_ (PySem.F.args_tuple_iterator_next_1 _))))
 show aD2 _ _ (field (.ref it) 0 >>= _) _ _ s
 refine aA2 (aU0 ho hd (x:=.ref t) rfl ?_)
 show aD2 _ _ (if(aN2 t==aI9)=true then _ else _) _ _ s
 rw[bO8 (show ¬ ((aN2 t==aI9)=true)from aP6)]
 show aD2 _ _ (field (.ref it) 1 >>= _) _ _ s
 refine aA2 (aU0 ho hd (x:=.int i 0) rfl ?_)
 show aD2 _ _ (seqItems? (.ref t) >>= _) _ _ s
 refine aA2 (aR2 hol hdl ?_)
 simp only[aH9,hx]
 refine aA2 (aL9 ho hd (by simp) (aA4 ⟨x,rfl,aA4 (hQ _ ?_ (aH5 ..))⟩))
 exact⟨_,aI7 _ ho (Obj.isFreed_of_fields (Obj.data_mapFields hd _)),(Obj.cls_mapFields ..).trans hc,by
  rw[Obj.data_mapFields hd];simp[bA8]⟩
def Ri{it t:aC1}{i:Nat}{items:Array Value}{Q:Option Value->aA7->Prop}(hh:A.handled=none)
  (hit:s.heap.IsTupleIter it t i) (ht:Hn s.heap t items) (hx:items[i]?=none)
  (hQ :∀h',aU1 it s.heap h'->s.heap.objs.size<=h'.objs.size->Q none {s with heap:=h'}):aD2 (aD9 prog w) A (aT1 (.ref it)) Q E s:=by
 obtain⟨o,ho,hc,hd⟩:=id hit
 obtain⟨ol,nl,hol,hdl⟩:=ht
 unfold aT1
 refine aA2 (aV7 (aJ0 (name:=aA0 "__next__") hit.typeIs aK7
  (aG7 aK7 hit.typeIs PySem.F.entry_tuple_iterator_next ?_ (PySem.F.args_tuple_iterator_next_1 _))))
 show aD2 _ _ (field (.ref it) 0 >>= _) _ _ s
 refine aA2 (aU0 ho hd (x:=.ref t) rfl ?_)
 show aD2 _ _ (if(aN2 t==aI9)=true then _ else _) _ _ s
 rw[bO8 (show ¬ ((aN2 t==aI9)=true)from aP6)]
 show aD2 _ _ (field (.ref it) 1 >>= _) _ _ s
 refine aA2 (aU0 ho hd (x:=.int i 0) rfl ?_)
 show aD2 _ _ (seqItems? (.ref t) >>= _) _ _ s
 refine aA2 (aR2 hol hdl ?_)
 simp only[aH9,hx]
 refine aA2 (bD6 (aA2 (aL9 ho hd (by simp) ?_)))
 show aD2 _ _ (newExc (.type "StopIteration") [] >>= _) _ _ _
 refine aA2 ?_
 simp only[newExc,newTuple]
 refine aA2 (aH8 ?_ (by size_fits))
 refine aA2 (m:=aU2 _ _) (aT9 (a:=aI9) (by first | rfl | (simp only[aU2];rfl)) ?_)
 refine aH8 ?_ (by size_fits)
 simp only[raiseNew]
 refine aA2 (bJ1 ?_)
 first | rw[show A.in1.handled=none from hh] | rw[hh]
 refine aA2 (aA4 (bL5 ?_))
 refine aA2 (aV0 (T:="StopIteration") (b:=true) ⟨_,aC4 _ rfl,rfl⟩ bH6 ?_)
 refine aA4 (hQ _ (((aH5 ..).extBut.push _).push _) ?_)
 rw[aE3,aE3,aJ9]
 exists 1,0x18180aa00
theorem Kd{it t:aC1}{items:Array Value}(hne:t≠it) :∀(n i:Nat) (s:aA7) (Q:List Value->aA7->Prop),s.heap.IsTupleIter it t i->Hn s.heap t items->i+n<=items.size->
  (∀h',h'.IsTupleIter it t (i+n)->aF7 it s.heap h'->Q ((items.toList.drop i).take n) {s with heap:=h'})->aD2 (aD9 prog w) A (draw (.ref it) n) Q E s
 | 0,i,s,Q,hit,_,_,hQ=>by
  show aD2 _ _ (pure []) Q E s
  exact aA4 (by simpa using hQ s.heap hit (aF7.refl ..))
 | n+1,i,s,Q,hit,ht,hle,hQ=>by
  have hlt:i<items.size:=by exists 3,0x2012181a0a08,hle
  show aD2 _ _ (aT1 (.ref it) >>= _) Q E s
  refine aA2 (OK hit ht (x:=items[i]) (by simp[hlt]) λh₁ hit₁ hs₁=>?_)
  have ht₁:Hn h₁ t items:=let⟨o,n,e,r⟩:=ht;⟨o,n,(hs₁.2 t hne).trans e,r⟩
  refine aA2 (aJ8 (Kd hne n (i+1) _ _ hit₁ ht₁ (by exists 3,0x21180aa02181a0a08,hle) λh₂ hit₂ hs₂=>aA4 ?_))
  have hd:items.toList.drop i=items[i]::items.toList.drop (i+1):=by simp[aQ2,hlt]
  have:=hQ h₂ (by rw[show i+(n+1)=i+1+n by exists 2,0x1180aa181a0a2];exact hit₂) (hs₁.trans hs₂)
  rw[hd,List.take_succ_cons]at this
  exact this
def Lj{t:aC1}{items:Array Value}{Q:List Value->aA7->Prop}(hh:A.handled=none)(ht:Hn s.heap t items)
  (hn :∀{Q:Bool->aA7->Prop} {E},Q false s->aD2 (aD9 prog w) A (notIterableAtAll (.ref t)) Q E s)
  (hi :∀{Q:Value->aA7->Prop} {E},Q (.ref s.heap.objs.size) {s with heap:=s.heap.push {cls:=.type "tuple_iterator",data:=.fields #[.ref t,.int 0 0]}}->aD2 (aD9 prog w) A (aQ6 (.ref t)) Q E s)
  (hQ :∀h',(∀b o,s.heap.get? b=some o->h'.get? b=some o)->s.heap.objs.size<=h'.objs.size->Q items.toList {s with heap:=h'}):aD2 (aD9 prog w) A (bH7 (.ref t) items.size none) Q E s:=by
 have hlt:t≠s.heap.objs.size:=by obtain⟨o,n,ho,_⟩:=ht;exact aE5 (aI8 ho)
 unfold bH7
 refine aA2 (hn ?_)
 simp only[aI3,if_false]
 refine aA2 (aJ8 (hi ?_))
 have ht0:Hn (s.heap.push {cls:=.type "tuple_iterator",data:=.fields #[.ref t,.int 0 0]}) t items:=let⟨o,n,e,r⟩:=ht;⟨o,n,aB1 _ e,r⟩
 refine aA2 (aJ8 (Kd hlt items.size 0 _ _ ⟨_,aC4 _ rfl,rfl,rfl⟩ ht0 (by exists 1,0x8a0) λh₁ hit₁ hs₁=>?_))
 have hall:List.take items.size (bN5 0 items.toList)=items.toList:=by
  rw[bH8];exact aP2 (by simp)
 rw[hall]
 rw[bO8 (by simp)]
 have ht₁:Hn h₁ t items:=let⟨o,n,e,r⟩:=ht0;⟨o,n,(hs₁.2 t hlt).trans e,r⟩
 refine aA2 (aJ8 (Ri hh hit₁ ht₁ (by simp) λh₂ he₂ hsz=>?_))
 simp only[Option.isSome_none,aI3,if_false]
 refine aA4 (hQ h₂ (λb o e=>?_) ?_)
 ·have hb:b≠s.heap.objs.size:=aE5 (aI8 e)
  exact he₂ b o hb (hs₁.extBut b o hb (aB1 _ e))
 ·have:=hs₁.1
  rw[aE3]at this
  dsimp only at hsz this
  exists 3,0x120182a0281008,hsz,this
end
section
variable{prog:aG3}{w:aB9}{A:aH7}{E:Value->aA7->Prop}{s:aA7}{h₀:aF0}{C m:aC1}{us:List Value}{k:Nat×Option aC1}
def DI{id n:String}{B:aE0}{rest:List Value}{Q:Value->aA7->Prop}(hc:MatC h₀ C)(hm:s.heap.get? m=some (BW C us k))(hk :∀b o,h₀.get? b=some o->s.heap.get? b=some o)
  (plain:plainId id=true) (kind:bH9 id=some .slot) (split:splitId id=some ("tuple",n)) (entry:bB6 table id=some B) (args:aW7 id ⟨.ref m::rest,[]⟩)
  (h:aD2 (aD9 prog w) A.in1 (B ⟨.ref m::rest,[]⟩) (λfin s'=>∃v,fin = .done (.ret v)/\Q v s') E s):aD2 (aD9 prog w) A (call (.builtin id) (.ref m::rest)) Q E s:=by
 refine aR9 (aM4 plain entry (bM7 kind split (Sv hc hm hk) args (aP5 h (λfin s' h'=>?_) λ_ _ h'=>h')))
 obtain⟨v,rfl,hv⟩:=h';exact hv
def RO{Q:Value->aA7->Prop}(hc:MatC h₀ C)(hm:s.heap.get? m=some (BW C us k))(hk :∀b o,h₀.get? b=some o->s.heap.get? b=some o)
  (hQ:Q (.ref s.heap.objs.size) {s with heap:=s.heap.push {cls:=.type "tuple_iterator",data:=.fields #[.ref m,.int 0 0]}}):aD2 (aD9 prog w) A (aQ6 (.ref m)) Q E s:=by
 unfold aQ6
 refine aA2 (C4 hm hk (hc.iter _) ?_)
 show aD2 _ A (callSpecialIfBoundUnlessNone? (.ref m) "__iter__" _ >>= _) Q E s
 refine aA2 (MW hm hk (hc.iter _) aX5.bind (DI (n:="__iter__") hc hm hk aX5.plain (by decide +kernel) (by decide +kernel) PySem.F.entry_tuple_iter (PySem.F.args_tuple_iter_1 _) ?_))
 show aD2 _ _ (do ret (<-newFields "tuple_iterator" [.ref m,bA8 0])) _ _ s
 refine aA2 (aH8 (aA4 ⟨_,rfl,?_⟩))
 have hT:aA7.TypeIs {s with heap:=s.heap.push {cls:=.type "tuple_iterator",data:=.fields #[.ref m,.int 0 0]}} (.ref s.heap.objs.size) "tuple_iterator":=⟨_,aC4 _ rfl,rfl⟩
 exact aA2 (aW1 hT aK7.lookup (aA4 hQ))
end
def PO(a:AV)(k:Nat)(σ:St)(Q:List AV->St->Prop):Prop:=Ab (DR a) λp=>SK.rec (p.2.length=k/\Q p.2 σ) False (p.2.length=k/\Q p.2 σ) p.1
section
variable{X:Cx}{c:Ž}{a:AV}{va:Value}
def Vk{k:Nat}{Q:List AV->St->Prop}(hh:X.A.handled=none)(hc:MatC X.h₀ X.L.C)(h:PO a k c.σ Q)(R:ŵ X c)(ra:VR X c a va):ţ X (bH7 va k none) (A1 X (Ŧ X) c Q) c.s:=by
 refine AC h λp e h=>?_
 have q:=DH e ra
 obtain⟨kd,vs⟩:=p
 cases q with
 | mk l us hv hp _ hr=>
 subst hv
 obtain⟨n,hp⟩:=hp
 have fin :∀{k},vs.length=k/\Q vs c.σ->(∀{Q:Bool->aA7->Prop} {E},Q false c.s->aD2 (aD9 X.L.prog X.L.w) X.A (notIterableAtAll (.ref l)) Q E c.s)->
   (∀{Q:Value->aA7->Prop} {E},Q (.ref c.s.heap.objs.size) {c.s with heap:=c.s.heap.push {cls:=.type "tuple_iterator",data:=.fields #[.ref l,.int 0 0]}}->aD2 (aD9 X.L.prog X.L.w) X.A (aQ6 (.ref l)) Q E c.s)->ţ X (bH7 (.ref l) k none) (A1 X (Ŧ X) c Q) c.s:=λ{k} h hn hi=>
  h.1▸hr.len▸Lj hh ⟨_,_,hp,rfl⟩ hn hi λh' ľ k2=>.to (R.grow c.s.toks ľ k2) ((R.grow c.s.toks ľ k2).pre.va hr) h.2
 cases kd with
 | tup=>exact fin h (λq=>aA2 (aW1 (Ba (k:=n.1) hp).typeIs aX5.lookup (aA4 q))) λq=>wpAny_pyIter_tuple (Ba (k:=n.1) hp) q
 | lst=>exact h.elim
 | mat=>exact fin h (λq=>aA2 (C4 (us:=us) (k:=n) hp R.base (hc.iter _) (aA4 q))) λq=>RO (us:=us) (k:=n) hc hp R.base q
end
end Mine
end
section
open PySem PySem.W PyProof.Rows PySem.Spec PySem.Calls
namespace Mine
section
variable{prog:aG3}{w:aB9}{A:aH7}{E:Value->aA7->Prop}{s:aA7}
end
noncomputable def GZ(ks:List AB)(k:AB):List AB:=if k∈ks then ks else ks++[k]
section
variable{prog:aG3}{w:aB9}{A:aH7}{E:Value->aA7->Prop}{s:aA7}{a:aC1}{o:Obj}{es es':Array (Int×Value)}{ep:Nat}{t t':aI1}{S:AB->Bool}
def ś(prog:aG3)(w:aB9)(h:aF0)(a:aC1)(S:AB->Bool)(n:Nat):Prop:=h.SetOf (Af prog w) a S n/\Vz h a w
structure ò(prog:aG3)(w:aB9)(h:aF0)(a:aC1)(o:Obj)(S:AB->Bool)(es:Array (Int×Value))(ep:Nat)(t:aI1)(h':aF0):Prop where
 same:aF7 a h h'
 obj:h'.get? a=some {o with data:=.set es ep t}
 sg:ś prog w h' a S es.size
def L1{Q:Unit->aA7->Prop}(ho:s.heap.get? a=some o)(hex:o.ExactSet)(hd:o.data = .set es ep t)(hel:bO1 (Af prog w) es'.toList)(hm :∀k,S k=true↔∃e∈es'.toList,Aa k e.2=true)
  (hb:es'.size<scanBound) (hf:t'.fits es'.size=true) (ht:TA w t') (q :∀h',ò prog w s.heap a o S es' (ep+1) t' h'->Q () {s with heap:=h'}):aD2 (aD9 prog w) A (storeSet a es' t') Q E s:=
 have z:=SetOf_store (knd:=Af prog w) ho hex hd hel hm hb hf
 wpAny_storeSet_of ho hd (q _ ⟨.update ..,z.1,z.2,_,_,_,_,z.1,rfl,ht⟩) (fits_of_scanBound hb)
def KU{g:Bool->Sem Unit}(hg :∀(b:Bool) (s₁:aA7) (Q':Unit->aA7->Prop),Q' () s₁->aD2 (aD9 prog w) A (g b) Q' E s₁)(ho:s.heap.get? a=some o)(hex:o.ExactSet)(hd:o.data = .set es ep t)(hel:bO1 (Af prog w) es'.toList)(hm :∀k,S k=true↔∃e∈es'.toList,Aa k e.2=true)
  (hb:es'.size<scanBound) (hf:t'.fits es'.size=true) (ht:TA w t') {c:Bool} {R:Option Bool->aA7->Prop} (q :∀h',aF7 a s.heap h'->ś prog w h' a S es'.size->R (some true) {s with heap:=h'}) :
  aD2 (aD9 prog w) A (do
    storeSet a es' t'
    if c=true then do
      g (relayAll t' es' (aP7 es'.size)).2.2
      storeSet a (relayAll t' es' (aP7 es'.size)).1 (relayAll t' es' (aP7 es'.size)).2.1
      pure (some true)
     else pure (some true)) R E s:=by
 refine aA2 (L1 ho hex hd hel hm hb hf ht λh' z=>?_)
 cases c with
 | false=>exact aA4 (q h' z.same z.sg)
 | true=>
  have hp:=relayAll_perm t' es' (aP7 es'.size)
  have hz:(relayAll t' es' (aP7 es'.size)).1.size=es'.size:=by rw[<-aH4,hp.length_eq,aH4]
  have hfr:=relayAll_fits t' es' (aP7 es'.size)
  have htr:=KI ht es' (aP7 es'.size)
  generalize relayAll t' es' (aP7 es'.size)=R at hp hz hfr htr ⊢
  obtain⟨es2,t2,g2⟩:=R
  dsimp only at hp hz hfr htr ⊢
  refine aA2 (hg _ _ _ (aA2 ?_))
  have hm2 :∀k,S k=true↔∃e∈es2.toList,Aa k e.2=true:=λk=>(hm k).trans ⟨λ⟨e,he,q⟩=>⟨e,hp.mem_iff.mpr he,q⟩,λ⟨e,he,q⟩=>⟨e,hp.mem_iff.mp he,q⟩⟩
  refine L1 (s:={s with heap:=h'}) (o:={o with data:=.set es' (ep+1) t'}) (es:=es') (t:=t') (ep:=ep+1) (S:=S) z.obj hex rfl (bO1.perm hel hp) hm2 (hz▸hb) hfr htr λh'' y=>aA4 ?_
  have sg:=y.sg
  rw[hz]at sg
  exact q h'' (z.same.trans y.same) sg
def Y8{n:Nat}{k:AB}{x:Value}{Q:Bool->aA7->Prop}(hkey:Aa k x=true)(hsc:x.scannable=true)(h:ś prog w s.heap a S n)(hroom:n+1<scanBound)
  (q :∀b h',aF7 a s.heap h'->ś prog w h' a (λk'=>S k'||decide (k'=k)) (if S k then n else n+1)->Q b {s with heap:=h'}):aD2 (aD9 prog w) A (setAddHashed a x (keyHash w k)) Q E s:=by
 obtain⟨⟨o,es,ep,t,ho,hex,hd,hel,hm,hb,hf,rfl⟩,o',es₀,ep₀,t₀,ho',hd',ht⟩:=h
 cases ho.symm.trans ho'
 cases hd.symm.trans hd'
 unfold setAddHashed setAddHashedIn
 refine aJ8 (aA2 (wpAny_setState_of ho hd hf ?_))
 dsimp only
 rw[byScan_of hsc hb hel]
 simp only[↓reduceIte]
 unfold setAddByScan
 refine aA2 (aA2 (bD6 (aA2 (wpAny_setScan_of (knd:=Af prog w) hkey ho hd hf hel ?_))))
 cases hr:List.findIdx? (λe=>(Af prog w).is k e.2) es.toList with
 | some j=>
  obtain⟨hj,hpj,_⟩:=List.findIdx?_eq_some_iff_getElem.mp hr
  have hk:S k=true:=(hm k).mpr ⟨es.toList[j],bA9 hj,hpj⟩
  refine aA4 (aA4 ?_)
  have:=q false s.heap (aF7.refl a s.heap) ⟨⟨o,es,ep,t,ho,hex,hd,hel,λk'=>by
   rw[bG9,decide_eq_true_eq,<-hm k']
   exact⟨λz=>z.elim id λe=>e▸hk,.inl⟩,hb,hf,by rw[hk];rfl⟩,o,es,ep,t,ho,hd,ht⟩
  exact this
 | none=>
  have hk:S k=false:=by
   cases hk:S k with
   | false=>rfl
   | true=>
    obtain⟨e,he,hp⟩:=(hm k).mp hk
    exact aN7 (hp.symm.trans (List.findIdx?_eq_none_iff.mp hr e he))
  have hgw :∀(b:Bool) {s₁:aA7} {Q':Unit->aA7->Prop},Q' () s₁->aD2 (aD9 prog w) A (match b with | true=>rule "set.scan.the-table-gave-way" | false=>pure ()) Q' E s₁:=
   λb s₁ Q' hq=>by cases b<;>first | exact aA4 hq | exact bD6 hq
  dsimp only
  have hp:=layNew_perm t es (keyHash w k) x
  have hf':=layNew_fits t es (keyHash w k) x
  have ht':=MY ht es (keyHash w k) x
  change aD2 _ _ (match layNew t es (keyHash w k) x with | (es,t,wasDummy,gave)=>_) _ _ _
  generalize layNew t es (keyHash w k) x=l at hp hf' ht' ⊢
  obtain⟨es1,t1,c,gave⟩:=l
  dsimp only at hp hf' ht' ⊢
  rw[Array.toList_push]at hp
  have hz:es1.size=es.size+1:=by rw[<-aH4,hp.length_eq,aC3,aH4];rfl
  have fin :∀h',aF7 a s.heap h'->ś prog w h' a (λk'=>S k'||decide (k'=k)) es1.size->Q true {s with heap:=h'}:=λh' h1 h2=>by
   have:=q true h' h1
   rw[hk]at this
   rw[hz]at h2
   exact this h2
  refine aA2 (hgw _ ?_)
  split
  ·refine aA2 ?_
   rw[hashByValue_scannable 8 hsc]
   refine aA4 (KU (λb s₁ Q' hq=>hgw b hq) ho hex hd ((hel.push (knd:=Af prog w) hkey hsc).perm hp) (mem_push_iff (knd:=Af prog w) hkey hm hp) (hz▸hroom) ?_ ?_ λh' h1 h2=>aA4 (fin h' h1 h2))
   ·split
    ·exact hf'
    ·exact aI1.fits_plain_off hf'
   ·split
    ·exact ht'
    ·exact ht'
  ·exact aA2 (aA4 (KU (λb s₁ Q' hq=>hgw b hq) ho hex hd ((hel.push (knd:=Af prog w) hkey hsc).perm hp) (mem_push_iff (knd:=Af prog w) hkey hm hp) (hz▸hroom) hf' ht' λh' h1 h2=>aA4 (fin h' h1 h2)))
def Wr{L:CU}{h:aF0}{ks:List AB}{k:AB}(q:ś L.prog L.w h a (λk'=>decide (k'∈ks)||decide (k'=k)) (if decide (k∈ks)=true then ks.length else ks.length+1))(hn:ks.Nodup):L.set h a (GZ ks k):=by
 unfold GZ
 by_cases hk:k∈ks
 ·rw[bO7 hk]
  rw[bO7 (bP0 hk)]at q
  have e:(λk'=>decide (k'∈ks)||decide (k'=k))=λk'=>decide (k'∈ks):=funext λk'=>by
   by_cases z:k'=k
   ·subst z;rw[bP0 hk];rfl
   ·rw[bP1 z,Bool.or_false]
  rw[e]at q
  exact⟨q.1,hn,q.2⟩
 ·rw[bO8 hk]
  rw[bO8 (by rw[bP1 hk];exact aP6)]at q
  have e:(λk'=>decide (k'∈ks)||decide (k'=k))=λk'=>decide (k'∈ks++[k]):=funext λk'=>by
   rw[<-Bool.decide_or]
   exact decide_eq_decide.mpr ((or_congr_right aB6.symm).trans aC0.symm)
  rw[e]at q
  refine⟨?_,aK8.mpr ⟨hn,List.pairwise_singleton ..,λx hx y hy z=>hk (aB6.mp hy▸z▸hx)⟩,q.2⟩
  rw[aC3]
  exact q.1
def R1{k:AB}{x:Value}(h:Aa k x=true):x.scannable=true:=AB.casesOn (motive:=λk=>Aa k x=true->x.scannable=true) k (λi q=>(Au q).elim λt e=>e▸rfl) (λi q=>(Ay q).elim λt e=>e▸rfl) h
def RF{L:CU}{ks:List AB}{k:AB}{x:Value}{Q:Value->aA7->Prop}(hkey:Aa k x=true)(h:L.set s.heap a ks)(hroom:ks.length+1<scanBound)(q :∀h' t,aF7 a s.heap h'->L.set h' a (GZ ks k)->Q .none {s with heap:=h',toks:=t}) :
  aD2 (aD9 L.prog L.w) A (call (.builtin "set.add") [.ref a,x]) Q E s:=by
 refine aG7 F.slot_set_add h.1.typeIs F.entry_set_add ?_ (F.args_set_add_2 _ _)
 unfold aE0.«set.add» aE0.Frozenset.oneOther
 simp only[bF7,bind_assoc]
 unfold aE0.Frozenset.addrOf setAdd
 refine aA2 (aA4 ?_)
 try dsimp only
 refine aA2 (aA4 ?_)
 try dsimp only
 refine aA2 (aJ8 (aA2 ((Af L.prog L.w).pyHash (k:=k) hkey ?_)))
 refine Y8 (s:={s with toks:=s.toks+1}) (S:=λk'=>decide (k'∈ks)) hkey (R1 hkey) ⟨h.1,h.2.2⟩ hroom λb h' h1 h2=>?_
 exact aA4 ⟨_,rfl,q h' _ h1 (Wr h2 h.2.1)⟩
end
end Mine
end
section
open PySem PySem.W PyProof.Rows PySem.Spec PySem.Calls PySem.SeqAt
namespace Mine
def Ap(as:List AV)(k:AV->List AV->Prop):Prop:=aB5 False (λa r _=>k a r) as
def nil(as:List AV)(P:Prop):Prop:=aB5 P (λ_ _ _=>False) as
noncomputable def dset{β:Type}(es:List (AB×β))(k:AB)(v:β):List (AB×β):=
 if es.any (λkv=>kv.1=k)then es.map (λkv=>if kv.1=k then(kv.1,v)else kv)else es++[(k,v)]
section
variable{L:CU}{G:Ű}{h:aF0}{n:Nat}{es:List (AB×AV)}{kvs:List (AB×Value)}
def Ai.cases{M:List (AB×AV)->List (AB×Value)->Prop}(m0:M [] [])(m1 :∀k a v r u,A8 L G h n a v->M r u->M ((k,a)::r) ((k,v)::u)):Ai L G h n es kvs->M es kvs:=
 aB5 (motive:=λes=>∀kvs,Ai L G h n es kvs->M es kvs) (λkvs q=>(show kvs=[]from q)▸m0) (λa r ih kvs q=>by
  obtain⟨k,a⟩:=a
  obtain⟨v,u,rfl,q1,Ľ⟩:=q
  exact m1 k a v r u q1 (ih u Ľ)) es kvs
def Ai.cons{k:AB}{a:AV}{v:Value}{r:List (AB×AV)}{u:List (AB×Value)}(q:A8 L G h n a v)(q':Ai L G h n r u):Ai L G h n ((k,a)::r) ((k,v)::u):=⟨v,u,rfl,q,q'⟩
theorem Ai.dset(q:Ai L G h n es kvs)(k:AB){a:AV}{v:Value}(hv:A8 L G h n a v):Ai L G h n (dset es k a) (stored kvs k v):=by
 have e:es.any (λkv=>kv.1=k)=kvs.any (λkv=>kv.1=k):=Ai.cases (M:=λes kvs=>es.any (λkv=>kv.1=k)=kvs.any (λkv=>kv.1=k)) rfl (λk' _ _ _ _ _ ih=>bO6 (decide (k'=k) || ·) ih) q
 unfold Mine.dset stored
 rw[e]
 cases kvs.any (λkv=>kv.1=k)with
 | true=>
  refine Ai.cases (M:=λes kvs=>Ai L G h n (es.map λkv=>if kv.1=k then(kv.1,a)else kv) (kvs.map λkv=>if kv.1=k then(kv.1,v)else kv)) rfl (λk' b w r u hw ih=>?_) q
  rw[aM7,aM7]
  by_cases hk:k'=k
  ·rw[bO7 hk,bO7 hk];exact ih.cons hv
  ·rw[bO8 hk,bO8 hk];exact ih.cons hw
 | false=>exact Ai.cases (M:=λes kvs=>Ai L G h n (es++[(k,a)]) (kvs++[(k,v)])) (Ai.cons hv rfl) (λk' b w r u hw ih=>ih.cons hw) q
end
section
variable{X:Cx}{c:Ž}{a b d:AV}{va vb vd:Value}{Q:AV->St->Prop}
@[elab_as_elim] theorem AX{as:List AV}{k:AV->List AV->Prop}{P:List Value->Prop}{vas:List Value}(h:Ap as k)(q:Ŧ X c as vas)(f :∀a r v vr,VR X c a v->Ŧ X c r vr->k a r->P (v::vr)):P vas:=by
 cases as with
 | nil=>exact h.elim
 | cons a r=>
  obtain⟨v,u,rfl,q1,Ľ⟩:=q
  exact f a r v u q1 Ľ h
@[elab_as_elim] theorem BU{as:List AV}{K:Prop}{P:List Value->Prop}{vas:List Value}(h:nil as K)(q:Ŧ X c as vas)(f:K->P []):P vas:=by
 cases as with
 | nil=>rw[show vas=[]from q];exact f h
 | cons a r=>exact h.elim
def Kl(σ:St)(a:AV)(k:Nat->List AV->Prop):Prop:=Ab (CW σ a) λp=>Ab p.2.lst λvs=>AE vs.length/\k p.1 vs
def GT(σ:St)(a:AV)(k:Nat->List (AB×AV)->Prop):Prop:=Ab (CW σ a) λp=>Ab p.2.dct λvs=>AE vs.length/\k p.1 vs
@[elab_as_elim] theorem Gr{k:Nat->List AV->Prop}{P:Value->Prop}(h:Kl c.σ a k)(R:ŵ X c)(r:VR X c a va)(f :∀x vs us n,c.σ.H.lookup x=some (.list vs)->c.s.heap.get? (c.G.μ x)=some (Ad us n)->Ŧ X c vs us->us.length<=bB5->k x vs->P (.ref (c.G.μ x))):P va:=by
 refine AC h λp e1 h=>AC h λvs e2 h=>?_
 have q:=Ca e1 r
 rw[AO.lst_eq e2]at q
 rw[q.1]
 exact(R.obj _ _ q.2).rel.casesOn λus hp hr=>hp.elim λn hp=>f _ vs us n.1 q.2 hp hr (h.1.line hr.len) h.2
@[elab_as_elim] theorem F2{k:Nat->List (AB×AV)->Prop}{P:Value->Prop}(h:GT c.σ a k)(R:ŵ X c)(r:VR X c a va)(f :∀x es kvs,c.σ.H.lookup x=some (.dict es)->X.L.dct c.s.heap (c.G.μ x) kvs->VD X c es kvs->kvs.length<=bB5->k x es->P (.ref (c.G.μ x))):P va:=by
 refine AC h λp e1 h=>AC h λvs e2 h=>?_
 have q:=Ca e1 r
 rw[AO.dct_eq e2]at q
 rw[q.1]
 exact(R.obj _ _ q.2).rel.casesOn λus hp hr=>f _ vs us q.2 hp hr (h.1.line (Ai.len hr)) h.2
def ŵ.setList(R:ŵ X c){x:Nat}{vs vs':List AV}{us:List Value}{h':aF0}{n:Nat}(t:Nat)(hx:c.σ.H.lookup x=some (.list vs))(hs:aF7 (c.G.μ x) c.s.heap h')(hl:h'.get? (c.G.μ x)=some (Ad us n))(r:Ŧ X c vs' us):Cb X c (c.hp (c.σ.set x (.list vs')) h' t):=
 R.setObj hx hs λp=>⟨us,⟨(n,none),hl⟩,p.va r⟩
def ŵ.setDict(R:ŵ X c){x:Nat}{vs vs':List (AB×AV)}{us:List (AB×Value)}{h':aF0}(t:Nat)(hx:c.σ.H.lookup x=some (.dict vs))(hs:aF7 (c.G.μ x) c.s.heap h')(hl:X.L.dct h' (c.G.μ x) us)(r:VD X c vs' us):Cb X c (c.hp (c.σ.set x (.dict vs')) h' t):=
 R.setObj hx hs λp=>⟨us,hl,p.vd r⟩
def eC(a b d:AV)(σ:St)(Q:St->Prop):Prop:=Ab (CW σ a) λp=>AO.rec (λ_=>False) (λes=>AE es.length/\Ab (BL b) λk=>Q (σ.set p.1 (.dict (dset es k d)))) (λ_=>False) (λ_ _=>False) (λ_=>False) p.2
def d9{Q:St->Prop}(h:eC a b d c.σ Q)(R:ŵ X c)(ra:VR X c a va)(rb:VR X c b vb)(rd:VR X c d vd):FZ X c Q (setItem va vb vd):=
 AC h λp e h=>by
  obtain⟨x,o⟩:=p
  cases o with
  | list vs=>exact h.elim
  | dict es=>
   have h':GT c.σ a λx es=>Ab (BL b) λk=>Q (c.σ.set x (.dict (dset es k d))):=by
    unfold GT;rw[e];exact h
   exact F2 h' R ra λx es kvs hx p1 p2 hz h=>AC h λk e h=>wpAny_setItem_pairs (BS e rb) p1.1 (λh' hd hs=>.to (b:=()) (R.setDict _ hx hs ⟨hd,p1.2⟩ (p2.dset k rd)) trivial h) hz
  | set ks=>exact h.elim
  | inst C at_=>exact h.elim
  | tab b=>exact h.elim
def Fq{prog:aG3}{w:aB9}{A:aH7}{s:aA7}{a:aC1}{k:AB}{key:Value}{S:AB->Bool}{n:Nat}{E:Value->aA7->Prop}{Q:Value->aA7->Prop}(hkey:Aa k key=true)(hS:s.heap.SetOf (Af prog w) a S n)
  (h:Q (.bool (S k)) {s with toks:=s.toks+1}):aD2 (aD9 prog w) A (aE0.«frozenset.__contains__» ⟨[.ref a,key],[]⟩) (λfin s'=>∃v,fin = .done (.ret v)/\Q v s') E s:=by
 unfold aE0.«frozenset.__contains__» aE0.Frozenset.oneOther
 simp only[bF7,bind_assoc]
 unfold aE0.Frozenset.addrOf aE0.Frozenset.withSetAsKey setContains
 refine aA2 (aA4 ?_)
 try dsimp only
 refine aA2 (aA4 ?_)
 try dsimp only
 refine aA2 (bH5 ?_)
 refine aJ8 ?_
 have sc:key.scannable=true:=AB.casesOn (motive:=λk=>Aa k key=true->key.scannable=true) k (λi q=>(Au q).elim λt e=>e▸rfl) (λi q=>(Ay q).elim λt e=>e▸rfl) hkey
 refine aA2 ((Af prog w).pyHash (k:=k) hkey ?_)
 refine aA2 (wpAny_setFind_of (knd:=Af prog w) (k:=k) (s:={s with toks:=s.toks+1}) hkey sc hS λr hr=>?_)
 refine aA4 ?_
 show aD2 _ _ (ret (Value.bool r.isSome)) _ _ _
 rw[hr]
 exact aA4 ⟨_,rfl,h⟩
def BO(b:Bi)(as:List AV)(σ:St)(Q:AV->St->Prop):Prop:=Ap as λa as=>match b with
 | .append=>Ap as λv as=>nil as (Kl σ a λx vs=>Q .none (σ.set x (.list (vs++[v]))))
 | .pop=>nil as (Kl σ a λx vs=>∃v,vs.getLast?=some v/\Q v (σ.set x (.list vs.dropLast)))
 | .get=>Ap as λk as=>Ap as λd as=>nil as (Ab (E5 σ a) λes=>Ab (BL k) λk=>Q ((es.lookup k).getD d) σ)
 | .setdefault=>Ap as λk as=>Ap as λd as=>nil as (GT σ a λx es=>Ab (BL k) λk=>(∀u,es.lookup k=some u->Q u σ)/\(es.lookup k=none->Q d (σ.set x (.dict (dset es k d)))))
 | .len=>nil as (aD5 (Ab (BK σ a) λvs=>AE vs.length/\Q (.int vs.length) σ) (λx=>x.length<1000000/\Q (.int x.length) σ) (HP a))
 | .has=>Ap as λk as=>nil as (Ab (IR σ a) λks=>Ab (BL k) λk=>Q (.bool (decide (k∈ks))) σ)
 | .extend=>False
 | .divmod=>False
 | .index=>Ap as λk as=>nil as (Ab (BK σ a) λvs=>Ab (BQ vs) λks=>Ab (BL k) λk=>(k∈ks/\AE ks.length)/\Q (.int (ks.idxOf k)) σ)
 | .add=>Ap as λk as=>nil as (Ab (CW σ a) λp=>Ab p.2.fs λks=>Ab (BL k) λk=>ks.length+1<scanBound/\Q .none (σ.set p.1 (.set (GZ ks k))))
 | _=>False
def Jp(us:List Value)(h:us.length≠0):us.toArray.eraseIdxIfInBounds (us.toArray.size-1)=us.dropLast.toArray:=by
 have hsz:us.length-1<us.length:=bM8 (aI6 h) aR5
 simp[Array.eraseIdxIfInBounds,hsz,List.dropLast_eq_take,List.eraseIdx_eq_take_drop_succ]
 exists 1,0x18180ba00
theorem A2.dropLast{L:CU}{G:Ű}{h:aF0}{n:Nat}{as:List AV}{vs:List Value}(q:A2 L G h n as vs):A2 L G h n as.dropLast vs.dropLast:=by
 refine aB5 (motive:=λas=>∀vs,A2 L G h n as vs->A2 L G h n as.dropLast vs.dropLast) (λvs q=>(show vs=[]from q)▸rfl) (λa r ih vs q=>?_) as vs q
 obtain⟨v,u,rfl,q1,Ľ⟩:=q
 cases r with
 | nil=>rw[show u=[]from Ľ];exact rfl
 | cons b r=>
  obtain⟨v',u',rfl,q3⟩:=Ľ
  exact⟨v,_,rfl,q1,ih (v'::u') ⟨v',u',rfl,q3⟩⟩
def eP(h:Kl c.σ a λx vs=>∃v,vs.getLast?=some v/\Q v (c.σ.set x (.list vs.dropLast)))(R:ŵ X c)(ra:VR X c a va):ŝ X c Q (call (.builtin "list.pop") [va] []):=by
 refine Gr h R ra λx vs us n hx p1 p2 hz ⟨v,hv,h⟩=>?_
 rw[aV4]at hv
 obtain⟨u,g1,g2⟩:=p2.get hv
 rw[<-A2.len p2]at g1
 have h0:us.length≠0:=λz=>by rw[aF5 z]at g1;exact AA g1
 refine bJ6 PySem.F.slot_list_pop ⟨_,p1,rfl⟩ PySem.F.entry_list_pop (PySem.F.args_list_pop_1 _) (PySem.MeetsSeq.list_pop_last (c.G.μ x) us.toArray n u (aF1.trans g1) hz) ⟨p1,?_⟩
 have hs:aF7 (c.G.μ x) c.s.heap (c.s.heap.update (c.G.μ x) (aK4 λxs=>xs.eraseIdxIfInBounds (us.toArray.size-1))):=aH5 ..
 have hl:=IsL.update (n:=n) (h:=c.s.heap) (l:=c.G.μ x) (items:=us.toArray) p1 (λxs=>xs.eraseIdxIfInBounds (us.toArray.size-1))
 rw[Jp us h0]at hl
 have x:=R.setList c.s.toks hx hs hl p2.dropLast
 exact .to x (x.pre.v g2) h
def JH{vs:List AV} :∀{ks:List AB} {us:List Value},BQ vs=some ks->Ŧ X c vs us->us.length=ks.length/\∀(i:Nat) (k:AB) (v:Value),ks[i]?=some k->us[i]?=some v->Aa k v=true:=by
 refine aB5 (motive:=λvs=>∀{ks:List AB} {us:List Value},BQ vs=some ks->Ŧ X c vs us->us.length=ks.length/\∀(i:Nat) (k:AB) (v:Value),ks[i]?=some k->us[i]?=some v->Aa k v=true) (λ{ks us} e q=>?_) (λa r ih ks us e q=>?_) vs
 ·rw[show us=[]from q];cases e;exact⟨rfl,λi k v=>AA⟩
 ·obtain⟨x,e1,e⟩:=AF e
  obtain⟨ys,e2,rfl⟩:=map_some e
  obtain⟨v,u,rfl,q1,Ľ⟩:=q
  have z:=ih e2 Ľ
  refine⟨bO6 aQ9 z.1,λi=>?_⟩
  cases i with
  | zero=>exact λk w a b=>aA1 a▸aA1 b▸FB e1 q1
  | succ i=>exact z.2 i
def Nb{k k':AB}{v:Value}(h:Aa k' v=true):Aa k v=decide (k'=k):=by
 cases e:Aa k v with
 | true=>exact(bP0 (D9 h e)).symm
 | false=>exact(bP1 λz:k'=k=>aN7 (e.symm.trans (z▸h))).symm
def GE{A:aH7}{s:aA7}{k:AB}{key:Value}{ks:List AB}{us:List Value}(q:us.length=ks.length/\∀(i:Nat) (k:AB) (v:Value),ks[i]?=some k->us[i]?=some v->Aa k v=true)(hk:Aa k key=true) :∀y,y∈us.toArray->aX9 A s y key (Aa k y):=λy hy prog w E Q hQ=>by
 obtain⟨i,hi⟩:=aJ4 (List.mem_toArray.mp hy)
 have hlt:=(aA5.mp hi).1
 have hki:=aA6 (q.1▸hlt:i<ks.length)
 have h:=q.2 i _ y hki hi
 exact M5 prog w h hk (Nb h▸hQ)
def TU{l:aC1}{us:List Value}{n:Nat}{k:AB}{key:Value}{ks:List AB}{P:Value->aA7->Prop}(hm:k∈ks)(hz:AE ks.length)(hp:c.s.heap.get? l=some (Ad us n))(q:us.length=ks.length/\∀(i:Nat) (k:AB) (v:Value),ks[i]?=some k->us[i]?=some v->Aa k v=true)
  (hk:Aa k key=true) (h:P (.int (ks.idxOf k) c.s.toks) {c.s with toks:=c.s.toks+1}):ţ X (call (.builtin "list.index") [.ref l,key] []) P c.s:=by
 have hj:ks.idxOf k<ks.length:=List.idxOf_lt_length_iff.mpr hm
 have at_ :∀{i:Nat} (hi:i<us.toArray.size),Aa k us.toArray[i]=decide (ks[i]'(q.1▸hi)=k):=λ{i} hi=>Nb (q.2 i _ _ (aA6 _) (aA6 hi))
 refine bJ6 PySem.F.slot_list_index ⟨_,hp,rfl⟩ PySem.F.entry_list_index (PySem.F.args_list_index_2 _ _)
  (PySem.SeqAt.list_indexAt l us.toArray n none #[] key (Aa k) (ks.idxOf k) (q.1.symm▸hj:ks.idxOf k<us.length) (aW8 (aD4.mpr (aB3 hj hz)) (by decide)) ?_ λm hm' hlt=>?_) ⟨hp,GE q hk,h⟩
 ·rw[at_];exact bP0 (List.getElem_idxOf hj)
 ·rw[at_];exact bP1 λz=>aN7 ((List.not_of_lt_findIdx (p:=(· == k)) hlt).symm.trans (beq_iff_eq.mpr z))
def MI{b:Bi}{as:List AV}(h:BO b as c.σ Q){vas:List Value}(R:ŵ X c)(ra:Ŧ X c as vas):ŝ X c Q (call b.val vas []):=
 AX h ra λa as v vas r ra h=>Bi.casesOn (motive:=λb=>BO b (a::as) c.σ Q->ŝ X c Q (call b.val (v::vas) [])) b
  (λh=>BU h ra λh=>BM h (λh=>AC h λvs e h=>Aw e R r λl us k p1 p2=>call_len_list (AP p1) (fits (aA3 (aB7 p2.len) h.1)) (.int _ R (Eq.mpr (bO6 (λn:Nat=>Q (.int n) c.σ) (show us.toArray.size=vs.length from p2.len)) h.2)))
   λx e h=>EP (P:=λv=>ŝ X c Q (call (.builtin "len") [v] [])) e r λt=>len_str (bM6.mpr (bC9 (aD4.mpr h.1) (by decide))) (.to (b:=AV.int _) (R.toks _) (bP3 _) h.2))
  aA8 aA8 aA8 aA8
  (λh=>AX h ra λd as vd vas rd ra h=>BU h ra λh=>Gr h R r λx vs us n hx p1 p2 hz h=>wpAny_list_append_plain ⟨n,p1⟩ (λh' hl hs=>hl.elim λk hl=>.to (b:=AV.none) (R.setList _ hx hs (hl.trans (bO6 (λz=>some ({cls:=.type "list",data:=.seq z k}:Obj)) (List.push_toArray us vd))) (A2.append (bs:=[d]) (us:=[vd]) p2 ⟨vd,[],rfl,rd,rfl⟩)) rfl h) hz)
  (λh=>BU h ra λh=>eP h R r)
  aA8
  (λh=>AX h ra λk as vk vas rk ra h=>AX h ra λd as vd vas rd ra h=>BU h ra λh=>AC h λes e1 h=>AC h λk e2 h=>DA e1 R r λl kvs p1 p2=>
   bG5 aZ8 p1.1.typeIs PySem.F.entry_dict_get (PySem.F.args_dict_get_3 _ _ _) (meets_dict_get_default (Af X.L.prog X.L.w) (k:=k) l (BS e2 rk) p1.2 vd) ⟨_,p1.1.mapOf,p2.look k (P:=λx y=>Q (x.getD d) c.σ->A1 X (VR X) c Q (y.getD vd) _) (.val _ R rd) (λa v r=>.val _ R r) h⟩)
  (λh=>AX h ra λk as vk vas rk ra h=>AX h ra λd as vd vas rd ra h=>BU h ra λh=>F2 h R r λx es kvs hx p1 p2 hz h=>AC h λk e2 h=>
   bG5 PySem.F.slot_dict_setdefault p1.1.typeIs PySem.F.entry_dict_setdefault (PySem.F.args_dict_setdefault_3 _ _ _) (kt_meets_setdefault (Af X.L.prog X.L.w) (k:=k) (c.G.μ x) (BS e2 rk) p1.2 vd) ⟨kvs,p1.1,hz,
    λv hv=>p2.look k (P:=λx y=>(∀u,x=some u->Q u c.σ)->y=some v->A1 X (VR X) c Q v _) (λ_=>AA) (λa u r f e=>.val _ R (aA1 e▸r) (f a rfl)) h.1 hv,
    λhn h' hd hs=>p2.look k (P:=λx y=>(x=none->Q d (c.σ.set _ (.dict (dset es k d))))->y=none->A1 X (VR X) c Q vd _) (λf _=>.to (R.setDict _ hx hs ⟨hd,p1.2⟩ (p2.dset k rd)) ((R.setDict _ hx hs ⟨hd,p1.2⟩ (p2.dset k rd)).pre.v rd) (f rfl)) (λa u r f e=>AA e.symm) h.2 hn⟩)
  (λh=>AX h ra λk as vk vas rk ra h=>BU h ra λh=>AC h λks e1 h=>AC h λk e2 h=>FV e1 R r λl p1=>
   aG7 PySem.F.slot_set_contains p1.1.typeIs entry_set_contains (Fq (BS e2 rk) p1.1 (.to (b:=AV.bool (decide (k∈ks))) (R.toks _) rfl h)) (PySem.F.args_set_contains_2 _ _))
  aA8 aA8 aA8 aA8
  aA8
  aA8
  aA8 aA8
  (λh=>AX h ra λk as vk vas rk ra h=>BU h ra λh=>AC h λvs e h=>AC h λks e1 h=>AC h λk e2 h=>Aw e R r λl us n p1 p2=>TU h.1.1 h.1.2 p1 (JH e1 p2) (BS e2 rk) (.to (b:=AV.int _) (R.toks _) (bP3 _) h.2)) aA8
  (λh=>AX h ra λk as vk vas rk ra h=>BU h ra λh=>AC h λp e h=>AC h λks e1 h=>AC h λk e2 h=>by
   obtain⟨q1,Ľ⟩:=Ca e r
   subst q1
   rw[AO.fs_eq e1]at Ľ
   exact RF (L:=X.L) (BS e2 rk) (R.obj _ _ Ľ).rel h.1 λh' t hs hl=>.to (c':=c.hp (c.σ.set p.1 (.set (GZ ks k))) h' t) (b:=AV.none) (R.setObj Ľ hs λ_=>hl) rfl h.2) h
end
namespace Bm
def slot_get:bO5 "method_descriptor" "__get__" "method_descriptor.__get__":=
 bO2 (owner:="method_descriptor") (n:="__get__") (by rw[aH0,aE9];rfl') (by decide +kernel) (by decide +kernel) (by decide +kernel) (.inl (by decide +kernel)) (by rw[aL2];rfl')
def entry_get:bB6 table "method_descriptor.__get__" = some aE0.«method_descriptor.__get__»:=aV1 (by rfl')
def args_get(a b c:Value):aW7 "method_descriptor.__get__" ⟨[a,b,c],[]⟩:=by unfold aW7;rfl'
def no_set:aI2 (.type "method_descriptor") "__set__" = pure none:=by rw[aH0,aE9];rfl'
def no_del:aI2 (.type "method_descriptor") "__delete__" = pure none:=by rw[aH0,aE9];rfl'
def ty_dict_get:typeOf (.builtin "dict.get")=pure (.type "method_descriptor"):=by rfl'
def ty_set_contains:typeOf (.builtin "set.__contains__")=pure (.type "method_descriptor"):=by rfl'
def lk_dict_get:aI2 (.type "dict") "get" = pure (some (.builtin "dict.get")):=by rw[aH0,aE9];rfl'
def lk_set_contains:aI2 (.type "set") "__contains__" = pure (some (.builtin "set.__contains__")):=by rw[aH0,aE9];rfl'
def owner_dict_get:(".".intercalate ("dict.get".cutAt '.').dropLast) = "dict":=by decide +kernel
def owner_set_contains:(".".intercalate ("set.__contains__".cutAt '.').dropLast) = "set":=by decide +kernel
def sub_dict_get:aR1 (.type "dict") (.type (".".intercalate ("dict.get".cutAt '.').dropLast))=pure true:=by rw[owner_dict_get,aL2];rfl'
def sub_set_contains:aR1 (.type "set") (.type (".".intercalate ("set.__contains__".cutAt '.').dropLast))=pure true:=by rw[owner_set_contains,aL2];rfl'
def told_dict_get:Manifest.toldItsClass.contains "dict.get" = false:=by decide +kernel
def told_set_contains:Manifest.toldItsClass.contains "set.__contains__" = false:=by decide +kernel
end Bm
section
variable{prog:aG3}{w:aB9}{A:aH7}{E:Value->aA7->Prop}{h:aF0}{g:Array bK2}{d:Drawn}{t:Nat}{os:aS0}{a:aC1}{o:Obj}
def Je{R:bD7->aA7->Prop}(hx:h.get? a=some o)(hc:o.cls = .type "dict")(hq:R (.ok (.ret (.ref h.objs.size))) ⟨h.push (Cq (.builtin "dict.get") (.ref a)),g,d,t,os⟩) :
  aM9 (aD9 prog w) A (.call (.builtin "method_descriptor.__get__") ⟨[.builtin "dict.get",.ref a,.type "dict"],[]⟩) R ⟨h,g,d,t,os⟩:=by
 have hT:(⟨h,g,d,t,os⟩:aA7).TypeIs (.ref a) "dict":=⟨_,hx,hc⟩
 have hT5:(⟨h,g,d,t,os⟩:aA7).TypeIs (.builtin "dict.get") "method_descriptor":=Bm.ty_dict_get
 have f8:=Bm.sub_dict_get
 refine aM4 Bm.slot_get.plain Bm.entry_get (Bm.slot_get.check _ _ _ _ _ _ _ _ hT5 (Bm.args_get _ _ _) ?_)
 repeat (any_goals (first | assumption | wp_step))
def HK{es:Array aO6}{k:Nat}{sl:Array (Option Value)}{tk:Tok}{Q:Fin->aA7->Prop}(hx:h.get? a=some {cls:=.type "dict",dict:=none,data:=.dict es k,slots:=sl})(hq:Q (.done (.ret (.ref h.objs.size))) ⟨h.push (Cq (.builtin "dict.get") (.ref a)),g,d,t,os⟩) :
  aD2 (aD9 prog w) A (aE0.«object.__getattribute__» ⟨[.ref a,.str "get" tk],[]⟩) Q E ⟨h,g,d,t,os⟩:=by
 have hT:(⟨h,g,d,t,os⟩:aA7).TypeIs (.ref a) "dict":=⟨_,hx,rfl⟩
 have f4:=Bm.lk_dict_get
 have f5:=Bm.ty_dict_get
 have f6:=Bm.slot_get.lookup
 have f7:=Bm.no_set
 have f8:=Bm.no_del
 repeat (any_goals (first | assumption | wp_step))
 refine Je hx rfl ?_
 repeat (any_goals (first | assumption | wp_step))
def IO{es:Array aO6}{k:Nat}{sl:Array (Option Value)}{Q:Value->aA7->Prop}(hx:h.get? a=some {cls:=.type "dict",dict:=none,data:=.dict es k,slots:=sl})(hq:Q (.ref h.objs.size) ⟨h.push (Cq (.builtin "dict.get") (.ref a)),g,d,t+1,os⟩) :
  aD2 (aD9 prog w) A (aY7 (.ref a) "get" true) Q E ⟨h,g,d,t,os⟩:=by
 have hT :∀tk',(⟨h,g,d,tk',os⟩:aA7).TypeIs (.ref a) "dict":=λ_=>⟨_,hx,rfl⟩
 have hT':(⟨h,g,d,t,os⟩:aA7).TypeIs (.ref a) "dict":=⟨_,hx,rfl⟩
 have f2:=aN8.lookup
 have f3:=aN8.bind (.ref a)
 unfold aY7 getAttrBy
 repeat (any_goals (first | assumption | exact hT _ | wp_step))
 refine aM4 aN8.plain PySem.F.entry_dict_ga (aN8.check _ _ _ _ _ _ _ _ (hT _) (PySem.F.args_dict_getattribute_2 _ _) (HK hx ?_))
 repeat (any_goals (first | assumption | wp_step))
def Rz{R:bD7->aA7->Prop}(hx:h.get? a=some o)(hc:o.cls = .type "set")(hq:R (.ok (.ret (.ref h.objs.size))) ⟨h.push (Cq (.builtin "set.__contains__") (.ref a)),g,d,t,os⟩) :
  aM9 (aD9 prog w) A (.call (.builtin "method_descriptor.__get__") ⟨[.builtin "set.__contains__",.ref a,.type "set"],[]⟩) R ⟨h,g,d,t,os⟩:=by
 have hT:(⟨h,g,d,t,os⟩:aA7).TypeIs (.ref a) "set":=⟨_,hx,hc⟩
 have hT5:(⟨h,g,d,t,os⟩:aA7).TypeIs (.builtin "set.__contains__") "method_descriptor":=Bm.ty_set_contains
 have f8:=Bm.sub_set_contains
 refine aM4 Bm.slot_get.plain Bm.entry_get (Bm.slot_get.check _ _ _ _ _ _ _ _ hT5 (Bm.args_get _ _ _) ?_)
 repeat (any_goals (first | assumption | wp_step))
def MQ{es:Array (Int×Value)}{k:Nat}{tb:aI1}{sl:Array (Option Value)}{tk:Tok}{Q:Fin->aA7->Prop}(hx:h.get? a=some {cls:=.type "set",dict:=none,data:=.set es k tb,slots:=sl})(hq:Q (.done (.ret (.ref h.objs.size))) ⟨h.push (Cq (.builtin "set.__contains__") (.ref a)),g,d,t,os⟩) :
  aD2 (aD9 prog w) A (aE0.«object.__getattribute__» ⟨[.ref a,.str "__contains__" tk],[]⟩) Q E ⟨h,g,d,t,os⟩:=by
 have hT:(⟨h,g,d,t,os⟩:aA7).TypeIs (.ref a) "set":=⟨_,hx,rfl⟩
 have f4:=Bm.lk_set_contains
 have f5:=Bm.ty_set_contains
 have f6:=Bm.slot_get.lookup
 have f7:=Bm.no_set
 have f8:=Bm.no_del
 repeat (any_goals (first | assumption | wp_step))
 refine Rz hx rfl ?_
 repeat (any_goals (first | assumption | wp_step))
def P4{es:Array (Int×Value)}{k:Nat}{tb:aI1}{sl:Array (Option Value)}{Q:Value->aA7->Prop}(hx:h.get? a=some {cls:=.type "set",dict:=none,data:=.set es k tb,slots:=sl})(hq:Q (.ref h.objs.size) ⟨h.push (Cq (.builtin "set.__contains__") (.ref a)),g,d,t+1,os⟩) :
  aD2 (aD9 prog w) A (aY7 (.ref a) "__contains__" true) Q E ⟨h,g,d,t,os⟩:=by
 have hT :∀tk',(⟨h,g,d,tk',os⟩:aA7).TypeIs (.ref a) "set":=λ_=>⟨_,hx,rfl⟩
 have hT':(⟨h,g,d,t,os⟩:aA7).TypeIs (.ref a) "set":=⟨_,hx,rfl⟩
 have f2:=aO5.lookup
 have f3:=aO5.bind (.ref a)
 unfold aY7 getAttrBy
 repeat (any_goals (first | assumption | exact hT _ | wp_step))
 refine aM4 aO5.plain PySem.F.entry_set_ga (aO5.check _ _ _ _ _ _ _ _ (hT _) (PySem.F.args_set_getattribute_2 _ _) (MQ hx ?_))
 repeat (any_goals (first | assumption | wp_step))
end
section
variable{prog:aG3}{w:aB9}{A:aH7}{E:Value->aA7->Prop}{s:aA7}
def My{b a:aC1}{id T:String}{B:aE0}{rest:List Value}{S:aL7}{Q:Value->aA7->Prop}
  (hb:s.heap.get? b=some (Cq (.builtin id) (.ref a))) (hT:s.TypeIs (.ref a) T)
  (plain:plainId id=true) (entry:bB6 table id=some B) (hck :∀{Q:Unit->aA7->Prop} {E:Value->aA7->Prop},Q () s->aD2 (aD9 prog w) A.in1 (aU3 id ⟨.ref a::rest,[]⟩) Q E s)
  (g:MeetsIn prog w (B ⟨.ref a::rest,[]⟩) S) (h:S A (wants Q E) s):aD2 (aD9 prog w) A (call (.ref b) rest) Q E s:=by
 refine aR9 (bH0 ?_)
 show aD2 (aD9 prog w) A.in1 (callAny (.ref b) ⟨rest,[]⟩) _ _ s
 unfold callAny
 refine aA2 (aQ7 hb ?_)
 show aD2 _ A.in1 (do aU3 id ⟨.ref a::rest,[]⟩;return<-again (.builtin id ⟨.ref a::rest,[]⟩)) _ _ s
 refine aA2 (hck ?_)
 refine aA2 (aA4 (aA4 ⟨bB2 plain _,aS5 entry ?_⟩))
 rw[aO4 plain]
 exact g A (wants Q E) s h
def KG:Manifest.signature? "dict.get" = some ⟨.positional,"dict.get","get",.self,[⟨"key",.posOnly,true⟩,⟨"default",.posOnly,false⟩]⟩:=by
 rw[bE7 (id:="dict.get") (n:=['t','e','g']) (o:=['t','c','i','d']) (by rfl') PySem.F.owner_dict];rfl'
def Hi{a:aC1}{x y:Value}{es:Array aO6}{k:Nat}{sl:Array (Option Value)}{Q:Unit->aA7->Prop}(hx:s.heap.get? a=some {cls:=.type "dict",dict:=none,data:=.dict es k,slots:=sl})(h:Q () s) :
  aD2 (aD9 prog w) A (aU3 "dict.get" ⟨[.ref a,x,y],[]⟩) Q E s:=by
 have hT:s.TypeIs (.ref a) "dict":=⟨_,hx,rfl⟩
 have f1:aR1 (.type "dict") (.type "module")=pure false:=by rw[aL2];rfl'
 unfold aU3
 rw[KG,show bH9 "dict.get" = some .method by decide +kernel]
 dsimp only
 refine aA2 (aV0 hT f1 ?_)
 rw[show Manifest.varargsMethods.contains "dict.get" = false by decide +kernel]
 refine aA2 (m:=isType (.ref a)) ?_
 refine aA2 (aY6 hx (aA4 ?_))
 refine aA2 (bK3 hT ?_)
 refine aT9 (a:=()) ?_ h
 rfl'
def GI:Manifest.signature? "set.__contains__" = some ⟨.oneArg,"set.__contains__","__contains__",.self,[⟨"object",.posOnly,true⟩]⟩:=by
 rw[bE7 (id:="set.__contains__") (n:=['_','_','s','n','i','a','t','n','o','c','_','_']) (o:=['t','e','s']) (by rfl') PySem.F.owner_set];rfl'
def FM{a:aC1}{x:Value}{es:Array (Int×Value)}{k:Nat}{tb:aI1}{sl:Array (Option Value)}{Q:Unit->aA7->Prop}(hx:s.heap.get? a=some {cls:=.type "set",dict:=none,data:=.set es k tb,slots:=sl})(h:Q () s) :
  aD2 (aD9 prog w) A (aU3 "set.__contains__" ⟨[.ref a,x],[]⟩) Q E s:=by
 have hT:s.TypeIs (.ref a) "set":=⟨_,hx,rfl⟩
 have f1:aR1 (.type "set") (.type "module")=pure false:=by rw[aL2];rfl'
 unfold aU3
 rw[GI,show bH9 "set.__contains__" = some .method by decide +kernel]
 dsimp only
 refine aA2 (aV0 hT f1 ?_)
 rw[show Manifest.varargsMethods.contains "set.__contains__" = false by decide +kernel]
 refine aA2 (m:=isType (.ref a)) ?_
 refine aA2 (aY6 hx (aA4 ?_))
 refine aA2 (bK3 hT ?_)
 refine aT9 (a:=()) ?_ h
 rfl'
end
def Ro{o:Obj}{c:Value}{d:Option aC1}{dt:Data}{sl:Array (Option Value)}(h1:o.cls=c)(h2:o.dict=d)(ō:o.slots=sl)(h3:o.data=dt):some o=some ⟨c,d,dt,sl⟩:=by
 subst h1;subst h2;subst h3;subst ō;rfl
def Fn{prog:aG3}{w:aB9}{s:aA7}{a:aC1}{kvs:List (AB×Value)}(h:s.heap.DictOf (Af prog w) a kvs) :∃es k,s.heap.get? a=some {cls:=.type "dict",dict:=none,data:=.dict es k,slots:=#[]}:=
 h.elim λo h=>h.imp λes h=>h.imp λep h=>h.1.trans (Ro h.2.1.1 h.2.1.2.1 h.2.1.2.2 h.2.2.1)
def N4{prog:aG3}{w:aB9}{s:aA7}{a:aC1}{S:AB->Bool}{n:Nat}(h:s.heap.SetOf (Af prog w) a S n) :∃es k tb,s.heap.get? a=some {cls:=.type "set",dict:=none,data:=.set es k tb,slots:=#[]}:=
 h.elim λo h=>h.imp λes h=>h.imp λep h=>h.imp λt h=>h.1.trans (Ro h.2.1.1 h.2.1.2.1 h.2.1.2.2 h.2.2.1)
def FN(X:Cx)(f:Value)(s:aA7):Prop:=∀(Q:Keeper->aA7->Prop) E,(∀k,Q k s)->aD2 (aD9 X.L.prog X.L.w) X.A (bD8 f) Q E s
def Ve(X:Cx)(c:Ž)(Q:AV->St->Prop)(f:Value)(vas:List Value):Prop:=FN X f c.s/\ŝ X c Q (call f vas [])
noncomputable def Y6(a:AV):Option (Bi×AV):=match a with
 | .bm f x=>some (f,x)
 | _=>none
def UM{P:AV->Prop}{a:AV}{q:Bi×AV}(e:Y6 a=some q)(f:P (.bm q.1 q.2)):P a:=
 AV.casesOn (motive_1:=λa=>Y6 a=some q->P a) a AA (λ_=>AA) (λ_=>AA) (λ_ _=>AA) (λ_=>AA) (λ_=>AA) (λ_=>AA) (λ_ _ e=>Eq.mp (bO6 (λq:Bi×AV=>P (.bm q.1 q.2)) (aA1 e).symm) f) (λ_=>AA) (λ_=>AA) AA e
def Qq(f:Bi)(x:AV)(as:List AV)(σ:St)(Q:AV->St->Prop):Prop:=match f with
 | .get=>Ap as λk as=>Ap as λd as=>nil as (Ab (E5 σ x) λes=>Ab (BL k) λk=>Q ((es.lookup k).getD d) σ)
 | .has=>Ap as λk as=>nil as (Ab (IR σ x) λks=>Ab (BL k) λk=>Q (.bool (decide (k∈ks))) σ)
 | _=>False
section
variable{X:Cx}{c:Ž}{a x:AV}{va:Value}{Q:AV->St->Prop}
def T7{b:aC1}{f v:Value}{s:aA7}(hb:s.heap.get? b=some (Cq f v)):FN X (.ref b) s:=λQ E h=>aA2 (aQ7 hb (aA4 (h _)))
def N5(b:Bi){s:aA7}:FN X b.val s:=λQ E h=>Bi.casesOn (motive:=λb=>aD2 (aD9 X.L.prog X.L.w) X.A (bD8 b.val) Q E s) b (aA4 (h _)) (aA4 (h _)) (aA4 (h _)) (aA4 (h _)) (aA4 (h _)) (aA4 (h _)) (aA4 (h _)) (aA4 (h _)) (aA4 (h _)) (aA4 (h _)) (aA4 (h _)) (aA4 (h _)) (aA4 (h _)) (aA4 (h _)) (aA4 (h _)) (aA4 (h _)) (aA4 (h _)) (aA4 (h _)) (aA4 (h _)) (aA4 (h _)) (aA4 (h _)) (aA4 (h _))
def Za{f:Bi}{as:List AV}{vas:List Value}(h:Qq f x as c.σ Q)(R:ŵ X c)(rv:VR X c (.bm f x) va)(ra:Ŧ X c as vas):Ve X c Q va vas:=by
 cases rv with
 | mk b u hv hb ho rx=>
 subst hv
 refine⟨T7 hb,?_⟩
 exact Bi.casesOn (motive:=λf=>Qq f x as c.σ Q->c.s.heap.get? b=some (Cq f.val u)->ŝ X c Q (call (.ref b) vas [])) f (λh _=>h.elim) (λh _=>h.elim) (λh _=>h.elim) (λh _=>h.elim) (λh _=>h.elim) (λh _=>h.elim) (λh _=>h.elim) (λh _=>h.elim)
  (λh hb=>AX h ra λk as vk vas rk ra h=>AX h ra λd as vd vas rd ra h=>BU h ra λh=>AC h λes e1 h=>AC h λk e2 h=>by
   refine DA (P:=λu=>c.s.heap.get? b=some (Cq (.builtin "dict.get") u)->ŝ X c Q (call (.ref b) [vk,vd] [])) e1 R rx (λl kvs p1 p2 hb=>?_) hb
   obtain⟨es',k',ho'⟩:=Fn p1.1
   exact My (T:="dict") hb ⟨_,ho',rfl⟩ aZ8.plain PySem.F.entry_dict_get (λq=>Hi ho' q) (meets_dict_get_default (Af X.L.prog X.L.w) (k:=k) l (BS e2 rk) p1.2 vd) ⟨_,p1.1.mapOf,p2.look k (P:=λx y=>Q (x.getD d) c.σ->A1 X (VR X) c Q (y.getD vd) _) (.val _ R rd) (λa v r=>.val _ R r) h⟩)
  (λh _=>h.elim)
  (λh hb=>AX h ra λk as vk vas rk ra h=>BU h ra λh=>AC h λks e1 h=>AC h λk e2 h=>by
   refine FV (P:=λu=>c.s.heap.get? b=some (Cq (.builtin "set.__contains__") u)->ŝ X c Q (call (.ref b) [vk] [])) e1 R rx (λl p1 hb=>?_) hb
   obtain⟨es',k',tb,ho'⟩:=N4 p1.1
   refine My (T:="set") (S:=λA R s=>∃S n,s.heap.SetOf (Af X.L.prog X.L.w) l S n/\R (.ok (.ret (.bool (S k)))) {s with toks:=s.toks+1}) hb ⟨_,ho',rfl⟩ PySem.F.slot_set_contains.plain entry_set_contains (λq=>FM ho' q) (λA R s hS=>?_) ⟨_,_,p1.1,.to (b:=AV.bool (decide (k∈ks))) (R.toks _) rfl h⟩
   exact hS.elim λS hS=>hS.elim λn hS=>aP5 (Fq (Q:=λv s'=>R (.ok (.ret v)) s') (BS e2 rk) hS.1 hS.2) (λfin s' z=>z.elim λv z=>z.1▸z.2) λ_ _ x=>x)
  (λh _=>h.elim) (λh _=>h.elim) (λh _=>h.elim) (λh _=>h.elim) (λh _=>h.elim) (λh _=>h.elim) (λh _=>h.elim) (λh _=>h.elim) (λh _=>h.elim) (λh _=>h.elim) (λh _=>h.elim) h hb
def a0(σ:St)(a:AV)(x:Str):Option Bi:=
 JA ((BK σ a).bind λ_=>bif x==("append":Str)then some .append else bif x==("pop":Str)then some .pop else bif x==("sort":Str)then some .sort else bif x==("extend":Str)then some .extend else bif x==("index":Str)then some .index else none)
  (JA ((E5 σ a).bind λ_=>bif x==("get":Str)then some .get else bif x==("setdefault":Str)then some .setdefault else none) ((IR σ a).bind λ_=>bif x==("add":Str)then some .add else none))
def BF{α:Type}{b:Bool}{x y:Option α}{r:α}{P:Prop}(h:(bif b then x else y)=some r)(f:b=true->x=some r->P)(g:y=some r->P):P:=by
 cases b with
 | true=>exact f rfl h
 | false=>exact g h
def Yb{y:Str}{b:Bi}(e:a0 c.σ a y=some b){pl:Sem Bool}{Q:Value×List Value->aA7->Prop}(R:ŵ X c)(ra:VR X c a va)(h :∀t,Q (b.val,[va]) {c.s with toks:=t}):ţ X (aX6 va y pl) Q c.s:=by
 refine Dq e (λe=>?_) λe=>Dq e (λe=>?_) λe=>?_
 ·obtain⟨vs,e1,e⟩:=AF e
  refine Aw (P:=λva=>(∀t,Q (b.val,[va]) {c.s with toks:=t})->ţ X (aX6 va y pl) Q c.s) e1 R ra (λl us k p1 _ h=>?_) h
  have hd :∀a,aN2 l = .ref a->∃o,c.s.heap.get? a=some o/\o.dict=none:=λa e=>by cases e;exact⟨_,p1,rfl⟩
  have hT:=(AP p1).typeIs
  refine BF e (λhx e=>?_) λe=>BF e (λhx e=>?_) λe=>BF e (λhx e=>?_) λe=>BF e (λhx e=>?_) λe=>BF e (λhx e=>?_) AA
  ·rw[aF2 hx];cases e;exact aO8 hT aO9 PySem.F.slot_list_append (by rfl') hd (h _)
  ·rw[aF2 hx];cases e;exact aO8 hT aO9 PySem.F.slot_list_pop (by rfl') hd (h _)
  ·rw[aF2 hx];cases e;exact aO8 hT aO9 PySem.F.slot_list_sort (by rfl') hd (h _)
  ·rw[aF2 hx];cases e;exact aO8 hT aO9 PySem.F.slot_list_extend (by rfl') hd (h _)
  ·rw[aF2 hx];cases e;exact aO8 hT aO9 PySem.F.slot_list_index PySem.F.type_list_index hd (h _)
 ·obtain⟨vs,e1,e⟩:=AF e
  refine DA (P:=λva=>(∀t,Q (b.val,[va]) {c.s with toks:=t})->ţ X (aX6 va y pl) Q c.s) e1 R ra (λl us p1 _ h=>?_) h
  obtain⟨es',k',ho'⟩:=Fn p1.1
  have hd :∀a,aN2 l = .ref a->∃o,c.s.heap.get? a=some o/\o.dict=none:=λa e=>by cases e;exact⟨_,ho',rfl⟩
  refine BF e (λhx e=>?_) λe=>BF e (λhx e=>?_) AA
  ·rw[aF2 hx];cases e;exact aO8 p1.1.typeIs aX7 aZ8 PySem.F.type_dict_get hd (h _)
  ·rw[aF2 hx];cases e;exact aO8 p1.1.typeIs aX7 PySem.F.slot_dict_setdefault (by rfl') hd (h _)
 ·obtain⟨vs,e1,e⟩:=AF e
  refine FV (P:=λva=>(∀t,Q (b.val,[va]) {c.s with toks:=t})->ţ X (aX6 va y pl) Q c.s) e1 R ra (λl p1 h=>?_) h
  refine BF e (λhx e=>?_) AA
  rw[aF2 hx];cases e;exact getMethod_set_add p1.1 (h _)
def lC(σ:St)(a:AV)(x:Str):Option Bi:=
 bif x==("get":Str)then(E5 σ a).map λ_=>.get else bif x==("__contains__":Str)then(IR σ a).map λ_=>.has else none
def Zd{y:Str}{b:Bi}(e:lC c.σ a y=some b)(R:ŵ X c)(ra:VR X c a va)(h:Q (.bm b a) c.σ):ŝ X c Q (aY7 va y true):=by
 have fin :∀{va},VR X c a va->A1 X (VR X) c Q (.ref c.s.heap.objs.size) {c.s with heap:=c.s.heap.push (Cq b.val va),toks:=c.s.toks+1}:=λ{va} ra=>
  .to (b:=AV.bm b a) (R.push (Cq b.val va) _) ⟨_,va,rfl,aC4 _ rfl,R.gone,(R.push (Cq b.val va) _).pre.v ra⟩ h
 refine BF e (λhx e=>?_) λe=>BF e (λhx e=>?_) AA
 ·obtain⟨es,e1,rfl⟩:=map_some e
  rw[aF2 hx]
  refine DA (P:=λva=>VR X c a va->ŝ X c Q (aY7 va "get" true)) e1 R ra (λl kvs p1 _ ra=>?_) ra
  obtain⟨es',k',ho'⟩:=Fn p1.1
  exact IO ho' (fin ra)
 ·obtain⟨es,e1,rfl⟩:=map_some e
  rw[aF2 hx]
  refine FV (P:=λva=>VR X c a va->ŝ X c Q (aY7 va "__contains__" true)) e1 R ra (λl p1 ra=>?_) ra
  obtain⟨es',k',tb,ho'⟩:=N4 p1.1
  exact P4 ho' (fin ra)
end
noncomputable def nn:Nat->Option AV:=λ_=>none
section
variable{L:CU}{G G':Ű}{h h':aF0}{n n':Nat}(k:Cj G h G' h')
include k
theorem A8.shut{a:AV}{v:Value}(e:a.sub nn=some a)(q:A8 L G h n a v):A8 L G' h' n' a v:=A8.sub k (λx w e=>AA e) a a v e q
theorem A2.shut{a:List AV}{v:List Value}(e:AD nn a=some a)(q:A2 L G h n a v):A2 L G' h' n' a v:=A2.sub k (λx w e=>AA e) e q
theorem A8.zero{a:AV}{v:Value}(q:A8 L G h 0 a v):A8 L G' h' n a v:=A8.sub k (λx w e h=>bO9 h (aE6 x)) a a v (sub_id a) q
theorem A2.zero{a:List AV}{v:List Value}(q:A2 L G h 0 a v):A2 L G' h' n a v:=A2.sub k (λx w e h=>bO9 h (aE6 x)) (Dh a) q
end
def Ŀ.lk{G G':Ű}{h h':aF0}(k:Ŀ G h G' h'){a:aC1}(e:G.tag a=some .lock)(o:Obj)(ho:h.get? a=some o):h'.get? a=some o:=k.keep a o ho λz=>z.elim λp q=>q.2 (aA1 (q.1.symm.trans e))
def m8(wr:List aC1)(h h':aF0):Prop:=(∀b o,b∉wr->h.get? b=some o->h'.get? b=some o)/\h.objs.size<=h'.objs.size
inductive Vr(X:Cx)(c:Ž)(wr:List aC1)(items:List AV)(i:Nat)(v:Value)(St:Ű->aF0->Prop)(s₂:aA7):Prop
 | mk (av:AV) (e:items[i]?=some av) (r:VR X ⟨c.G,c.σ,s₂⟩ av v) (R:ŵ X ⟨c.G,c.σ,s₂⟩) (st:St c.G s₂.heap) (p:m8 wr c.s.heap s₂.heap)
structure LJ(X:Cx)(target:Expr)(I:aC1)(wr:List aC1)(items:List AV)(St:Nat->Ű->aF0->Prop):Prop where
 frame :∀i G h G' h',St i G h->Ŀ G h G' h'->St i G' h'
 item :∀i c,ŵ X c->i<items.length->St i c.G c.s.heap->ţ X (aT1 (.ref I)) (λr s₁=>∃v,r=some v/\ţ X (aW2 target (.ref I) v) (λ_ s₂=>Vr X c wr items i v (St (i+1)) s₂) s₁) c.s
 done :∀c,ŵ X c->St items.length c.G c.s.heap->ţ X (aT1 (.ref I)) (λr s₁=>r=none/\ŵ X ⟨c.G,c.σ,s₁⟩/\m8 wr c.s.heap s₁.heap) c.s
inductive CX(X:Cx)(target:Expr)(c:Ž)(K:List AV->St->Prop)(it:Value)(s':aA7):Prop
 | mk (c₁:Ž) (x:Cb X c c₁) (I:aC1) (wr:List aC1) (items:List AV) (St:Nat->Ű->aF0->Prop) (G':Ű) (e:it = .ref I) (ok :∀e:Env,LJ (X.en e) target I wr items St) (self :∀i G s (Q:Value->aA7->Prop),St i G s.heap->Q (.ref I) s->ţ X (aQ6 (.ref I)) Q s) (st:St 0 G' s'.heap) (hw :∀b∈wr,c₁.s.heap.objs.size<=b) (y:Cb X c₁ ⟨G',c₁.σ,s'⟩) (up :∀a o,c₁.s.heap.get? a=some o->s'.heap.get? a=some o) (q:K items c₁.σ)
theorem CX.up{X:Cx}{target:Expr}{c c':Ž}{K:List AV->St->Prop}{it:Value}{s':aA7}(x:Cb X c c')(p:CX X target c' K it s'):CX X target c K it s':=
 p.casesOn λc₁ x₁ I wr items St G' e ok self st hw y up q=>⟨c₁,x.trans x₁,I,wr,items,St,G',e,ok,self,st,hw,y,up,q⟩
def DP{M:bE3}{E:Value->aA7->Prop}{s:aA7}{I:aC1}{target:Expr}{v:Value}{o:Obj}{T:String}{vs:Array Value}{Q:Unit->aA7->Prop}(ho:s.heap.get? I=some o)(hc:o.cls = .type T)(hd:o.data = .fields vs)
  (hT:(["enumerate","zip","dict_itemiterator","dict_reverseitemiterator","odict_iterator","itertools.zip_longest","itertools.pairwise"].contains T)=false) (h:Q () s):aD2 M A (aW2 target (.ref I) v) Q E s:=by
 have body:aD2 M A (do
   let(.ref r,.ref a):=(aN2 I,v) | return
   let o<-load r
   match o.cls,o.data with
   | .type n,.fields vs=>
    if ["enumerate","zip","dict_itemiterator","dict_reverseitemiterator","odict_iterator","itertools.zip_longest","itertools.pairwise"].contains n&&vs[0]?==some (bA8 a)then
     rule "for.unpacks-the-owned-tuple"
     updateField r 0 .none
   | _,_=>pure ()) Q E s:=by
  cases v with
  | ref a=>
   refine aA2 (aQ7 ho ?_)
   rw[hc,hd]
   dsimp only
   rw[hT]
   exact aA4 h
  | _=>exact aA4 h
 cases target<;>first | exact body | exact aA4 h
section
variable{X:Cx}{c:Ž}
def H7(hs:aF0)(G:Ű)(wr:List aC1):Prop:=∀b∈wr,G.tag b=some .lock/\hs.objs.size<=b
def H7.frame{G G':Ű}{h h':aF0}{wr:List aC1}(x:H7 X.hs G wr)(k:Ŀ G h G' h'):H7 X.hs G' wr:=λb hb=>⟨k.lock b (x b hb).1,(x b hb).2⟩
structure MX(L:CU)(hs:aF0)(wr:List aC1)(I l:aC1)(us:List Value)(items:List AV)(i:Nat)(G:Ű)(h:aF0):Prop where
 lk:H7 hs G wr
 mem:I∈wr
 it:h.IsListIter I l i
 ls :∃k,h.get? l=some (Ad us k)
 ow:¬ G.own l
 all:A2 L G h 0 items us
section
variable{wr:List aC1}{I l:aC1}{us:List Value}{items:List AV}{i:Nat}
theorem MX.frame{G G':Ű}{h h':aF0}(x:MX X.L X.hs wr I l us items i G h)(kp:Ŀ G h G' h'):MX X.L X.hs wr I l us items i G' h':=
 ⟨x.lk.frame kp,x.mem,x.it.imp λo q=>⟨kp.lk (x.lk I x.mem).1 o q.1,q.2⟩,x.ls.imp λk e=>(kp.still l _ e x.ow).1,x.ls.elim λk e=>kp.off e x.ow,x.all.zero kp.still⟩
def MX.ne{G:Ű}{h:aF0}(x:MX X.L X.hs wr I l us items i G h):l∉wr:=λz=>x.ow (A3 (x.lk l z).1)
def MX.next(x:MX X.L X.hs wr I l us items i c.G c.s.heap){h':aF0}{t j:Nat}(it:h'.IsListIter I l j)(hk :∀a o,a∉wr->c.s.heap.get? a=some o->h'.get? a=some o)(p:Dy c (c.hp c.σ h' t)):MX X.L X.hs wr I l us items j c.G h':=
 ⟨x.lk,x.mem,it,x.ls.imp λk e=>hk l _ x.ne e,x.ow,x.all.zero p.still⟩
def MX.item{G:Ű}{h:aF0}(x:MX X.L X.hs wr I l us items i G h)(hi:i<items.length) :∃v,us.toArray[i]?=some v/\A8 X.L G h 0 items[i] v:=(x.all.get (aA6 hi)).imp λv q=>⟨aF1.trans q.1,q.2⟩
theorem MX.none{G:Ű}{h:aF0}(x:MX X.L X.hs wr I l us items items.length G h):us.toArray[items.length]?=none:=aF1.trans (aG9 (aB7 x.all.len))
end
def SP{a I:aC1}(h:a∉[I]):a≠I:=λz=>h (z▸aC6 ..)
def dP{a I J:aC1}(h:a∉[I,J]):a≠I:=λz=>h (z▸aC6 ..)
def XW{a I J:aC1}(h:a∉[I,J]):a≠J:=λz=>h (z▸aC9 _ (aC6 ..))
def Xm{I l:aC1}{us:List Value}{items:List AV}(hh:X.A.handled=none)(target:Expr):LJ X target I [I] items (MX X.L X.hs [I] I l us items) where
 frame:=λi G h G' h' x kp=>x.frame kp
 item:=λi c R hi x=>by
  obtain⟨v,g1,g2⟩:=x.item hi
  obtain⟨k,x4⟩:=x.ls
  refine wpAny_pyNext_list_item x.it (AP x4) g1 λh' y1 y2=>⟨v,rfl,?_⟩
  have kk :∀a o,a∉[I]->c.s.heap.get? a=some o->h'.get? a=some o:=λa o ha e=>(y2.2 a (SP ha)).trans e
  have q:=R.lockAt x.lk (t:=c.s.toks) kk (aB7 y2.1.symm)
  exact y1.elim λo y=>DP (T:="list_iterator") y.1 y.2.1 y.2.2 (by decide) ⟨items[i],aA6 hi,g2.zero q.1.still,q.2,x.next y1 kk q.1,kk,aB7 y2.1.symm⟩
 done:=λc R x=>x.ls.elim λk x4=>EX (wpAny_pyNext_list_end hh x.it (AP x4) x.none λh' y1 sz=>
  have kk :∀a o,a∉[I]->c.s.heap.get? a=some o->h'.get? a=some o:=λa o ha e=>y1 a o (SP ha) e
  ⟨rfl,(R.lockAt x.lk (t:=c.s.toks) kk sz).2,kk,sz⟩)
structure wZ(L:CU)(hs:aF0)(I l:aC1)(us:List Value)(items:List AV)(i:Nat)(G:Ű)(h:aF0):Prop where
 lk:H7 hs G [I]
 it:h.IsTupleIter I l i
 ls :∃k,h.get? l=some (Ao us k)
 ow:¬ G.own l
 all:A2 L G h 0 items us
def Ly{h:aF0}{l:aC1}{us:List Value}{k:Nat}(e:h.get? l=some (Ao us k)):h.IsTuple l us.toArray:=⟨_,e,rfl,k,rfl⟩
def iP{I l:aC1}{us:List Value}{items:List AV}(hh:X.A.handled=none)(target:Expr):LJ X target I [I] items (wZ X.L X.hs I l us items) where
 frame:=λi G h G' h' x kp=>⟨x.lk.frame kp,x.it.imp λo q=>⟨kp.lk (x.lk I (aB6.mpr rfl)).1 o q.1,q.2⟩,x.ls.imp λk e=>(kp.still l _ e x.ow).1,x.ls.elim λk e=>kp.off e x.ow,x.all.zero kp.still⟩
 item:=λi c R hi x=>by
  obtain⟨v,g1,g2⟩:=x.all.get (aA6 hi)
  obtain⟨k,x4⟩:=x.ls
  refine wpAny_pyNext_tuple_item x.it (Ly x4) (aF1.trans g1) λh' y1 y2=>⟨v,rfl,?_⟩
  have kk :∀a o,a∉[I]->c.s.heap.get? a=some o->h'.get? a=some o:=λa o ha e=>(y2.2 a (SP ha)).trans e
  have q:=R.lockAt x.lk (t:=c.s.toks) kk (aB7 y2.1.symm)
  have ne:l∉[I]:=λz=>x.ow (A3 (x.lk l z).1)
  exact y1.elim λo y=>DP (T:="tuple_iterator") y.1 y.2.1 y.2.2 (by decide) ⟨items[i],aA6 hi,g2.zero q.1.still,q.2,⟨x.lk,y1,⟨k,kk l _ ne x4⟩,x.ow,x.all.zero q.1.still⟩,kk,aB7 y2.1.symm⟩
 done:=λc R x=>x.ls.elim λk x4=>EX (wpAny_pyNext_tuple_end hh x.it (Ly x4) (aF1.trans (aG9 (aB7 x.all.len))) λh' y1 sz=>
  have kk :∀a o,a∉[I]->c.s.heap.get? a=some o->h'.get? a=some o:=λa o ha e=>y1 a o (SP ha) e
  ⟨rfl,(R.lockAt x.lk (t:=c.s.toks) kk sz).2,kk,sz⟩)
def Ah(lo:Int)(n:Nat):List AV:=(aC8 n).map λ(i:Nat)=>.int (lo+(i:Int))
def BH(lo hi:Int):Prop:=-1000000<=lo/\lo<=1000000/\-1000000<=hi/\hi<=1000000
def AQ(lo:Int)(n:Nat):(Ah lo n).length=n:=(aB0 ..).trans aG6
def As{lo:Int}{n i:Nat}(h:i<n):(Ah lo n)[i]?=some (.int (lo+(i:Int))):=by
 unfold Ah
 rw[aC5,bC3 h]
 rfl
structure wW(hs:aF0)(I:aC1)(lo:Int)(n i:Nat)(G:Ű)(h:aF0):Prop where
 lk:H7 hs G [I]
 it:IsRangeIter h I (lo+i) ((n:Int)-i) 1
def VK{I:aC1}{lo:Int}{n:Nat}(hh:X.A.handled=none)(target:Expr):LJ X target I [I] (Ah lo n) (wW X.hs I lo n) where
 frame:=λi G h G' h' x kp=>⟨x.lk.frame kp,kp.lk (x.lk I (aC6 ..)).1 _ x.it⟩
 item:=λi c R hi x=>by
  rw[AQ]at hi
  refine wpAny_pyNext_range_item x.it (Int.sub_pos_of_lt (aD4.mpr hi)) λh' y1 y2=>⟨_,rfl,?_⟩
  have kk :∀a o,a∉[I]->c.s.heap.get? a=some o->h'.get? a=some o:=λa o ha e=>(y2.2 a (SP ha)).trans e
  refine DP (s:={c.s with heap:=h',toks:=c.s.toks+1}) (T:="range_iterator") y1 rfl rfl (by decide) ⟨_,As hi,bP3 (lo+(i:Int)),(R.lockAt x.lk kk (aB7 y2.1.symm)).2,⟨x.lk,?_⟩,kk,aB7 y2.1.symm⟩
  rw[Int.natCast_add,<-bI9,<-Int.sub_sub]
  exact y1
 done:=λc R x=>EX (wpAny_pyNext_range_end hh x.it (by rw[AQ,Int.sub_self];exact aU4 0) λh' y1 sz=>
  have kk :∀a o,a∉[I]->c.s.heap.get? a=some o->h'.get? a=some o:=λa o ha e=>y1 a o (SP ha) e
  ⟨rfl,(R.lockAt x.lk (t:=c.s.toks) kk sz).2,kk,sz⟩)
def Bj(vs:List AV):List AV:=vs.zipIdx.map λp=>.tup [.int (p.2:Int),p.1]
def Eo{vs:List AV}{i:Nat}{a:AV}(h:vs[i]?=some a):(Bj vs)[i]?=some (.tup [.int (i:Int),a]):=by
 unfold Bj
 rw[aC5,List.getElem?_zipIdx,h,aF3]
 rfl
def DY(vs:List AV):(Bj vs).length=vs.length:=(aB0 ..).trans List.length_zipIdx
noncomputable def Hf(t:Expr):Bool:=aD0 t.ctorIdx 25
def PM{P:Expr->Prop}{t:Expr}(h:Hf t=true)(f :∀a b c,P (.Tuple a b c)):P t:=Expr.Tuple.elim (motive_1:=P) t (aB4 h) f
structure vU(L:CU)(hs:aF0)(e it l:aC1)(us:List Value)(vs:List AV)(i:Nat)(G:Ű)(h:aF0):Prop where
 ls:MX L hs [e,it] it l us vs i G h
 en :∃old,IsEnum h e it i old
def W9{e it l:aC1}{us:List Value}{vs:List AV}(hh:X.A.handled=none)(hne:e≠it){target:Expr}(ht:Hf target=true):LJ X target e [e,it] (Bj vs) (vU X.L X.hs e it l us vs) where
 frame:=λi G h G' h' x kp=>⟨x.ls.frame kp,x.en.imp λold q=>kp.lk (x.ls.lk e (aC6 ..)).1 _ q⟩
 item:=λi c R hi x=>by
  rw[DY]at hi
  obtain⟨v,g1,g2⟩:=x.ls.item hi
  obtain⟨k,x7⟩:=x.ls.ls
  obtain⟨old,x5⟩:=x.en
  refine wpAny_pyNext_enum_item x5 x.ls.it (AP x7) g1 hne λh' y1 y2 y3 y4 y5=>⟨_,rfl,?_⟩
  refine PM (P:=λT=>ţ X (aW2 T (.ref e) (.ref c.s.heap.objs.size)) (λ_ s₂=>Vr X c [e,it] (Bj vs) i (.ref c.s.heap.objs.size) (vU X.L X.hs e it l us vs (i+1)) s₂) {c.s with heap:=h',toks:=c.s.toks+1}) ht λelts x1 pos=>wpAny_letOwnedTupleGo_enum y1 λh'' Š z2=>?_
  have kk :∀a o,a∉[e,it]->c.s.heap.get? a=some o->h''.get? a=some o:=λa o ź ea=>(z2.2 a (dP ź)).trans (y5 a o (dP ź) (XW ź) ea)
  have sz:c.s.heap.objs.size<=h''.objs.size:=z2.1.symm▸y4.symm▸aK1 _
  have hT:h''.get? c.s.heap.objs.size=some (Ao [.int i c.s.toks,v] 0):=(z2.2 _ (aJ6 (aI8 x5))).trans y3
  have q:=R.lockAt x.ls.lk (t:=c.s.toks+1) kk sz
  exact⟨_,Eo (aA6 hi),⟨_,_,rfl,⟨(0,Option.none),hT⟩,R.gone,_,_,rfl,bP3 (i:Int),_,_,rfl,g2.zero q.1.still,rfl⟩,q.2,⟨x.ls.next (y2.imp λo r=>⟨(z2.2 it hne.symm).trans r.1,r.2⟩) kk q.1,v,Š⟩,kk,sz⟩
 done:=λc R x=>by
  have x':=x.ls
  have en:=x.en
  rw[DY]at x' en
  exact x'.ls.elim λk x7=>en.elim λold x5=>EX (wpAny_pyNext_enum_end hh x5 x'.it (AP x7) x'.none λh' y1 sz=>
   have kk :∀a o,a∉[e,it]->c.s.heap.get? a=some o->h'.get? a=some o:=λa o ha e=>y1 a o (XW ha) e
   ⟨rfl,(R.lockAt x'.lk (t:=c.s.toks) kk sz).2,kk,sz⟩)
def YL{vs us:List AV}{va:Value}{K:List AV->St->Prop}(hh:X.A.handled=none)(e:AD nn vs=some vs)(h:K vs c.σ)(target:Expr)(R:ŵ X c)(ra:VR X c (.lst vs) va):ţ X (aQ6 va) (λit s'=>CX X target c K it s') c.s:=by
 cases ra with
 | mk l us hv hp ho hr=>
 subst hv
 obtain⟨k,p⟩:=hp
 refine wpAny_pyIter_list (AP (k:=k.1) p) ?_
 have x:=R.lck {cls:=.type "list_iterator",data:=.fields #[.ref l,.int 0 0]} c.s.toks
 exact⟨c,.refl R,_,[c.s.heap.objs.size],vs,MX X.L X.hs [c.s.heap.objs.size] c.s.heap.objs.size l us vs,_,rfl,λe=>Xm (X:=X.en e) (l:=l) (us:=us) hh target,λi G s Q st hQ=>wpAny_pyIter_listiter st.it hQ,⟨λb hb=>⟨aB6.mp hb▸Ű.put_at,aB6.mp hb▸R.size⟩,aC6 ..,⟨_,aC4 _ rfl,rfl,rfl⟩,⟨k.1,aB1 _ p⟩,x.kp.off p ho,hr.shut x.kp.still e⟩,λb hb=>aB7 (aB6.mp hb).symm,x,λ_ _ e=>aB1 _ e,h⟩
def T3(a:AV):Option (List AV):=(DR a).bind λp=>SK.rec (some p.2) (some p.2) none p.1
def g9{vs:List AV}{va:Value}{K:List AV->St->Prop}(hh:X.A.handled=none)(e:AD nn vs=some vs)(h:K vs c.σ)(target:Expr)(R:ŵ X c)(ra:VR X c (.tup vs) va):ţ X (aQ6 va) (λit s'=>CX X target c K it s') c.s:=by
 cases ra with
 | mk l us hv hp ho hr=>
 subst hv
 obtain⟨k,p⟩:=hp
 refine wpAny_pyIter_tuple (Ly (k:=k.1) p) ?_
 have x:=R.lck {cls:=.type "tuple_iterator",data:=.fields #[.ref l,.int 0 0]} c.s.toks
 exact⟨c,.refl R,_,[c.s.heap.objs.size],vs,wZ X.L X.hs c.s.heap.objs.size l us vs,_,rfl,λe=>iP (X:=X.en e) (l:=l) (us:=us) hh target,λi G s Q st hQ=>wpAny_pyIter_tupleiter st.it hQ,⟨λb hb=>⟨aB6.mp hb▸Ű.put_at,aB6.mp hb▸R.size⟩,⟨_,aC4 _ rfl,rfl,rfl⟩,⟨k.1,aB1 _ p⟩,x.kp.off p ho,hr.shut x.kp.still e⟩,λb hb=>aB7 (aB6.mp hb).symm,x,λ_ _ e=>aB1 _ e,h⟩
def bW{a:AV}{vs:List AV}{va:Value}{K:List AV->St->Prop}(hh:X.A.handled=none)(ea:T3 a=some vs)(e:AD nn vs=some vs)(h:K vs c.σ)(target:Expr)(R:ŵ X c)(ra:VR X c a va):ţ X (aQ6 va) (λit s'=>CX X target c K it s') c.s:=by
 obtain⟨⟨k,us⟩,e1,ea⟩:=AF ea
 refine Fj (P:=λa=>VR X c a va->_) e1 (λra=>?_) ra
 cases k with
 | tup=>cases aA1 ea;exact g9 hh e h target R ra
 | lst=>cases aA1 ea;exact YL (us:=[]) hh e h target R ra
 | mat=>exact AA ea
end
section
variable{L:CU}{G:Ű}{h:aF0}{n:Nat}{as:List (Str×AV)}{es:List aO6}
def AZ.cases{M:List (Str×AV)->List aO6->Prop}(m0:M [] [])(m1 :∀x a hsh t v r u,A8 L G h n a v->AZ L G h n r u->M r u->M ((x,a)::r) (⟨hsh,.str x t,v⟩::u)):AZ L G h n as es->M as es:=
 aB5 (motive:=λas=>∀es,AZ L G h n as es->M as es) (λes q=>(show es=[]from q)▸m0) (λa r ih es q=>by
  obtain⟨x,a⟩:=a
  obtain⟨hsh,t,v,u,rfl,q1,Ľ⟩:=q
  exact m1 x a hsh t v r u q1 Ľ (ih u Ľ)) as es
def AZ.cons{x:Str}{a:AV}{hsh:Int}{t:Tok}{v:Value}{r:List (Str×AV)}{u:List aO6}(q:A8 L G h n a v)(q':AZ L G h n r u):AZ L G h n ((x,a)::r) (⟨hsh,.str x t,v⟩::u):=⟨hsh,t,v,u,rfl,q,q'⟩
def AZ.noRef:AZ L G h n as es->es.any (·.refKey)=false:=AZ.cases (M:=λ_ es=>es.any (·.refKey)=false) rfl λ_ _ _ _ _ _ _ _ _ ih=>ih
def AZ.len:AZ L G h n as es->es.length=as.length:=AZ.cases (M:=λas es=>es.length=as.length) rfl λ_ _ _ _ _ _ _ _ _ ih=>bO6 aQ9 ih
def AZ.look(x:Str)(q:AZ L G h n as es) :∀{P:Option AV->Option aO6->Prop},P none none->(∀a e,A8 L G h n a e.val->P (some a) (some e))->P (as.lookup x) (es.find? (·.key.isStr x)):=
 AZ.cases (M:=λas es=>∀{P:Option AV->Option aO6->Prop},P none none->(∀a e,A8 L G h n a e.val->P (some a) (some e))->P (as.lookup x) (es.find? (·.key.isStr x))) (λ{P} p _=>p) (λy a hsh t v r u q _ ih P p f=>by
  rw[AS,List.find?_cons,show(bL1 y t).isStr x=(x==y)from Bool.beq_comm]
  cases x==y with
  | true=>exact f a ⟨hsh,.str y t,v⟩ q
  | false=>exact ih p f) q
def AZ.put{y:Str}{a:AV}{v:Value}{hsh:Int}{t:Tok}(hv:A8 L G h n a v)(q:AZ L G h n as es):AZ L G h n (Al as y a) (putL y hsh (.str y t) v es):=
 AZ.cases (M:=λas es=>AZ L G h n (Al as y a) (putL y hsh (.str y t) v es)) (AZ.cons hv rfl) (λz b hs t' u r l q1 Ľ ih=>by
  show AZ L G h n (bif z==y then(z,a)::r else(z,b)::Al r y a) (if(bL1 z t').isStr y=true then _ else _)
  rw[show(bL1 z t').isStr y=(z==y)from rfl]
  cases z==y with
  | true=>exact AZ.cons hv Ľ
  | false=>exact AZ.cons q1 ih) q
end
noncomputable def HW(a:AV):Bool:=match a with
 | .fn _=>false
 | _=>true
def P5{L:CU}{G:Ű}{h:aF0}{n:Nat}{a:AV}{v:Value}(e:HW a=true)(q:A8 L G h n a v):handedIn v=true:=by
 have bx :∀{β:Type} {P:aC1->β->Prop} {R:β->Prop},EF P G R v->true=true->handedIn v=true:=λq _=>q.casesOn λ_ _ hv _ _ _=>hv.symm▸rfl
 exact AV.casesOn (motive_1:=λa=>A8 L G h n a v->HW a=true->handedIn v=true) a (λq _=>(show v = .none from q).symm▸rfl) (λx q _=>(show v = .bool x from q).symm▸rfl)
  (λk=>AB.casesOn (motive:=λk=>A8 L G h n (.key k) v->true=true->handedIn v=true) k (λi q _=>(Au q).elim λt e=>e.symm▸rfl) λi q _=>(Ay q).elim λt e=>e.symm▸rfl)
  (λ_ _=>bx) (λx q _=>q.1.symm▸rfl) (λ_ _ z=>nomatch z) (λx q _=>(show v = .ref x from q).symm▸rfl) (λ_ _=>bx) (λ_=>bx) (λ_=>bx) bx q e
noncomputable def AO.ins:AO->Option (aC1×List (Str×AV))
 | .inst C at_=>some (C,at_)
 | _=>none
def AO.ins_eq{o:AO}{q:aC1×List (Str×AV)}(e:o.ins=some q):o = .inst q.1 q.2:=
 AO.casesOn (motive:=λo=>o.ins=some q->o = .inst q.1 q.2) o (λ_=>AA) (λ_=>AA) (λ_=>AA) (λ_ _ e=>bO6 (λq:aC1×List (Str×AV)=>AO.inst q.1 q.2) (aA1 e)) (λ_=>AA) e
def Ma(σ:St)(a:AV)(k:Nat->aC1->List (Str×AV)->Prop):Prop:=Ab (CW σ a) λp=>Ab p.2.ins λq=>k p.1 q.1 q.2
noncomputable def Q3(K:bE8)(D:aC1)(x:Str):Bool:=plainGet K D x&&hasDictIn K D&&(findIn K (.ref D) x).any (noGet K)
def Vf(K:bE8)(a:AV)(x:Str)(σ:St)(Q:AV->St->Prop):Prop:=Ma σ a λ_ D at_=>Dp (Q3 K D x) (Ab (at_.lookup x) λv=>Dp (HW v) (Q v σ))
noncomputable def RQ(o:Option (Option Value)):Option aC1:=match o with
 | some (some (.ref f))=>some f
 | _=>none
def gM(K:bE8)(σ:St)(a:AV)(x:Str):Option aC1:=(CW σ a).bind λp=>p.2.ins.bind λq=>(RQ (findIn K (.ref q.1) x)).bind λf=>bif (q.2.lookup x).isNone&&(plainGet K q.1 x&&isFn K (.ref f))then some f else none
noncomputable def Q5(K:bE8)(D:aC1)(x:Str):Bool:=(findIn K (.ref D) "__setattr__" == some (some (.builtin "object.__setattr__")))&&(plainOver K D&&((takerIn K D x==some none)&&hasDictIn K D))
def Tp(K:bE8)(a:AV)(x:Str)(b:AV)(σ:St)(Q:St->Prop):Prop:=Ma σ a λy D at_=>Dp (Q5 K D x&&aV2 at_.length 900) (Q (σ.set y (.inst D (Al at_ x b))))
section
variable{X:Cx}{c:Ž}{a b:AV}{va vb:Value}{K:bE8}{Q:AV->St->Prop}
def HQ{k:Nat->aC1->List (Str×AV)->Prop}{P:Value->Prop}(h:Ma c.σ a k)(R:ŵ X c)(r:VR X c a va)(f :∀y D at_ es e,c.σ.H.lookup y=some (.inst D at_)->c.s.heap.get? (c.G.μ y)=some (instObj D (c.G.δ y))->c.s.heap.get? (c.G.δ y)=some (dictOf es e)->AZ X.L c.G c.s.heap c.σ.n at_ es->c.G.tag (c.G.δ y)=some (.dict y)->k y D at_->P (.ref (c.G.μ y))):P va:=by
 refine AC h λp e1 h=>AC h λq e2 h=>?_
 have z:=Ca e1 r
 rw[AO.ins_eq e2]at z
 rw[z.1]
 exact(R.obj _ _ z.2).rel.casesOn λes e q1 Ľ q3 ő=>f _ _ _ es e z.2 q1 Ľ q3 ő h
def Yq(hK:K.In X.h₀){x:Str}(h:Vf K a x c.σ Q)(R:ŵ X c)(ra:VR X c a va):ŝ X c Q (aY7 va x true):=by
 refine HQ (P:=λva=>ŝ X c Q (aY7 va x true)) h R ra λy D at_ es k hx o1 ĩ o3 o4 h=>?_
 obtain⟨hc,h⟩:=A4 h
 obtain⟨c12,c3⟩:=AL hc
 obtain⟨c1,c2⟩:=AL c12
 refine AC h λv hv h=>?_
 obtain⟨hh,h⟩:=A4 h
 cases ha:findIn K (.ref D) x with
 | none=>rw[ha]at c3;cases c3
 | some attr=>
  rw[ha]at c3
  have fe :∃en,es.find? (·.key.isStr x)=some en/\VR X c v en.val:=o3.look x (P:=λp q=>p=some v->∃en,q=some en/\VR X c v en.val) AA (λa e r z=>⟨e,rfl,aA1 z▸r⟩) hv
  obtain⟨en,e1,r⟩:=fe
  refine get_value (hK.keeps R.base) ⟨o1,rfl,rfl,ĩ⟩ (bL6 c1).1 (findObj_own c2 ha c3 (v:=en.val) ?_) (P5 hh r) (.val _ R r h)
  rw[lookIn_dict]
  unfold getL
  rw[e1]
def YT{E:Value->aA7->Prop}(hK:K.In X.h₀){x:Str}{f:aC1}(e:gM K c.σ a x=some f){pl:Sem Bool}{Q:Value×List Value->aA7->Prop}(R:ŵ X c)(ra:VR X c a va)(h :∀t,Q (.ref f,[va]) {c.s with toks:=t}):ţ X (aX6 va x pl) Q c.s:=by
 have hi:Ma c.σ a λ_ D at_=>RQ (findIn K (.ref D) x)=some f/\at_.lookup x=none/\plainGet K D x=true/\isFn K (.ref f)=true:=by
  obtain⟨p,e1,e⟩:=AF e
  obtain⟨q,e2,e⟩:=AF e
  obtain⟨g,e3,e⟩:=AF e
  show Ab (CW c.σ a) _
  rw[e1]
  show Ab p.2.ins _
  rw[e2]
  refine BF e (λhc e=>?_) AA
  cases e
  obtain⟨Š,z2⟩:=AL hc
  obtain⟨z2,ĳ⟩:=AL z2
  exact⟨e3,Option.isNone_iff_eq_none.mp Š,z2,ĳ⟩
 refine HQ (P:=λva=>(∀t,Q (.ref f,[va]) {c.s with toks:=t})->ţ X (aX6 va x pl) Q c.s) hi R ra (λy D at_ es k hx o1 ĩ o3 o4 h hq=>?_) h
 obtain⟨h1,h2,h3,ō⟩:=h
 have ż:findIn K (.ref D) x=some (some (.ref f)):=by
  unfold RQ at h1
  split at h1
  ·rename_i e;cases h1;exact e
  ·cases h1
 have fe:es.find? (·.key.isStr x)=none:=o3.look x (P:=λp q=>p=none->q=none) (λ_=>rfl) (λa e r z=>AA z.symm) h2
 refine method_fn (od:=some (dictOf es k)) (hK.keeps R.base) ⟨o1,rfl,rfl,ĩ⟩ (bL6 h3).1 (bL6 h3).2 ż (beq_iff_eq.mp ō) ?_ (hq c.s.toks)
 show(lookIn x (dictOf es k)).map _=_
 rw[lookIn_dict]
 unfold getL
 rw[fe]
 simp only[o3.noRef]
 rfl
end
section
variable{prog:aG3}{w:aB9}{A:aH7}{C x:aC1}{s:aA7}{K:bE8}{R:bD7->aA7->Prop}
def Pr{name:Str}{hsh:Int}{k v:Value}(l:List aO6):(putL name hsh k v l).length<=l.length+1:=by
 induction l with
 | nil=>exact aA9 _
 | cons e r ih=>
  unfold putL
  split
  ·exact aK1 _
  ·exact aG8 ih
def ZV{dx:aC1}{name:Str}{tk:Tok}{v:Value}{es:List aO6}{n:Nat}(X:K.In s.heap)
  (hx:s.heap.get? x=some (instObj C dx)) (D:s.heap.get? dx=some (dictOf es n)) (hp:plainOver K C=true) (ht:takerIn K C name=some none) (hh:hasDictIn K C=true)
  (hr:es.any (·.refKey)=false) (hz:es.length<1000)
  (h :∀h',h'.get? dx=some (dictOf (putL name (bD9 w.params name) (.str name s.toks) v es) (putN name es n))->aF7 dx s.heap h'->R (.ok (.ret .none)) {s with heap:=h',toks:=s.toks+1}) :
  aM9 (aD9 prog w) A (.call (.builtin "object.__setattr__") ⟨[.ref x,.str name tk,v],[]⟩) R s:=by
 have I:InstAt s.heap x (instObj C dx) C (some (dictOf es n)):=⟨hx,rfl,rfl,D⟩
 refine osa_open X I hp ht λb=>?_
 obtain⟨cd,hc,hd'⟩:=any_some hh
 have D':(s.heap.update dx (Obj.putName name (bD9 w.params name) (.str name s.toks) v)).get? dx=some (dictOf (putL name (bD9 w.params name) (.str name s.toks) v es) (putN name es n)):=by
  rw[aI7 _ D (by rw[putName_dict];rfl),putName_dict]
 refine aA2 (aA4 (aA2 (aA2 (aY6 hx (aA2 ((looks_clsIn X hc).here ?_))))))
 rw[hd']
 refine aA4 (a:=some dx) (aA2 (aA4 (aA2 ?_)))
 unfold nsSet
 refine aA2 (aA2 (aP3 (aA4 (aA2 (wpAny_mkText (aA2 (aY6 D ?_)))))))
 dsimp only[dictOf]
 have c:(!es.toArray.any (·.key.isStr name)&&es.toArray.any (·.refKey))=false:=by
  rw[<-bF1,<-bF1]
  show(!es.any (·.key.isStr name)&&es.any (·.refKey))=false
  rw[hr,Bool.and_false]
 rw[aRefKeyMayBeTheName_at,c]
 refine wpAny_updatePart D ?_
 refine aA2 (wpAny_lookBehind D' (pastItsLine_dict (aA3 (Pr es) (aA3 hz (by decide)))) ?_)
 exact aA4 (h _ D' (aH5 ..))
end
section
variable{X:Cx}{c:Ž}{a b:AV}{va vb:Value}{K:bE8}{Q:St->Prop}
def Se(hK:K.In X.h₀){x:Str}(h:Tp K a x b c.σ Q)(R:ŵ X c)(ra:VR X c a va)(rb:VR X c b vb):FZ X c Q (setAttr va x vb):=by
 refine HQ (P:=λva=>FZ X c Q (setAttr va x vb)) h R ra λy D at_ es k hx o1 ĩ o3 o4 h=>?_
 obtain⟨hc,h⟩:=A4 h
 obtain⟨hc,hz⟩:=AL hc
 obtain⟨c1,hc⟩:=AL hc
 obtain⟨c2,hc⟩:=AL hc
 obtain⟨c3,c4⟩:=AL hc
 refine set_plain (od:=some (dictOf es k)) (hK.keeps R.base) ⟨o1,rfl,rfl,ĩ⟩ (beq_iff_eq.mp c1) (ZV (s:={c.s with toks:=c.s.toks+1}) (hK.keeps R.base) o1 ĩ c2 (beq_iff_eq.mp c3) c4 o3.noRef (aD1 (o3.len▸aK5 hz) (by decide)) λh' d1 d2=>?_)
 have ne:c.G.μ y≠c.G.δ y:=E6 (R.obj y _ hx).tag o4 λq=>nomatch q
 exact .to (b:=()) (R.setInst (o:=.inst D (Al at_ x b)) hx rfl d2 λp=>⟨_,_,(d2.2 _ ne).trans o1,d1,AZ.sub p.still (p.hg X.L) (GM _) (o3.put rb),o4⟩) trivial h
end
end Mine
end
section
open PySem PySem.W PyProof.Rows PySem.Spec PySem.Calls
namespace Mine
abbrev Ob:=aC1×List (Str×AV)
noncomputable def Ob.ao(o:Ob):AO:=.inst o.1 o.2
def C1(os:List Ob):Prop:=∀(i:Nat) (o:Ob),os[i]?=some o->AN nn o.2=some o.2
structure Kf(G:Ű)(h₀:aF0)(s:aA7):Prop where
 lo :∀a,G.own a->h₀.get? a=none
 lt :∀a,G.own a->a<s.heap.objs.size
 base :∀b o,h₀.get? b=some o->s.heap.get? b=some o
 size:h₀.objs.size<=s.heap.objs.size
structure LV(L:CU)(G:Ű)(h:aF0)(k i:Nat)(o:Ob):Prop where
 tag:G.tag (G.μ i)=some (.obj i)
 rel:C6 L G h k i o.ao
inductive V0(L:CU)(G:Ű)(k:Nat)(s:aA7)(Q:AV->List Ob->Prop)(v:Value)(s':aA7):Prop
 | mk (r:AV) (os':List Ob) (q:Q r os') (shut:r.sub nn=some r) (len:os'.length=k) (shuts:C1 os') (keep :∀b o,s.heap.get? b=some o->¬ G.mt b->s'.heap.get? b=some o) (size:s.heap.objs.size<=s'.heap.objs.size)
  (gens:s'.gens=s.gens) (os:s'.os=s.os) (objs :∀(i:Nat) (o:Ob),os'[i]?=some o->C6 L G s'.heap k i o.ao) (rel:A8 L G s'.heap k r v)
def CS(B:Value->aA7->Prop)(r:bD7)(s:aA7):Prop:=∃v,r = .ok (.ret v)/\B v s
def CS.mono{B B':Value->aA7->Prop}(h :∀v s,B v s->B' v s){r:bD7}{s:aA7}(x:CS B r s):CS B' r s:=x.imp λv q=>⟨q.1,h _ _ q.2⟩
def CY(d:Nat)(A:aH7):Prop:=A.handled=none/\A.depth+d<recursionLimit/\A.units+10*d+40<cLine
abbrev Ŕ:=List AV->List Ob->(AV->List Ob->Prop)->Prop
def Kk(L:CU)(A:aH7)(f:Value)(s:aA7):Prop:=∀(Q:Keeper->aA7->Prop) E,(∀k,Q k s)->aD2 (aD9 L.prog L.w) A (bD8 f) Q E s
def BP(L:CU)(h₀:aF0)(d:Nat)(f:Value)(tr:Ŕ):Prop:=
 ∀{A:aH7} {s:aA7} {G:Ű} {as:List AV} {os:List Ob} {Q:AV->List Ob->Prop} {vas:List Value},CY d A->Kf G h₀ s->(∀(i:Nat) (o:Ob),os[i]?=some o->LV L G s.heap os.length i o)->A2 L G s.heap os.length as vas->tr as os Q->
  Kk L A f s/\aM9 (aD9 L.prog L.w) A (.call f ⟨vas,[]⟩) (CS (V0 L G os.length s Q)) s
def BP.up{L:CU}{h₀:aF0}{d d':Nat}{f:Value}{tr:Ŕ}(h:BP L h₀ d f tr)(hd:d<=d'):BP L h₀ d' f tr:=λhA=>h ⟨hA.1,aD1 (aK2 hd _) hA.2.1,aD1 (aQ4 (aK2 (Nat.mul_le_mul_left 10 hd) _) 40) hA.2.2⟩
noncomputable def Fi(a:AV):Option Nat:=match a with
 | .ref x=>some x
 | _=>none
def hasN(x:Nat)(l:List Nat):Bool:=aB5 false (λy _ ih=>aD0 y x||ih) l
def BV(as:List AV):List Nat:=aB5 [] (λa _ ih=>aD5 ih (λx=>bif hasN x ih then ih else x::ih) (Fi a)) as
def DZ(x:Nat)(l:List Nat):Option Nat:=aB5 none (λy _ ih=>bif aD0 y x then some 0 else ih.map aQ9) l
def Kx(l:List Nat)(x:Nat):Option AV:=(DZ x l).map .ref
def Pw(H:List (Nat×AO))(l:List Nat):Option (List Ob):=aB5 (some []) (λx _ ih=>((H.lookup x).bind AO.ins).bind λo=>ih.map (o :: ·)) l
def Nq(l:List Nat):List Ob->List (Nat×AO)->List (Nat×AO):=aB5 (λ_ H=>H) (λx _ ih os H=>aB5 H (λo t _=>ih t (Al H x o.ao)) os) l
def St.sets(σ:St)(l:List Nat)(os:List Ob):St:=⟨σ.ρ,Nq l os σ.H,σ.n,σ.anc⟩
def HN(tr:Ŕ)(as:List AV)(σ:St)(Q:AV->St->Prop):Prop:=Ab (Pw σ.H (BV as)) λos=>C1 os/\Ab (AD (Kx (BV as)) as) λas'=>tr as' os λr os'=>Q r (σ.sets (BV as) os')
def BE(tr:Ŕ)(as:List AV)(σ:St)(Q:AV->St->Prop):Prop:=HN tr as σ Q\/False
def GC(l:List Nat):Prop:=∀i j x:Nat,l[i]?=some x->l[j]?=some x->i=j
def Sq{y x:Nat}(e:y=x):aD0 y x=true:=by
 subst e
 exact Nat.beq_refl y
def Me{x:Nat}{l:List Nat}{i:Nat}(e:l[i]?=some x):hasN x l=true:=
 aB5 (motive:=λl=>∀i:Nat,l[i]?=some x->hasN x l=true) (λ_=>AA) (λy r ih i e=>Nat.casesOn (motive:=λi=>(y::r)[i]?=some x->(aD0 y x||hasN x r)=true) i (λe=>bO6 (· || hasN x r) (Sq (aA1 e))) (λi e=>(ih i e).symm▸Bool.or_true _) e) l i e
def On(as:List AV):GC (BV as):=by
 refine aB5 (motive:=λas=>GC (BV as)) (λ_ _ _=>AA) (λa r ih=>?_) as
 show GC (aD5 (BV r) (λx=>bif hasN x (BV r)then BV r else x::BV r) (Fi a))
 cases Fi a with
 | none=>exact ih
 | some x=>
  show GC (bif hasN x (BV r)then BV r else x::BV r)
  cases hx:hasN x (BV r)with
  | true=>exact ih
  | false=>
   have no :∀{i:Nat} {y:Nat},(BV r)[i]?=some y->x=y->False:=λe z=>aN7 (hx.symm.trans (Me (z▸e)))
   intro i j y e1 e2
   cases i with
   | zero=>cases j with
    | zero=>rfl
    | succ j=>exact(no e2 (aA1 e1)).elim
   | succ i=>cases j with
    | zero=>exact(no e1 (aA1 e2)).elim
    | succ j=>exact bO6 aQ9 (ih i j y e1 e2)
def DE{x:Nat}{l:List Nat} :∀{i:Nat},DZ x l=some i->l[i]?=some x:=by
 refine aB5 (motive:=λl=>∀{i:Nat},DZ x l=some i->l[i]?=some x) AA (λy r ih i e=>?_) l
 refine BF (b:=aD0 y x) (x:=some 0) e (λh e=>aA1 e▸bO6 some (aB4 h)) λe=>?_
 obtain⟨j,e1,rfl⟩:=map_some e
 exact ih e1
def Gd{x:Nat}{l:List Nat}{i:Nat}(u:GC l)(e:l[i]?=some x):DZ x l=some i:=by
 have h :∃j,DZ x l=some j:=aB5 (motive:=λl=>∀i:Nat,l[i]?=some x->∃j,DZ x l=some j) (λ_=>AA) (λy r ih i e=>by
  show∃j,(bif aD0 y x then some 0 else(DZ x r).map aQ9)=some j
  cases hb:aD0 y x with
  | true=>exact⟨0,rfl⟩
  | false=>cases i with
   | zero=>exact bO9 (hb.symm.trans (Sq (aA1 e))) (λz=>nomatch z)
   | succ i=>obtain⟨j,hj⟩:=ih i e;exact⟨j+1,by rw[hj];rfl⟩) l i e
 obtain⟨j,hj⟩:=h
 rw[hj,u i j x e (DE hj)]
def OY{H:List (Nat×AO)}{l:List Nat} :∀{os:List Ob},Pw H l=some os->os.length=l.length/\∀(i x:Nat),l[i]?=some x->∃o:Ob,os[i]?=some o/\H.lookup x=some o.ao:=by
 refine aB5 (motive:=λl=>∀{os:List Ob},Pw H l=some os->os.length=l.length/\∀(i x:Nat),l[i]?=some x->∃o:Ob,os[i]?=some o/\H.lookup x=some o.ao) (λ{os} e=>aA1 e▸⟨rfl,λ_ _=>AA⟩) (λy r ih os e=>?_) l
 obtain⟨o,e1,e⟩:=AF e
 obtain⟨t,e2,rfl⟩:=map_some e
 obtain⟨ao,e3,e4⟩:=AF e1
 refine⟨bO6 aQ9 (ih e2).1,λi x h=>?_⟩
 cases i with
 | zero=>exact⟨o,rfl,aA1 h▸e3.trans (bO6 some (AO.ins_eq e4))⟩
 | succ i=>exact(ih e2).2 i x h
def PC{l:List Nat} :∀{os:List Ob} {H:List (Nat×AO)} {y:Nat} {o:AO},GC l->os.length=l.length->(Nq l os H).lookup y=some o->(∃(i:Nat) (b:Ob),l[i]?=some y/\os[i]?=some b/\o=b.ao)\/(∀i:Nat,l[i]?≠some y)/\H.lookup y=some o:=by
 refine aB5 (motive:=λl=>∀{os:List Ob} {H:List (Nat×AO)} {y:Nat} {o:AO},GC l->os.length=l.length->(Nq l os H).lookup y=some o->(∃(i:Nat) (b:Ob),l[i]?=some y/\os[i]?=some b/\o=b.ao)\/(∀i:Nat,l[i]?≠some y)/\H.lookup y=some o) (λ{os H y o} _ _ h=>.inr ⟨λ_=>AA,h⟩) (λx r ih os H y o u hl h=>?_) l
 cases os with
 | nil=>cases hl
 | cons b t=>
  refine(ih (os:=t) (H:=Al H x b.ao) (λi j z e1 e2=>bK4 (u (i+1) (j+1) z e1 e2)) (bK4 hl) h).elim (λq=>q.elim λi q=>q.elim λc q=>.inl ⟨i+1,c,q⟩) λq=>?_
  exact CC q.2 (λe1 e2=>.inl ⟨0,b,bO6 some e1.symm,rfl,e2.symm⟩) λe1 e2=>.inr ⟨λi=>Nat.casesOn (motive:=λi=>(x::r)[i]?≠some y) i (λz=>e1 (aA1 z).symm) λi=>q.1 i,e2⟩
def VO{α β:Type}(o:Option α)(d:β)(f:α->β):β:=aD5 d f o
def C9{α β:Type}{o:Option α}{a:α}(e:o=some a)(d:β)(f:α->β):VO o d f=f a:=e▸rfl
def So(l:List Nat)(p:AT):AT:=match p with
 | .obj x=>VO (DZ x l) .lock .obj
 | .dict x=>VO (DZ x l) .lock .dict
 | _=>.lock
def DK(G:Ű)(l:List Nat):Ű:=⟨λa=>(G.tag a).map (So l),λi=>VO l[i]? 0 G.μ,λi=>VO l[i]? 0 G.δ⟩
section
variable{G:Ű}{l:List Nat}{i x:Nat}
def Gg(e:l[i]?=some x):(DK G l).μ i=G.μ x:=C9 e 0 G.μ
def JM(e:l[i]?=some x):(DK G l).δ i=G.δ x:=C9 e 0 G.δ
def D8{a:aC1}:(DK G l).own a↔G.own a:=by
 show(G.tag a).map _≠none↔G.tag a≠none
 cases G.tag a with
 | none=>exact Iff.rfl
 | some p=>exact⟨λ_ z=>(nomatch z),λ_ z=>nomatch z⟩
def Qp(u:GC l)(e:l[i]?=some x){a:aC1}(t:G.tag a=some (.obj x)):(DK G l).tag a=some (.obj i):=(bO6 (aD8 (So l)) t).trans (bO6 some (C9 (Gd u e) AT.lock AT.obj))
def PY(u:GC l)(e:l[i]?=some x){a:aC1}(t:G.tag a=some (.dict x)):(DK G l).tag a=some (.dict i):=(bO6 (aD8 (So l)) t).trans (bO6 some (C9 (Gd u e) AT.lock AT.dict))
def Gm{h:aF0}:Cj G h (DK G l) h:=λa o e q=>⟨e,λz=>q (D8.mp z)⟩
def Ha{h:aF0}:Cj (DK G l) h G h:=λa o e q=>⟨e,λz=>q (D8.mpr z)⟩
def LY{a:aC1}{p:AT}(t:(DK G l).tag a=some p):p = .lock\/∃i x,l[i]?=some x/\(p = .obj i/\G.tag a=some (.obj x)\/p = .dict i/\G.tag a=some (.dict x)):=by
 obtain⟨q,e,rfl⟩:=map_some t
 cases q with
 | obj x=>
  show VO (DZ x l) AT.lock AT.obj=_\/_
  cases hp:DZ x l with
  | none=>exact .inl rfl
  | some i=>exact .inr ⟨i,x,DE hp,.inl ⟨C9 hp AT.lock AT.obj,e⟩⟩
 | dict x=>
  show VO (DZ x l) AT.lock AT.dict=_\/_
  cases hp:DZ x l with
  | none=>exact .inl rfl
  | some i=>exact .inr ⟨i,x,DE hp,.inr ⟨C9 hp AT.lock AT.dict,e⟩⟩
 | _=>exact .inl rfl
end
section
variable{X:Cx}{c:Ž}{l:List Nat}{i x k:Nat}{o:Ob}
def Qe(R:ŵ X c)(u:GC l)(e:l[i]?=some x)(ho:c.σ.H.lookup x=some o.ao)(hs:AN nn o.2=some o.2):LV X.L (DK c.G l) c.s.heap k i o:=
 ⟨(bO6 _ (Gg e)).trans (Qp u e (R.obj x _ ho).tag),C6.sub (g:=nn) Gm (λ_ _=>AA) (Gg e) (JM e) (λ_=>id) (λt=>⟨λ_=>id,PY u e t⟩) o.ao o.ao (bO6 (aD8 (AO.inst o.1)) hs) (R.obj x _ ho).rel⟩
def MH{h:aF0}{n:Nat}{G:Ű}(e:l[i]?=some x)(t:G.tag (G.δ x)=some (.dict x))(hs:AN nn o.2=some o.2)(q:C6 X.L (DK G l) h k i o.ao):C6 X.L G h n x o.ao:=
 C6.sub (g:=nn) Ha (λ_ _=>AA) (Gg e).symm (JM e).symm (λ_=>id) (λ_=>⟨λ_=>id,(bO6 _ (JM e)).trans t⟩) o.ao o.ao (bO6 (aD8 (AO.inst o.1)) hs) q
def Fb(R:ŵ X c):X.h₀.objs.size<=c.s.heap.objs.size:=R.bsz
def Q4{d:Nat}{f:Value}{tr:Ŕ}(hf:BP X.L X.h₀ d f tr){A:aH7}(hA:CY d A){as:List AV}{Q:AV->St->Prop}(h:HN tr as c.σ Q){vas:List Value}(R:ŵ X c)(ra:Ŧ X c as vas) :
  Kk X.L A f c.s/\aM9 (aD9 X.L.prog X.L.w) A (.call f ⟨vas,[]⟩) (CS (A1 X (VR X) c Q)) c.s:=by
 refine AC h λos e1 h=>AC h.2 λas' e2 ht=>?_
 have hs:=h.1
 obtain⟨hl,hg⟩:=OY e1
 have u:=On as
 generalize BV as=l at hl hg u e2 ht
 have hd :∀{i x},l[i]?=some x->∃o:Ob,os[i]?=some o/\c.σ.H.lookup x=some o.ao/\c.G.tag (c.G.δ x)=some (.dict x)/\c.G.tag (c.G.μ x)=some (.obj x):=λ{i x} e=>(hg i x e).imp λo q=>⟨q.1,q.2,(R.obj x _ q.2).rel.tagd rfl,(R.obj x _ q.2).tag⟩
 have li :∀{i} {o:Ob},os[i]?=some o->∃x,l[i]?=some x:=λ{i o} e=>⟨_,aA6 (hl▸(aA5.mp e).1)⟩
 have D:Kf (DK c.G l) X.h₀ c.s:=⟨λa e=>R.ownB a (D8.mp e),λa e=>R.ownLt a (D8.mp e),R.base,Fb R⟩
 have hV:A2 X.L (DK c.G l) c.s.heap os.length as' vas:=A2.sub Gm (λy w e hy=>by
  obtain⟨j,e3,rfl⟩:=map_some e
  obtain⟨o,h1,_⟩:=hd (DE e3)
  exact⟨bO6 _ (Gg (DE e3)).symm,(aA5.mp h1).1⟩) e2 ra
 obtain⟨c1,c2⟩:=hf hA D (λi o e=>(li e).elim λx ex=>(hd ex).elim λo' q=>Qe R u ex (aA1 (e.symm.trans q.1)▸q.2.1) (hs i o e)) hV ht
 refine⟨c1,aK6 c2 λr s'=>CS.mono λv s' hb=>hb.casesOn λr os' hq hrs hol hoc hkeep hsz hg' ho hO hr=>?_⟩
 have x:Cb X c ⟨c.G,⟨c.σ.ρ,Nq l os' c.σ.H,c.σ.n,c.σ.anc⟩,s'⟩:=R.chgs (S:=λp=>∃i x,l[i]?=some x/\(p = .obj x\/p = .dict x)) (λp q=>q.elim λi q=>q.elim λx q=>⟨x,q.2⟩)
  (λb o e q=>hkeep b o e λz=>z.elim λp z=>(LY z.1).elim z.2 λw=>w.elim λi w=>w.elim λx w=>w.2.elim (λw'=>q _ w'.2 ⟨i,x,w.1,.inl rfl⟩) λw'=>q _ w'.2 ⟨i,x,w.1,.inr rfl⟩) hsz rfl hg' ho rfl rfl rfl λy o e=>(PC u (hol.trans hl) e).elim
   (λq=>.inl λp=>by
    obtain⟨i,b,q1,Ľ,rfl⟩:=q
    obtain⟨o,h1,h2,h3,ō⟩:=hd q1
    exact⟨(R.obj y _ h2).lt,ō,MH q1 h3 (hoc i b Ľ) (hO i b Ľ)⟩)
   λq=>.inr ⟨λz=>z.elim λi z=>z.elim λx z=>z.2.elim (λw=>q.1 i (by cases w;exact z.1)) λw=>(nomatch w),λz=>z.elim λi z=>z.elim λx z=>z.2.elim (λw=>(nomatch w)) λw=>q.1 i (by cases w;exact z.1),q.2⟩
 exact .to x (hr.shut Ha hrs) hq
def Ff{d:Nat}{f:Value}{tr:Ŕ}(hf:BP X.L X.h₀ d f tr){A:aH7}(hA:CY d A){as:List AV}{Q:AV->St->Prop}(h:BE tr as c.σ Q){vas:List Value}(R:ŵ X c)(ra:Ŧ X c as vas) :
  Kk X.L A f c.s/\aM9 (aD9 X.L.prog X.L.w) A (.call f ⟨vas,[]⟩) (CS (A1 X (VR X) c Q)) c.s:=h.elim (λh=>Q4 hf hA h R ra) aA8
theorem CS.call{L:CU}{A:aH7}{s:aA7}{f:Value}{vas:List Value}{B:Value->aA7->Prop}(h:aM9 (aD9 L.prog L.w) A (.call f ⟨vas,[]⟩) (CS B) s):aD2 (aD9 L.prog L.w) A (call f vas []) B (λ_ _=>False) s:=
 aR9 (aK6 h λr s' x=>x.elim λv x=>x.1▸x.2)
def WY{d:Nat}{f:Value}{tr:Ŕ}(hf:BP X.L X.h₀ d f tr)(hA:CY d X.A){as:List AV}{Q:AV->St->Prop}(h:BE tr as c.σ Q){vas:List Value}(R:ŵ X c)(ra:Ŧ X c as vas):Ve X c Q f vas:=
 ⟨(Ff hf hA h R ra).1,CS.call (Ff hf hA h R ra).2⟩
def Vp(D:aC1)(trI:Ŕ)(as:List AV)(σ:St)(Q:AV->St->Prop):Prop:=BE trI (.ref σ.n::as) (σ.new (.inst D [])) λr σ'=>r = .none/\Q (.ref σ.n) σ'
def Kn{A:aH7}{d:Nat}{C:aC1}{rest:List Value}(hA:CY (d+1) A):CY d (A.under (.builtin "type.__call__" ⟨.ref C::rest,[]⟩)):=by
 refine⟨hA.1,?_,?_⟩
 ·show A.depth+1+d<_
  have:=hA.2.1;exists 3,0x21180aa12181a0a18,this
 ·have e:(bD0 "type.__call__" ⟨.ref C::rest,[]⟩).cUnits<=4:=by
   have h :∀n:Nat,n<=1->1+3*n<=4:=λn hn=>by exists 1,0x48003c18a018008,hn
   unfold bO3.cUnits
   refine h _ ?_
   have e:(bD0 "type.__call__" ⟨.ref C::rest,[]⟩).frames=if(bD0 "type.__call__" ⟨.ref C::rest,[]⟩).isFrame then 1 else 0:=by rfl'
   rw[e]
   split<;>decide
  show A.units+(bD0 "type.__call__" ⟨.ref C::rest,[]⟩).cUnits+10*d+40<_
  have:=hA.2.2;exists 4,0x3000028920ac01aaa130000289182a0ac1aa1848008,e,this
def Ž.addI(c:Ž)(C:aC1):Ž:=
 ⟨((c.G.put c.s.heap.objs.size (.dict c.σ.n)).put (c.s.heap.push emptyDict).objs.size (.obj c.σ.n)).name c.σ.n (c.s.heap.push emptyDict).objs.size c.s.heap.objs.size,c.σ.new (.inst C []),{c.s with heap:=(c.s.heap.push emptyDict).push (instObj C c.s.heap.objs.size)}⟩
def ŵ.allocI(R:ŵ X c)(C:aC1):Cb X c (c.addI C):=by
 have z:=aE3 c.s.heap emptyDict
 have ne:c.s.heap.objs.size≠(c.s.heap.push emptyDict).objs.size:=z▸aE5 (aC2 _)
 have td:(c.addI C).G.tag c.s.heap.objs.size=some (.dict c.σ.n):=(Ű.put_ne ne).trans Ű.put_at
 exact R.more (λ_ _ e=>aB1 _ (aB1 _ e)) (aA3 (Cu _) (Cu _)) (λa l=>(Ű.put_ne (z▸aE5 (aG5 l))).trans (Ű.put_ne (aE5 l))) (Ix (n:=0) (Ix (n:=0) R.ownLt _) _) (λx hx=>Ű.name_nm x hx) (aK1 _) rfl rfl rfl rfl
  λx o' e=>CC e (λhx hw=>.inr λp=>hx▸hw▸⟨aC2 _,(bO6 _ Ű.name_mu).trans Ű.put_at,⟨[],0,by
   rw[show(c.addI C).G.μ c.σ.n=_ from Ű.name_mu,show(c.addI C).G.δ c.σ.n=_ from Ű.name_de]
   exact aC4 _ rfl,(bO6 _ Ű.name_de).trans (aB1 _ (aC4 _ rfl)),rfl,(bO6 _ Ű.name_de).trans td⟩⟩) λ_ e=>.inl e
def Z7{d:Nat}{C fI:aC1}{trI:Ŕ}{K:bE8}(hK:K.In X.h₀)(hm:makesIn K C=true)(hi:findIn K (.ref C) "__init__" = some (some (.ref fI)))(hfn:isFn K (.ref fI)=true)
  (hkp:keepIn K (.ref C)=true) (hf:BP X.L X.h₀ d (.ref fI) trI) (hA:CY (d+1) X.A) {as:List AV} {Q:AV->St->Prop} (h:Vp C trI as c.σ Q) {vas:List Value} (R:ŵ X c) (ra:Ŧ X c as vas):Ve X c Q (.ref C) vas:=by
 have Xs:K.In c.s.heap:=hK.keeps R.base
 refine⟨λQ' E' hq=>?_,?_⟩
 ·unfold keepIn at hkp
  simp only at hkp
  split at hkp
  ·rename_i o1 ĩ fd o3 ho
   unfold bD8
   exact aA2 (aQ7 (Xs _ _ ho) (aA4 (hq _)))
  ·rename_i o1 ĩ cd o3 ho
   unfold bD8
   refine aA2 (aQ7 (Xs _ _ ho) ?_)
   exact aA2 (((looks_specialIn Xs (beq_iff_eq.mp hkp)).here (aA4 (hq _))))
  ·cases hkp
 have x:=R.allocI C
 have e1:(c.addI C).G.μ c.σ.n=c.s.heap.objs.size+1:=Ű.name_mu.trans (aE3 ..)
 have c2:=(Ff (c:=c.addI C) hf (Kn (C:=C) (rest:=vas) hA) h x.R (vas:=.ref (c.s.heap.objs.size+1)::vas) ⟨_,vas,rfl,⟨bO6 _ e1.symm,aC2 _⟩,x.pre.va ra⟩).2
 refine CS.call (make_core (makes_of Xs hm) (looks_findIn Xs hi) (λself=>bind_fn Xs self (beq_iff_eq.mp hfn)) (.inl rfl) (aK6 c2 λr s' hr=>?_))
 obtain⟨v,rfl,hr⟩:=hr
 cases hr with
 | mk G₂ σ₂ b x₂ r₂ q=>
 obtain⟨rfl,q⟩:=q
 exact⟨r₂,_,rfl,.to (c':=⟨G₂,σ₂,s'⟩) (b:=AV.ref c.σ.n) (x.trans x₂) ⟨bO6 _ (((x₂.pre.nm c.σ.n (aC2 _)).1.trans e1).symm),aB3 (aC2 _) x₂.pre.n⟩ q⟩
end
end Mine
end
section
open PySem PySem.W PyProof.Rows PySem.Spec PySem.Calls PySem.SeqAt
namespace Mine
structure Hd(h₀:aF0)(C fN:aC1):Prop extends MatC h₀ C where
 typ :∀M,aF4 M h₀ (isType (.ref C)) true
 len :∀M,aF4 M h₀ (aI2 (.ref C) "__len__") (some (.builtin "tuple.__len__"))
 lt :∀M,aF4 M h₀ (aI2 (.ref C) "__lt__") (some (.builtin "tuple.__lt__"))
 base :∀M,aF4 M h₀ (Bind.staticBase (.ref C)) (.type "tuple")
 init :∀M,aF4 M h₀ (aI2 (.ref C) "__init__") (some (.builtin "object.__init__"))
 obj :∃oc od cd sl,h₀.get? C=some ⟨oc,od,.cls cd,sl⟩/\cd.hasDel=false/\cd.mro.isEmpty=false
 made :∀M,aF4 M h₀ (bE4 (.ref C)) none
 call :∀M,aF4 M h₀ (bD3 (.ref C) "__call__") (some (.builtin "type.__call__"))
 inst :∀M,aF4 M h₀ (aW6 (.ref C) (.type "type")) true
 self :∀M,aF4 M h₀ (aR1 (.ref C) (.ref C)) true
 top :∀M,aF4 M h₀ (aR1 (.ref C) (.type "object")) true
section
variable{prog:aG3}{w:aB9}{A:aH7}{E:Value->aA7->Prop}{s:aA7}{h₀:aF0}{C fN:aC1}
def L9{Q:List Value->aA7->Prop}(it:aC1){T:String}{o:Obj}{items:Array Value}{n:Nat}(hT:T = "list"\/T = "tuple")
  (ho:s.heap.get? it=some o) (hc:o.cls = .type T) (hd:o.data = .seq items n) (hsz:items.size<=bB5)
  (hQ:Q items.toList {s with heap:=(s.heap.push {cls:=.type "list",data:=.seq ([]:List Value).toArray}).update s.heap.objs.size (aK4 (· ++ items))}) :
  aD2 (aD9 prog w) A (collect (.ref it)) Q E s:=by
 unfold collect
 refine aA2 (wpAny_runValue (aS5 F.entry_proto_collect ?_))
 rw[aO4 F.plain_proto_collect _]
 refine aA2 (aH8 ?_)
 refine aA4 ⟨bB2 F.plain_list_iadd _,aS5 F.entry_list_iadd ?_⟩
 rw[aO4 F.plain_list_iadd _]
 have hS:(s.heap.push {cls:=.type "list",data:=.seq ([]:List Value).toArray}).get? s.heap.objs.size=some {cls:=.type "list",data:=.seq #[] 0}:=aC4 _ rfl
 have hS₂:=aI7 (aK4 (· ++ items)) hS rfl
 have last :∀(r:bD7) (s':aA7),r = .ok (.ret (.ref s.heap.objs.size))/\s' = {s with heap:=(s.heap.push {cls:=.type "list",data:=.seq ([]:List Value).toArray}).update s.heap.objs.size (aK4 (· ++ items))}->
   (match r with | .ok (.ret v)=>aD2 (aD9 prog w) A (match v with
     | aN2 a=>do
      match(<-load a).data with
       | Data.seq xs _=>pure xs.toList
       | _=>unsupported "internal:collect"
     | _=>unsupported "internal:collect") Q E s' | .ok _=>False | .error e=>E e s'):=by
  rintro r s' ⟨rfl,rfl⟩
  refine aA2 (aQ7 hS₂ (aA4 ?_))
  have e:((#[]:Array Value)++items).toList=items.toList:=by simp
  show Q ((#[]:Array Value)++items).toList _
  rw[e];exact hQ
 have ext:=wpAny_extend_seq (prog:=prog) (w:=w) (hsz:=hsz) (A:=A) (R:=λr s'=>r = .ok (.ret (.ref s.heap.objs.size))/\s' = {s with heap:=(s.heap.push {cls:=.type "list",data:=.seq ([]:List Value).toArray}).update s.heap.objs.size (aK4 (· ++ items))})
  (s:={s with heap:=s.heap.push {cls:=.type "list",data:=.seq ([]:List Value).toArray}}) _ it _ 0 hT hS (aB1 _ ho) hc hd ⟨rfl,rfl⟩
 refine aP5 ext (λfin s' h=>?_) (λe s' h=>bO9 h.1 (by simp))
 cases fin with
 | done f=>exact last _ _ h
 | again c'=>exact⟨h.1,aK6 h.2 λr s'' hr=>last _ _ hr⟩
def Wn:bH9 "tuple.__new__" = some .builtinFn:=by decide +kernel
def Yk:splitId "tuple.__new__" = some ("tuple","__new__"):=by decide +kernel
def HF:bE4 (.type "tuple")=pure (some "tuple.__new__"):=F.called_tuple.made
def GX{t:Value}{Q:Unit->aA7->Prop}{M:bE3}(N:Hd h₀ C fN)(hk :∀b o,h₀.get? b=some o->s.heap.get? b=some o)(q:Q () s):aD2 M A (checkBuiltinCall "tuple.__new__" ⟨[.ref C,t],[]⟩) Q E s:=by
 obtain⟨hh,g,dd,tt,os⟩:=s
 have l1:=(N.typ M).keeps hk
 have l2:=(N.sub M).keeps hk
 have l3:=(N.base M).keeps hk
 have ŗ:aF4 M hh (bE4 (.type "tuple")) (some "tuple.__new__"):=bB3 HF
 unfold checkBuiltinCall
 rw[Wn,Yk]
 repeat (first | dsimp only[bE9,aI3,dreduceIte,bne_self_eq_false] | lk)
 exact q
def OR(args:Args):(bD0 "tuple.__new__" args).quiet=true:=bD4 _ (by decide +kernel)
def Hz{R:bD7->aA7->Prop}{t:aC1}{us:List Value}{k:Nat}(N:Hd h₀ C fN)(hk :∀b o,h₀.get? b=some o->s.heap.get? b=some o)(ht:s.heap.get? t=some (Ao us k))(hsz:us.length<=1000)
  (hq :∀(h':aF0) (dd:Option aC1),(∀b o,s.heap.get? b=some o->h'.get? b=some o)->s.heap.objs.size<=h'.objs.size->R (.ok (.ret (.ref h'.objs.size))) {s with heap:=h'.push (BW C us (0,dd))}) :
  aM9 (aD9 prog w) A (.call (.builtin "tuple.__new__") ⟨[.ref C,.ref t],[]⟩) R s:=by
 obtain⟨hh,g,dd,tt,os⟩:=s
 refine aX3 (OR _) F.entry_tuple_new (GX N hk ?_)
 have l1:=(N.typ (aD9 prog w)).keeps hk
 have l2:=(N.sub (aD9 prog w)).keeps hk
 have l3:=(N.base (aD9 prog w)).keeps hk
 have ŗ:aF4 (aD9 prog w) hh (bE4 (.type "tuple")) (some "tuple.__new__"):=bB3 HF
 have Ź:=(N.init (aD9 prog w)).keeps hk
 unfold aE0.«tuple.__new__» Bind.madeHere
 have l6:=hk C
 obtain⟨oc,od,cd,sl,c1,c2,c3⟩:=N.obj
 have hC:=hk _ _ c1
 have ht:hh.get? t=some (Ao us k):=ht
 repeat (first | dsimp only[bE9,aI3,dreduceIte] | with_reducible refine L9 t (.inr rfl) ht rfl rfl (by simp[bB5];omega) ?_ | lk)
 have e:(us.toArray.toList.toArray:Array Value)=us.toArray:=by simp
 generalize hh2:(hh.push {cls:=.type "list",data:=.seq ([]:List Value).toArray}).update hh.objs.size (aK4 (· ++ us.toArray))=h2
 have k2 :∀b o,hh.get? b=some o->h2.get? b=some o:=λb o e=>by
  rw[<-hh2];exact(aJ7 _ _ (aJ6 (aI8 e))).trans (aB1 _ e)
 have s2:hh.objs.size<=h2.objs.size:=by rw[<-hh2,aJ9,aE3];exact aK1 _
 have hC2:=k2 _ _ hC
 rw[bO8 (by simp[bB5];omega)]
 unfold newObjAsIs classHasDel
 refine aA2 (wpAny_alloc (aA2 (aA2 (aQ7 (aB1 _ (aB1 _ hC2)) (aA4 ?_)))))
 rw[c2]
 refine aA4 (aA4 ?_)
 have:=hq (h2.push {cls:=.type "dict",data:=.dict #[]}) (some h2.objs.size) (λb o e=>aB1 _ (k2 b o e)) (aA3 s2 (by rw[aE3];exact aK1 _))
 exact this
def Oh(a b c d:Value):aW7 "object.__init__" ⟨[a,b,c,d],[]⟩:=by unfold aW7;rfl'
structure ZS(K:bE8)(C fN st:aC1):Prop where
 reads:readsIn K C (.type "type")=true
 new:findCls K (.ref C) (.type "type") "__new__" = some (.get (.builtin "staticmethod.__get__") (.ref st) .none (.ref C))
 sm :∃rest,recIn K st "staticmethod" = some (.ref fN::rest)
def QA{K:bE8}{R:Value->aA7->Prop}{a b c:Value}{st:aC1}(X:K.In s.heap)(N:Hd h₀ C fN)(hk :∀b o,h₀.get? b=some o->s.heap.get? b=some o)(Y:ZS K C fN st)
  (hq :∀t,aM9 (aD9 prog w) (A.under (.builtin "type.__call__" ⟨.ref C::[a,b,c],[]⟩)) (.call (.ref fN) ⟨[.ref C,a,b,c],[]⟩) (CS λv s'=>R v s'/\(∀b o,h₀.get? b=some o->s'.heap.get? b=some o)/\∃m us k,v = .ref m/\s'.heap.get? m=some (BW C us k)) {s with toks:=t}) :
  aM9 (aD9 prog w) A (.call (.ref C) ⟨[a,b,c],[]⟩) (CS R) s:=by
 obtain⟨hh,g,dd,tt,os⟩:=s
 obtain⟨oc,od,cd,sl,c1,c2,c3⟩:=N.obj
 have hC:=hk _ _ c1
 have call:=(N.call (aD9 prog w)).keeps hk
 have typ:=(N.inst (aD9 prog w)).keeps hk
 have made:=(N.made (aD9 prog w)).keeps hk
 refine bH0 ?_
 show aD2 _ _ (callAny (.ref C) _) _ _ _
 refine nd_load hC ?_
 show aD2 _ _ (callAny.viaDunder (.ref C) _) _ _ _
 unfold callAny.viaDunder
 refine aA2 (call.at ?_)
 dsimp only
 rw[tc_bind]
 refine aA2 (aA4 (aA2 (aA4 ?_)))
 refine aA4 (a:=Fin.again (.call (.builtin "type.__call__") ⟨.ref C::[a,b,c],[]⟩)) (And.intro rfl ?_)
 refine aX3 (bD4 _ (by decide +kernel)) entry_typeCall (bM7 tc_kind tc_split typ (tc_args _ _ _) ?_)
 unfold aE0.«type.__call__»
 have hm:aF4 (aD9 prog w) hh (mroOf (.ref C)) cd.mro:=((bM9 (part:=none) hC).andThen .now).andThen .now
 have X:K.In hh:=X
 obtain⟨rest,hsm⟩:=Y.sm
 repeat (first | dsimp only[aI3,dreduceIte] | simp only[c3] | with_reducible refine cls_bind (s:=⟨hh,g,dd,tt,os⟩) X Y.reads Y.new (aR9 (sm_get X hsm ?_)) | with_reducible refine aR9 (aK6 (hq _) λr s' hr=>?_) | lk)
 obtain⟨_,rfl,h1,h2,m,us,k,rfl,h3⟩:=hr
 obtain⟨hh',g',dd',tt',os'⟩:=s'
 have h3:hh'.get? m=some (BW C us k):=h3
 have tm:aF4 (aD9 prog w) hh' (typeOf (.ref m)) (.ref C):=(bM9 h3).andThen .now
 have self:=(N.self (aD9 prog w)).keeps h2
 have init:=(N.init (aD9 prog w)).keeps h2
 have top:=(N.top (aD9 prog w)).keeps h2
 have made':=(N.made (aD9 prog w)).keeps h2
 unfold aW6 callSpecial? bD3
 repeat (first | dsimp only[bE9,aI3,dreduceIte] | with_reducible refine aR9 ?_ | lk)
 have ti:aF4 (aD9 prog w) hh' (aW6 (.ref m) (.type "object")) true:=tm.andThen top
 refine aM4 oi_plain entry_oi (@bM7 (aD9 prog w) _ _ _ "object.__init__" "object" "__init__" (.ref m) [a,b,c] [] _ oi_kind oi_split ti (Oh _ _ _ _) ?_)
 unfold aE0.«object.__init__»
 repeat (first | dsimp only[bE9,aI3,dreduceIte,bne_self_eq_false] | lk)
 exact⟨_,rfl,h1⟩
end
section
variable{prog:aG3}{w:aB9}{A:aH7}{E:Value->aA7->Prop}{s:aA7}
def OG:opaqueClassAbove (.type "tuple")=pure none:=by rfl'
def LG:typeOf (.type "tuple")=pure (.type "type"):=by rfl'
def Ov:bD3 (.type "tuple") "__getattribute__" = pure (some (.builtin "type.__getattribute__")):=by
 unfold bD3
 rw[LG]
 show aI2 (.type "type") "__getattribute__" = _
 rw[aH0,aE9];rfl'
def PQ:hookBefore (.type "type")=pure none:=by rfl'
def R5:findCls [] (.type "tuple") (.type "type") "__new__" = some (.val (.builtin "tuple.__new__")):=by rfl'
def YR(h:aF0):bE8.In [] h:=λa o e=>by cases e
def HC{expr:Bool}{Q:Value->aA7->Prop}(h:Q (.builtin "tuple.__new__") {s with toks:=s.toks+1}):aD2 (aD9 prog w) A (aY7 (.type "tuple") "__new__" expr) Q E s:=
 cls_open (K:=[]) (mc:=.type "type") (hook:=none) (YR _) (bB3 OG) (bB3 LG) (by rfl') (bB3 PQ) (by rfl') R5
  (aA4 (by show aD2 _ _ (handedOut _) _ _ _;rw[handedOut_of rfl];exact aA4 h))
def IP{pl:Sem Bool}{Q:Value×List Value->aA7->Prop}(h :∀t,Q (.builtin "tuple.__new__",[]) {s with toks:=t}):aD2 (aD9 prog w) A (aX6 (.type "tuple") "__new__" pl) Q E s:=by
 unfold aX6
 rw[Ov]
 refine aA2 (aA4 ?_)
 dsimp only
 rw[bO7 canon_tga]
 exact aA2 (aP5 (HC (Q:=λv s'=>Q (v,[]) s') (h _)) (λ_ _ z=>aA4 z) λ_ _ z=>z)
end
noncomputable def KC(a:AV):Option Bi:=match a with
 | .fn b=>some b
 | _=>none
noncomputable def I5(a:AV):Option aC1:=match a with
 | .glo b=>some b
 | _=>none
def G8{P:AV->Prop}{a:AV}{b:Bi}(e:KC a=some b)(f:P (.fn b)):P a:=
 AV.casesOn (motive_1:=λa=>KC a=some b->P a) a AA (λ_=>AA) (λ_=>AA) (λ_ _=>AA) (λ_=>AA) (λ_ e=>aA1 e▸f) (λ_=>AA) (λ_ _=>AA) (λ_=>AA) (λ_=>AA) AA e
def H3{P:AV->Prop}{a:AV}{b:aC1}(e:I5 a=some b)(f:P (.glo b)):P a:=
 AV.casesOn (motive_1:=λa=>I5 a=some b->P a) a AA (λ_=>AA) (λ_=>AA) (λ_ _=>AA) (λ_=>AA) (λ_=>AA) (λ_ e=>aA1 e▸f) (λ_ _=>AA) (λ_=>AA) (λ_=>AA) AA e
def Sr(C:aC1)(as:List AV)(σ:St)(Q:AV->St->Prop):Prop:=Ap as λc as=>Ab (I5 c) λa=>Ap as λt as=>nil as (Ab (FS t) λvs=>Dp (aD0 a C&&aV2 vs.length 1000) (Q (.mat vs) σ))
def Im(C:aC1):Ŕ:=λas os Q=>∃a b c,as=[.glo C,a,b,c]/\os=[]/\(a.sub nn=some a/\b.sub nn=some b/\c.sub nn=some c)/\Q (.mat [a,b,c]) []
def Mx(as:List AV)(σ:St)(Q:AV->St->Prop):Prop:=Ap as λa as=>Ap as λb as=>Ap as λc as=>nil as ((a.sub nn=some a/\b.sub nn=some b/\c.sub nn=some c)/\Q (.mat [a,b,c]) σ)
def Lr{a:AV}(h:a.sub nn=some a):Fi a=none:=
 AV.casesOn (motive_1:=λa=>a.sub nn=some a->Fi a=none) a (λ_=>rfl) (λ_ _=>rfl) (λ_ _=>rfl) (λ_ _ _=>rfl) (λ_=>AA) (λ_ _=>rfl) (λ_ _=>rfl) (λ_ _ _=>rfl) (λ_ _=>rfl) (λ_ _=>rfl) (λ_=>rfl) h
def OQ{as:List AV}:AD nn as=some as->BV as=[]:=
 aB5 (motive:=λas=>AD nn as=some as->BV as=[]) (λ_=>rfl) (λa r ih e=>by
  obtain⟨a',e1,e⟩:=AF e
  obtain⟨r',e2,e⟩:=map_some e
  cases e
  show aD5 (BV r) _ (Fi a)=[]
  rw[Lr e1]
  exact ih e2) as
def QM:Kx []=nn:=rfl
section
variable{X:Cx}{c:Ž}{fN st:aC1}{Q:AV->St->Prop}
def A1.newMat{vs:List AV}{us:List Value}{h':aF0}{dd:Option aC1}{d:Nat}(t:Nat)(R:ŵ X c)(r:Ŧ X c vs us)(hk :∀b o,c.s.heap.get? b=some o->h'.get? b=some o)(hs:c.s.heap.objs.size<=h'.objs.size)(q:Q (.mat vs) c.σ) :
  A1 X (VR X) c Q (.ref h'.objs.size) {c.s with heap:=h'.push (BW X.L.C us (d,dd)),toks:=t}:=by
 have x:=R.grow (h':=h'.push (BW X.L.C us (d,dd))) t (λb o e=>aB1 _ (hk b o e)) (aA3 hs (Cu _))
 exact .to (b:=AV.mat vs) x ⟨_,us,rfl,⟨(d,dd),aC4 _ rfl⟩,λz=>bO9 (R.ownLt _ z) (aM3.mpr hs),x.pre.va r⟩ q
def US{as:List AV}(N:Hd X.h₀ X.L.C fN)(h:Sr X.L.C as c.σ Q){vas:List Value}(R:ŵ X c)(ra:Ŧ X c as vas):ŝ X c Q (call (.builtin "tuple.__new__") vas []):=
 AX h ra λa as va vas ra rr h=>AC h λb e1 h=>AX h rr λt as vt vas rt rr h=>BU h rr λh=>AC h λvs e2 h=>by
  obtain⟨hc,h⟩:=A4 h
  obtain⟨h1,h2⟩:=AL hc
  have hb:va = .ref b:=H3 (P:=λa=>VR X c a va->va = .ref b) e1 id ra
  subst hb
  rw[aB4 h1]
  exact Di (P:=λvt=>ŝ X c Q (call (.builtin "tuple.__new__") [.ref X.L.C,vt] [])) e2 rt λl us k p1 p2=>aR9 (Hz N R.base p1 (p2.len▸aK5 h2) λh' dd hk hs=>.newMat c.s.toks R p2 hk hs h)
def PV{K:bE8}{v:aC1}{A:aH7}{s:aA7}(Xs:K.In s.heap)(hkp:keepIn K (.ref v)=true):Kk X.L A (.ref v) s:=λQ' E' hq=>by
 unfold keepIn at hkp
 simp only at hkp
 split at hkp
 ·rename_i o1 ĩ fd o3 ho
  unfold bD8
  exact aA2 (aQ7 (Xs _ _ ho) (aA4 (hq _)))
 ·rename_i o1 ĩ cd o3 ho
  unfold bD8
  refine aA2 (aQ7 (Xs _ _ ho) ?_)
  exact aA2 (((looks_specialIn Xs (beq_iff_eq.mp hkp)).here (aA4 (hq _))))
 ·cases hkp
def Pp{d:Nat}{K:bE8}(hK:K.In X.h₀)(N:Hd X.h₀ X.L.C fN)(Y:ZS K X.L.C fN st)(hkp:keepIn K (.ref X.L.C)=true)(hf:BP X.L X.h₀ d (.ref fN) (Im X.L.C))(hA:CY (d+1) X.A)
  {as:List AV} (h:Mx as c.σ Q) {vas:List Value} (R:ŵ X c) (ra:Ŧ X c as vas):Ve X c Q (.ref X.L.C) vas:=by
 refine⟨PV (hK.keeps R.base) hkp,?_⟩
 refine AX h ra λa as va vas r1 ra h=>AX h ra λb as vb vas r2 ra h=>AX h ra λd' as vd vas r3 ra h=>BU h ra λh=>CS.call (QA (hK.keeps R.base) N R.base Y λt=>?_)
 have x:=R.toks t
 have hs:AD nn [.glo X.L.C,a,b,d']=some [.glo X.L.C,a,b,d']:=Cw rfl (Cw h.1.1 (Cw h.1.2.1 (Cw h.1.2.2 rfl)))
 have w1:BE (Im X.L.C) [.glo X.L.C,a,b,d'] c.σ λr σ'=>(∃vs,r = .mat vs)/\Q r σ':=by
  unfold BE HN
  left
  rw[OQ hs]
  refine⟨λ_ _=>AA,?_⟩
  rw[QM,hs]
  exact⟨a,b,d',rfl,rfl,h.1,⟨_,rfl⟩,h.2⟩
 refine aK6 (Ff (c:=c.hp c.σ c.s.heap t) hf (Kn (C:=X.L.C) (rest:=[va,vb,vd]) hA) w1 x.R (vas:=[.ref X.L.C,va,vb,vd]) ⟨_,_,rfl,rfl,x.pre.va ⟨va,_,rfl,r1,vb,_,rfl,r2,vd,_,rfl,r3,rfl⟩⟩).2 λr s'=>CS.mono λv s' hp=>?_
 cases hp with
 | mk G' σ' bb y rr q=>
 obtain⟨⟨vs,rfl⟩,q⟩:=q
 exact⟨.to (c':=⟨G',σ',s'⟩) (b:=AV.mat vs) (x.trans y) rr q,y.R.base,rr.casesOn λa' us hv hp _ _=>hp.elim λe he=>⟨a',us,e,hv,he⟩⟩
end
def Bx:bO5 "map" "__next__" "map.__next__":=
 bO2 (T:="map") (name:="__next__") (owner:="map") (n:="__next__") (by rw[aH0,aE9];rfl') (by decide +kernel) (by decide +kernel) (by decide +kernel) (.inl (by decide +kernel)) (by rw[aL2];rfl')
def EV:bB6 table "map.__next__" = some aE0.«map.__next__»:=aV1 (by rfl')
def Eu(a:Value):aW7 "map.__next__" ⟨[a],[]⟩:=by unfold aW7;rfl'
def G1:aI2 (.type "map") "__iter__" = pure (some (.builtin "map.__iter__")):=by rw[aH0,aE9];rfl'
def Nj:mroOf (.type "map")=pure [.type "map",.type "object"]:=by rw[mroOf_type];rfl'
def HR:aI2 (.type "map") "__new__" = pure (some (.builtin "map.__new__")):=by rw[aH0,aE9];rfl'
def IF:bO5 "map" "__init__" "object.__init__":=
 bO2 (T:="map") (name:="__init__") (owner:="object") (n:="__init__") (by rw[aH0,aE9];rfl') (by decide +kernel) (by decide +kernel) (by decide +kernel) (.inl (by decide +kernel)) (by rw[aL2];rfl')
def MP:TypeCalled "map" "map.__new__" "object.__init__":=
 ⟨by decide +kernel,by decide +kernel,⟨_,_,Nj⟩,madeBy_type Nj HR (by decide +kernel),by decide +kernel,by rw[aL2];rfl',IF⟩
def HT(a b:Value):checkTypeCall "map" ⟨[a,b],[]⟩=pure ():=by rfl'
def IN(a b:Value):checkBuiltinCall "map.__new__" ⟨[.type "map",a,b],[]⟩=pure ():=by rfl'
def IE:bB6 table "map.__new__" = some aE0.«map.__new__»:=aV1 (by rfl')
def IC(obj a b:Value):aW7 "object.__init__" ⟨[obj,a,b],[]⟩:=by unfold aW7;rfl'
def Op:aI2 (.type "map") "__len__" = pure none:=by rw[aH0,aE9];rfl'
def Lx:aI2 (.type "map") "__length_hint__" = pure none:=by rw[aH0,aE9];rfl'
noncomputable def By(l:aC1)(i:Nat):Obj:={cls:=.type "list_iterator",data:=.fields #[.ref l,.int i 0]}
noncomputable def Cd(T:aC1)(f:Value):Obj:={cls:=.type "map",data:=.fields #[.ref T,f]}
def V1:aR1 (.type "map") (.type "map")=pure true:=by rw[aL2];rfl'
section
variable{prog:aG3}{w:aB9}{A:aH7}{E:Value->aA7->Prop}{s:aA7}
def IA(l:aC1)(us:List Value)(k:Nat)(f:Value) :
  Meets (aE0.«map.__new__» ⟨[.type "map",f,.ref l],[]⟩)
   (λ_ R s=>s.heap.get? l=some (Ad us k)/\R (.ok (.ret (.ref (s.heap.objs.size+2)))) {s with heap:=((s.heap.push (By l 0)).push (Ao [.ref s.heap.objs.size] 0)).push (Cd (s.heap.objs.size+1) f)}):=
 .of_wp λprog w A R s h=>by
  obtain⟨hp,g,d,tk,os⟩:=s;obtain⟨hl,h⟩:=h
  have f1:=V1
  have hl:hp.get? l=some (Ad us k):=hl
  unfold aE0.«map.__new__» aE0.SmallTypes.newClass aE0.SmallTypes.iterAll aE0.SmallTypes.refuseKeywords
  have hI:hp.IsList l us.toArray:=AP hl
  repeat (any_goals (first | assumption | with_reducible refine wpAny_pyIter_list (s:=⟨hp,g,d,tk,os⟩) hI ?_ | wp_step))
  refine⟨_,rfl,?_⟩
  have e1:((hp.push (By l 0)).push (Ao [.ref hp.objs.size] 0)).objs.size=hp.objs.size+2:=by rw[aE3,aE3]
  have e2:(hp.push (By l 0)).objs.size=hp.objs.size+1:=by rw[aE3]
  show R (.ok (.ret (.ref ((hp.push (By l 0)).push (Ao [.ref hp.objs.size] 0)).objs.size))) ⟨((hp.push (By l 0)).push (Ao [.ref hp.objs.size] 0)).push (Cd (hp.push (By l 0)).objs.size f),g,d,tk,os⟩
  rw[e1,e2]
  exact h
def Pt{it l:aC1}{i:Nat}{us:List Value}{k:Nat}{v:Value}{Q:Value->aA7->Prop}(hit:s.heap.get? it=some (By l i))(hl:s.heap.get? l=some (Ad us k))(hv:us[i]?=some v)
  (h :∀h',h'.get? it=some (By l (i+1))->aF7 it s.heap h'->Q v {s with heap:=h'}):aD2 (aD9 prog w) A (aL6 (.ref it)) Q E s:=by
 have hI:s.heap.IsListIter it l i:=⟨_,hit,rfl,rfl⟩
 unfold aL6
 refine aA2 (aJ0 (name:=aA0 "__next__") hI.typeIs aW9 (aG7 aW9 hI.typeIs entry_listiter_next ?_ (args_listiter_next _)))
 show aD2 _ _ (field (.ref it) 0 >>= _) _ _ s
 refine aA2 (aU0 hit rfl (x:=.ref l) rfl ?_)
 show aD2 _ _ (if(aN2 l==aI9)=true then _ else _) _ _ s
 rw[bO8 (show ¬ ((aN2 l==aI9)=true)from aP6)]
 show aD2 _ _ (field (.ref it) 1 >>= _) _ _ s
 refine aA2 (aU0 hit rfl (x:=.int i 0) rfl ?_)
 show aD2 _ _ (seqItems? (.ref l) >>= _) _ _ s
 refine aA2 (aR2 hl rfl ?_)
 simp only[aH9,aF1,hv]
 refine aA2 (aL9 hit rfl (by simp) (aA4 ⟨v,rfl,aA4 (h _ ?_ (aH5 ..))⟩))
 exact aI7 _ hit rfl
def T0{it l:aC1}{i:Nat}{us:List Value}{k:Nat}{Q:Value->aA7->Prop}(hh:A.handled=none)(hit:s.heap.get? it=some (By l i))(hl:s.heap.get? l=some (Ad us k))(hv:us[i]?=none)
  (h :∀h' x,aU1 it s.heap h'->s.heap.objs.size<=h'.objs.size->({s with heap:=h'}:aA7).TypeIs x "StopIteration"->E x {s with heap:=h'}):aD2 (aD9 prog w) A (aL6 (.ref it)) Q E s:=by
 have hI:s.heap.IsListIter it l i:=⟨_,hit,rfl,rfl⟩
 unfold aL6
 refine aA2 (aJ0 (name:=aA0 "__next__") hI.typeIs aW9 (aG7 aW9 hI.typeIs entry_listiter_next ?_ (args_listiter_next _)))
 show aD2 _ _ (field (.ref it) 0 >>= _) _ _ s
 refine aA2 (aU0 hit rfl (x:=.ref l) rfl ?_)
 show aD2 _ _ (if(aN2 l==aI9)=true then _ else _) _ _ s
 rw[bO8 (show ¬ ((aN2 l==aI9)=true)from aP6)]
 show aD2 _ _ (field (.ref it) 1 >>= _) _ _ s
 refine aA2 (aU0 hit rfl (x:=.int i 0) rfl ?_)
 show aD2 _ _ (seqItems? (.ref l) >>= _) _ _ s
 refine aA2 (aR2 hl rfl ?_)
 simp only[aH9,aF1,hv]
 refine aA2 (bD6 (aA2 (aL9 hit rfl (by simp) ?_)))
 show aD2 _ _ (newExc (.type "StopIteration") [] >>= _) _ _ _
 refine aA2 ?_
 simp only[newExc,newTuple]
 refine aA2 (aH8 ?_ (by size_fits))
 refine aA2 (m:=aU2 _ _) (aT9 (a:=aI9) (by first | rfl | (simp only[aU2];rfl)) ?_)
 refine aH8 ?_ (by size_fits)
 simp only[raiseNew]
 refine aA2 (bJ1 ?_)
 rw[show A.in1.handled=none from hh]
 refine aA2 (aA4 (bL5 ?_))
 refine h _ _ (((aH5 ..).extBut.push _).push _) ?_ ⟨_,aC4 _ rfl,rfl⟩
 rw[aE3,aE3,aJ9]
 exists 1,0x18180aa00
def QX{I T it l:aC1}{i:Nat}{us:List Value}{k:Nat}{f v:Value}{Q:Option Value->aA7->Prop}(hI:s.heap.get? I=some (Cd T f))(hT:s.heap.get? T=some (Ao [.ref it] 0))(hit:s.heap.get? it=some (By l i))(hl:s.heap.get? l=some (Ad us k))
  (hne:I≠it) (hv:us[i]?=some v) (hc :∀h',h'.get? it=some (By l (i+1))->aF7 it s.heap h'->aM9 (aD9 prog w) A.in1 (.call f ⟨[v],[]⟩) (CS λr s'=>Q (some r) s') {s with heap:=h'}):aD2 (aD9 prog w) A (aT1 (.ref I)) Q E s:=by
 have hTy:s.TypeIs (.ref I) "map":=⟨_,hI,rfl⟩
 unfold aT1
 refine aA2 (aV7 (aJ0 (name:=aA0 "__next__") hTy Bx
  (aG7 Bx hTy EV ?_ (Eu _))))
 obtain⟨hp,g,d,tk,os⟩:=s
 have hI:hp.get? I=some (Cd T f):=hI
 have hT:hp.get? T=some (Ao [.ref it] 0):=hT
 have hit:hp.get? it=some (By l i):=hit
 have hl:hp.get? l=some (Ad us k):=hl
 unfold aE0.«map.__next__»
 repeat (first | ((with_reducible show aD2 _ _ (aL6 _) _ _ _);refine Pt (s:=⟨hp,g,d,tk,os⟩) hit hl hv ?_) | wp_step)
 intro h' x1 x2
 have hI':h'.get? I=some (Cd T f):=(x2.2 I hne).trans hI
 repeat wp_step
 refine aK6 (hc h' x1 x2) λr s' hr=>?_
 obtain⟨v,rfl,hr⟩:=hr
 exact aA2 (bL7 (aA4 ⟨_,rfl,aA4 hr⟩))
def VC{I T it l:aC1}{i:Nat}{us:List Value}{k:Nat}{f:Value}{Q:Option Value->aA7->Prop}(hh:A.handled=none)(hI:s.heap.get? I=some (Cd T f))(hT:s.heap.get? T=some (Ao [.ref it] 0))(hit:s.heap.get? it=some (By l i))(hl:s.heap.get? l=some (Ad us k))
  (hv:us[i]?=none) (hq :∀h',aU1 it s.heap h'->s.heap.objs.size<=h'.objs.size->Q none {s with heap:=h'}):aD2 (aD9 prog w) A (aT1 (.ref I)) Q E s:=by
 have hTy:s.TypeIs (.ref I) "map":=⟨_,hI,rfl⟩
 unfold aT1
 refine aA2 (aV7 (aJ0 (name:=aA0 "__next__") hTy Bx
  (aG7 Bx hTy EV ?_ (Eu _))))
 obtain⟨hp,g,d,tk,os⟩:=s
 have hI:hp.get? I=some (Cd T f):=hI
 have hT:hp.get? T=some (Ao [.ref it] 0):=hT
 have hit:hp.get? it=some (By l i):=hit
 have hl:hp.get? l=some (Ad us k):=hl
 unfold aE0.«map.__next__»
 repeat (first | ((with_reducible show aD2 _ _ (aL6 _) _ _ _);refine T0 (s:=⟨hp,g,d,tk,os⟩) hh hit hl hv ?_) | wp_step)
 intro h' x y1 y2 y3
 exact aA2 (aV0 (T:="StopIteration") (b:=true) y3 bH6 (aA4 (hq h' y1 y2)))
end
def Jc{h:aF0}{a b:aC1}{o:Obj}{P:Prop}(e:h.get? b=some o)(n:h.get? a=none)(z:b=a):P:=by
 subst z
 exact nomatch e.symm.trans n
def GK(C:aC1):Ŕ:=λas os Q=>∃vs,as=[.glo C,.tup vs]/\vs.length=3/\AD nn vs=some vs/\os=[]/\Q (.mat vs) []
def HO(vss:List (List AV)):Prop:=∀(i:Nat) (vs:List AV),vss[i]?=some vs->vs.length=3/\AD nn vs=some vs
def Em(vss:List (List AV)):List AV:=vss.map .mat
section
variable{L:CU}{A:aH7}{h₀:aF0}{d:Nat}{fM:aC1}{G:Ű}{s₀:aA7}{S I T it l mth:aC1}{us:List Value}{vss:List (List AV)}{k:Nat}
structure YM(L:CU)(G:Ű)(s₀:aA7)(S it:aC1)(vss:List (List AV))(i:Nat)(acc:List Value)(s:aA7):Prop where
 keep :∀b o,s₀.heap.get? b=some o->b≠it->b≠S->s.heap.get? b=some o
 size:s₀.heap.objs.size<=s.heap.objs.size
 gens:s.gens=s₀.gens
 os:s.os=s₀.os
 list :∃c,s.heap.get? S=some (Ad acc c)
 told:A2 L G s.heap 0 (Em (vss.take i)) acc
def O7{i:Nat}{vs:List AV}(e:vss[i]?=some vs):Em (vss.take (i+1))=Em (vss.take i)++[.mat vs]:=by
 unfold Em
 rw[aY8,e,aP0]
 rfl
def Po{R:bD7->aA7->Prop}(hf:BP L h₀ d (.ref fM) (GK L.C))(hA:CY d A.in1.in1)(D:Kf G h₀ s₀)(oS:G.own S)(İ:G.own it)(nom :∀a,¬ G.mt a)(hSi:S≠it)(hIi:I≠it)(hTi:T≠it)(hli:l≠it)(hmi:mth≠it)
  (hI:s₀.heap.get? I=some (Cd T (.ref mth))) (hT:s₀.heap.get? T=some (Ao [.ref it] 0)) (hl:s₀.heap.get? l=some (Ad us k)) (hm:s₀.heap.get? mth=some (methodObj (.ref fM) (.ref L.C)))
  (nS:I≠S/\T≠S/\l≠S/\mth≠S) (ht:HO vss) (hV:A2 L G s₀.heap 0 (vss.map .tup) us) (hn:vss.length<=1000000) (hR :∀acc s',YM L G s₀ S it vss vss.length acc s'->R (.ok (.ret .none)) s') (j:Nat) :
  ∀(i:Nat) (acc:List Value) (s:aA7),i+j=vss.length->YM L G s₀ S it vss i acc s->s.heap.get? it=some (By l i)->aM9 (aD9 L.prog L.w) A (.builtin "list.extend.loop" ⟨[.ref S,.ref I,.none],[]⟩) R s:=by
 have n1:us.length=vss.length:=hV.len.trans (aB0 ..)
 have Ψ :∀{a},¬ G.own a->a≠it:=λq z=>q (z▸İ)
 have nSS :∀{a},¬ G.own a->a≠S:=λq z=>q (z▸oS)
 refine aT3 (motive:=λj=>∀(i:Nat) (acc:List Value) (s:aA7),i+j=vss.length->YM L G s₀ S it vss i acc s->s.heap.get? it=some (By l i)->aM9 (aD9 L.prog L.w) A (.builtin "list.extend.loop" ⟨[.ref S,.ref I,.none],[]⟩) R s) (λi acc s hi M hit=>?_) (λj ih i acc s hi M hit=>?_) j
 ·refine aS5 F.entry_extend_loop ?_
  rw[aO4 aV5 _]
  show aD2 _ A.in1 (aT1 (.ref I) >>= _) _ _ s
  have hi:i=vss.length:=hi
  subst hi
  refine aA2 (VC hA.1 (M.keep _ _ hI hIi nS.1) (M.keep _ _ hT hTi nS.2.1) hit (M.keep _ _ hl hli nS.2.2.1) (aG9 (aB7 n1)) λh' y1 y2=>?_)
  exact aA4 (hR acc {s with heap:=h'} ⟨λb o e b1 b2=>y1 b o b1 (M.keep b o e b1 b2),aA3 M.size y2,M.gens,M.os,M.list.imp λc hc=>y1 _ _ hSi hc,M.told.zero λa o e q=>⟨y1 a o (Ψ q) e,q⟩⟩)
 ·have hlt:i<vss.length:=hi▸aM5 (aV3 j)
  have e1:vss[i]?=some vss[i]:=aA6 hlt
  have h3:=ht i _ e1
  generalize vss[i]=vs at e1 h3
  obtain⟨v,g1,g2⟩:=hV.get ((aC5 ..).trans (bO6 (aD8 AV.tup) e1))
  refine aS5 F.entry_extend_loop ?_
  rw[aO4 aV5 _]
  show aD2 _ A.in1 (aT1 (.ref I) >>= _) _ _ s
  refine aA2 (QX (M.keep _ _ hI hIi nS.1) (M.keep _ _ hT hTi nS.2.1) hit (M.keep _ _ hl hli nS.2.2.1) hIi g1 λh' x1 x2=>?_)
  have kk :∀b o,s₀.heap.get? b=some o->b≠it->b≠S->h'.get? b=some o:=λb o e b1 b2=>(x2.2 b b1).trans (M.keep b o e b1 b2)
  have ks:s₀.heap.objs.size<=h'.objs.size:=x2.1.symm▸M.size
  refine method_call (kk _ _ hm hmi nS.2.2.2) ?_
  have D':Kf G h₀ {s with heap:=h'}:=⟨D.lo,λa ha=>aB3 (D.lt a ha) ks,λb o e=>kk b o (D.base b o e) (Jc e (D.lo _ İ)) (Jc e (D.lo _ oS)),aA3 D.size ks⟩
  refine aK6 (hf hA D' (as:=[.glo L.C,.tup vs]) (os:=[]) (Q:=λr _=>r = .mat vs) (vas:=[.ref L.C,v]) (λ_ _=>AA) ⟨_,_,rfl,rfl,v,_,rfl,g2.zero λa o e q=>⟨kk a o e (Ψ q) (nSS q),q⟩,rfl⟩ ⟨vs,rfl,h3.1,h3.2,rfl,rfl⟩).2 λr s'=>CS.mono λrv s' hb=>?_
  cases hb with
  | mk r os' hq hrs _ _ hkeep hsz hg ho _ hr=>
  subst hq
  obtain⟨c,hc⟩:=M.list
  have hkp :∀b o,h'.get? b=some o->s'.heap.get? b=some o:=λb o e=>hkeep b o e (nom b)
  have hS':=hkp _ _ ((x2.2 S hSi).trans hc)
  have hacc:acc.length<=1000000:=aA3 (aB7 (M.told.len.trans ((aB0 ..).trans (List.length_take_of_le (aE4 hlt))))) (aE4 (aB3 hlt hn))
  have hoth :∀b o,b≠S->s'.heap.get? b=some o->(s'.heap.update S (aK4 (·.push rv))).get? b=some o:=λb o hb e=>(aJ7 _ _ (bC8 hb)).trans e
  show aD2 _ A.in1 (updateSeq S (·.push rv) >>= _) _ _ _
  refine aA2 (bC1 hS' rfl (aA4 ⟨bB2 aV5 _,ih (i+1) (acc++[rv]) _ ((Nat.succ_add_eq_add_succ i j).trans hi) ⟨λb o e b1 b2=>hoth b o b2 (hkp _ _ (kk b o e b1 b2)),?_,hg.trans M.gens,ho.trans M.os,⟨c+1,?_⟩,?_⟩ (hoth _ _ (bC8 hSi) (hkp _ _ x1))⟩) (aA3 hacc (by decide)) (by rw[Array.size_push];exact aG8 (aA3 hacc (by decide))))
  ·show _<=(s'.heap.update S _).objs.size
   rw[aJ9]
   exact aA3 ks hsz
  ·exact(aI7 (aK4 (·.push rv)) hS' rfl).trans (by simp[Ad,aK4])
  ·rw[O7 e1]
   exact A2.append (M.told.zero λa o e q=>⟨hoth a o (nSS q) (hkp _ _ ((x2.2 a (Ψ q)).trans e)),q⟩) ⟨rv,[],rfl,hr.zero λa o e q=>⟨hoth a o (nSS q) e,q⟩,rfl⟩
end
def Dm:bO5 "map" "__iter__" "map.__iter__":=
 bO2 (T:="map") (name:="__iter__") (owner:="map") (n:="__iter__") G1 (by decide +kernel) (by decide +kernel) (by decide +kernel) (.inl (by decide +kernel)) (by rw[aL2];rfl')
def Hq:bB6 table "map.__iter__" = some aE0.«dict_keyiterator.__iter__»:=
 bI0 (id':="dict_keyiterator.__iter__") (by rfl') (by first | rfl | decide +kernel | (unfold String.splitOn;simp +decide [String.splitOnAux])) (by decide +kernel) (by rfl')
def IM(a:Value):aW7 "map.__iter__" ⟨[a],[]⟩:=by unfold aW7;rfl'
section
variable{prog:aG3}{w:aB9}{A:aH7}{E:Value->aA7->Prop}{s:aA7}
def S6{I T:aC1}{f:Value}{Q:Value->aA7->Prop}(hI:s.heap.get? I=some (Cd T f))(h:Q (.ref I) s):aD2 (aD9 prog w) A (aQ6 (.ref I)) Q E s:=by
 have hT:s.TypeIs (.ref I) "map":=⟨_,hI,rfl⟩
 refine bE5 hT Dm (aG7 Dm hT Hq ?_ (IM _))
 show aD2 _ _ (ret (.ref I)) _ _ s
 exact aA4 ⟨_,rfl,"map",_,hT,Bx.lookup,h⟩
end
section
variable{L:CU}{A:aH7}{E:Value->aA7->Prop}{s:aA7}{h₀:aF0}{d:Nat}{fM:aC1}{G:Ű}{I T it l mth:aC1}{us:List Value}{vss:List (List AV)}{k:Nat}
def KY{Q:Value->aA7->Prop}(hf:BP L h₀ d (.ref fM) (GK L.C))(hA:CY (d+1) A)(D:Kf G h₀ s)(İ:G.own it)(nom :∀a,¬ G.mt a)(hIi:I≠it)(hTi:T≠it)(hli:l≠it)(hmi:mth≠it)
  (hI:s.heap.get? I=some (Cd T (.ref mth))) (hT:s.heap.get? T=some (Ao [.ref it] 0)) (hit:s.heap.get? it=some (By l 0)) (hl:s.heap.get? l=some (Ad us k)) (hm:s.heap.get? mth=some (methodObj (.ref fM) (.ref L.C)))
  (ht:HO vss) (hV:A2 L G s.heap 0 (vss.map .tup) us) (hn:vss.length<=1000000)
  (hR :∀(acc:List Value) (s':aA7),(∀b o,s.heap.get? b=some o->b≠it->s'.heap.get? b=some o)->s.heap.objs.size<=s'.heap.objs.size->s'.gens=s.gens->s'.os=s.os->
   (∃c,s'.heap.get? s.heap.objs.size=some (Ad acc c))->A2 L (G.put s.heap.objs.size .lock) s'.heap 0 (Em vss) acc->Q (.ref s.heap.objs.size) s') :
  aD2 (aD9 L.prog L.w) A (call (.type "list") [.ref I]) Q E s:=by
 refine callType_codes (Q₁:=λobj s₁=>obj = .ref s.heap.objs.size/\s₁ = {s with heap:=s.heap.push {cls:=.type "list",data:=.seq #[]}}) F.called_list (F.typeCall_list_1 _) F.entry_list_init
  (code_list_new _ ⟨rfl,rfl⟩) λobj s₁ h₁=>?_
 obtain⟨rfl,rfl⟩:=h₁
 have hS:(s.heap.push {cls:=.type "list",data:=.seq #[]}).get? s.heap.objs.size=some {cls:=.type "list",data:=.seq #[]}:=aC4 _ rfl
 refine⟨⟨_,hS,rfl⟩,F.args_list_init_2 _ _,?_⟩
 generalize hSe:s.heap.objs.size=S at hS hR ⊢
 have lt :∀{a o},s.heap.get? a=some o->a≠S:=λ{a o} e=>hSe▸aE5 (aI8 e)
 show aD2 _ A.in1.in1 (do let old<-aE0.List.listItems (.ref S);aE0.List.listUpdate (.ref S) (λ_=>#[]);letGo old.toList.reverse;aT5 (.ref S) (.ref I) .none) _ _ _
 refine aA2 ?_
 unfold aE0.List.listItems
 refine aA2 (aR2 hS rfl (aA4 ?_))
 show aD2 _ A.in1.in1 (updateSeq S (λ_=>#[]) >>= λ_=>letGo (#[]:Array Value).toList.reverse >>= λ_=>aT5 (.ref S) (.ref I) .none) _ _ _
 refine aA2 (bC1 hS rfl ?_)
 have hS₂:=aI7 (aK4 (λ_=>(#[]:Array Value))) hS rfl
 refine aA2 (bL7 ?_)
 generalize hp2:(s.heap.push {cls:=.type "list",data:=.seq #[]}).update S (aK4 (λ_=>(#[]:Array Value)))=p2 at hS₂
 have k2 :∀b o,s.heap.get? b=some o->p2.get? b=some o:=λb o e=>hp2▸(aJ7 _ _ (bC8 (lt e))).trans (aB1 _ e)
 have z2:p2.objs.size=S+1:=by rw[<-hp2,aJ9,aE3,hSe]
 unfold aT5
 have hTy:(⟨p2,s.gens,s.drawn,s.toks,s.os⟩:aA7).TypeIs (.ref I) "map":=⟨_,k2 _ _ hI,rfl⟩
 refine aA2 (bK3 hTy ?_)
 rw[show aE0.List.listSameRef (.ref S) (.ref I)=false from beq_eq_false_iff_ne.mpr (bC8 (lt hI)),show(false||bA6 "map" == bA6 "list" || bA6 "map" == bA6 "tuple")=false by decide]
 rw[bO8 aP6]
 refine aA2 (S6 (k2 _ _ hI) ?_)
 refine aA2 (aJ8 ?_)
 unfold aE0.List.listLengthHint
 refine aA2 (aW1 hTy Op ?_)
 show aD2 _ A.in1.in1 (bD3 (aN2 I) (aA0 "__length_hint__") >>= _) _ _ _
 refine aA2 (aW1 hTy Lx ?_)
 refine aA4 ?_
 show aD2 _ A.in1.in1 (rule "list.extend.makes-room" >>= λ_=>aE0.List.listTouch (.ref S) >>= λ_=>
  again (.builtin "list.extend.loop" ⟨[.ref S,.ref I,.none],[]⟩)) _ _ _
 refine aA2 (bD6 ?_)
 refine aA2 ?_
 show aD2 _ A.in1.in1 (updateSeq S (·.push .none) >>= λ_=>updateSeq S (·.pop)) _ _ _
 refine aA2 (bC1 hS₂ rfl ?_)
 have hS₃:=aI7 (aK4 (·.push aI9)) hS₂ rfl
 refine bC1 (hz:=by seq_fits) hS₃ rfl ?_
 have hS₄:=aI7 (aK4 (·.pop)) hS₃ rfl
 generalize hp4:(p2.update S (aK4 (·.push aI9))).update S (aK4 (·.pop))=p4 at hS₄
 have k4 :∀b o,s.heap.get? b=some o->p4.get? b=some o:=λb o e=>hp4▸(aJ7 _ _ (bC8 (lt e))).trans ((aJ7 _ _ (bC8 (lt e))).trans (k2 b o e))
 have z4:p4.objs.size=S+1:=by rw[<-hp4,aJ9,aJ9,z2]
 refine aA4 ⟨bB2 aV5 _,?_⟩
 have D4:Kf (G.put S .lock) h₀ {s with heap:=p4}:=⟨λa ha=>(Ű.put_own ha).elim (λy=>y▸hSe▸aQ5 D.size) (D.lo a),λa ha=>z4.symm▸(Ű.put_own ha).elim (λy=>y▸aC2 _) λy=>aG5 (hSe▸D.lt a y),λb o e=>k4 _ _ (D.base b o e),z4.symm▸hSe▸aI0 D.size⟩
 have hA2:CY d A.in1.in1.in1:=⟨hA.1,aD1 (aK1 _) hA.2.1,by have:=hA.2.2;show A.units+1+1+1+10*d+40<_;exact id (ql [_,_,_] 0x2000028910ac1818180aaaaa120000289181a0ac0aa18 (by rfl') this)⟩
 have oS:(G.put S .lock).own S:=A3 Ű.put_at
 have oI':(G.put S .lock).own it:=λz=>İ ((Ű.put_ne (lt hit)).symm.trans z)
 have nom' :∀a,¬ (G.put S .lock).mt a:=λa z=>z.elim λp z=>(aO1 (a=S)).elim (λy=>z.2 (aA1 ((y▸z.1).symm.trans Ű.put_at))) λy=>nom a ⟨p,(Ű.put_ne y).symm.trans z.1,z.2⟩
 have st:Cj G s.heap (G.put S .lock) p4:=λa o e q=>⟨k4 a o e,λz=>(Ű.put_own z).elim (lt e) q⟩
 refine Po (s₀:={s with heap:=p4}) (A:=A.in1) (S:=S) hf hA2 D4 oS oI' nom' (λz=>lt hit z.symm) hIi hTi hli hmi (k4 _ _ hI) (k4 _ _ hT) (k4 _ _ hl) (k4 _ _ hm) ⟨lt hI,lt hT,lt hl,lt hm⟩ ht (hV.zero st) hn (λacc s' M=>?_) vss.length 0 [] _ (aF3 _) ⟨λb o e _ _=>e,aA9 _,rfl,rfl,⟨_,hS₄⟩,rfl⟩ (k4 _ _ hit)
 have told:=M.told
 rw[aR3]at told
 exact⟨rfl,hR acc s' (λb o e b1=>M.keep b o (k4 b o e) b1 (lt e)) (aA3 (z4.symm▸aK1 _) M.size) M.gens M.os M.list told⟩
end
section
variable{prog:aG3}{w:aB9}{A:aH7}{E:Value->aA7->Prop}{s:aA7}{C:aC1}
def O1{a b:Int}{t u:Tok}{Q:Value->aA7->Prop}(h:Q (.bool (decide (a<b))) s):aD2 (aD9 prog w) A (richCompare .Lt (.int a t) (.int b u)) Q E s:=lt_int h
def XT{l b:aC1}{x y:Int}{r r':List Value}{n n2:Nat×Option aC1}{t u:Tok}{Q:bN4->aA7->Prop}(hl:s.heap.get? l=some (BW C (.int x t::r) n))(hb:s.heap.get? b=some (BW C (.int y u::r') n2))(hne:(x==y)=false)
  (hs:aF4 (aD9 prog w) s.heap (aR1 (.ref C) (.type "tuple")) true) (h:Q (.done (.ret (.bool (decide (x<y))))) s):aD2 (aD9 prog w) A (aE0.«tuple.__lt__» ⟨[.ref l,.ref b],[]⟩) Q E s:=by
 obtain⟨hp,g,d,tk,os⟩:=s
 have hl:hp.get? l=some (BW C (.int x t::r) n):=hl
 have hb:hp.get? b=some (BW C (.int y u::r') n2):=hb
 have tb:aF4 (aD9 prog w) hp (aW6 (.ref b) (.type "tuple")) true:=(show aF4 (aD9 prog w) hp (typeOf (.ref b)) (.ref C)from(bM9 hb).andThen .now).andThen hs
 unfold aE0.«tuple.__lt__»
 repeat (first | with_reducible refine aF4.at tb ?_ | ((with_reducible show aD2 _ _ (eqBool _ _) _ _ _);refine wpAny_eqBool_int ?_;simp only[hne]) | ((with_reducible show aD2 _ _ (richCompare bF6.Lt _ _) _ _ _);refine O1 ?_) | lk)
 exact h
end
def MC{C:aC1}{us vs:List Value}{e:Nat×Option aC1}{k:Nat}(z:some (BW C us e)=some (seqObj "list" vs.toArray k)):False:=nomatch(bO6 (λo:Option Obj=>o.map Obj.cls) z:some (aN2 C)=some (bA6 "list"))
def Ck{α:Type}(f:Nat->Nat->Bool)(t:bO4 α):α:=bK5 (λa=>a) (λi j _ ih=>ih (f i j)) t
def Oo(C:aC1)(h:aF0)(v:Value)(x:Int):Prop:=∃m k t r,v = .ref m/\h.get? m=some (BW C (.int x t::r) k)
section
variable{prog:aG3}{w:aB9}{A:aH7}{E:Value->aA7->Prop}{s:aA7}{h₀:aF0}{C fN:aC1}
def Z4{x y:Value}{a b:Int}{Q:Bool->aA7->Prop}(N:Hd h₀ C fN)(hk :∀b o,h₀.get? b=some o->s.heap.get? b=some o)(hu:A.units<cLine)(hx:Oo C s.heap x a)(hy:Oo C s.heap y b)(hne:(a==b)=false)(h:Q (decide (a<b)) s) :
  aD2 (aD9 prog w) A (keyLt' oneType' x y) Q E s:=by
 obtain⟨m,k,t,r,rfl,hm⟩:=hx
 obtain⟨m',k',u,r',rfl,hm'⟩:=hy
 rw[keyLt'_oneType,oneLt'_eq]
 simp only[if_true]
 refine aA2 (wpAny_cRoomFor_or (.inr hu) ?_)
 exact aA2 (OZ hm hk (N.lt _) PySem.F.slot_tuple_lt.bind (DI (n:="__lt__") N.toMatC hm hk PySem.F.slot_tuple_lt.plain (by decide +kernel) (by decide +kernel) PySem.F.entry_tuple_lt (PySem.F.args_tuple_lt_2 _ _) (XT hm hm' hne ((N.sub _).keeps hk) ⟨_,rfl,aO7 h⟩)))
end
section
variable{prog:aG3}{w:aB9}{A:aH7}{E:Value->aA7->Prop}{s:aA7}{h₀:aF0}{C fN m:aC1}{us:List Value}{k:Nat×Option aC1}
def VH{Q:Value->aA7->Prop}(hc:MatC h₀ C)(hlen :∀M,aF4 M h₀ (aI2 (.ref C) "__len__") (some (.builtin "tuple.__len__")))(hm:s.heap.get? m=some (BW C us k))(hk :∀b o,h₀.get? b=some o->s.heap.get? b=some o)(hz:us.length<=1000)
  (h :∀t u,Q (.int us.length t) {s with toks:=u}):aD2 (aD9 prog w) A (call (.builtin "len") [.ref m]) Q E s:=by
 refine call_function_tree (by decide +kernel) (by decide +kernel) (aV1 (b:=aE0.«len») (by rfl')) (by unfold aW7;rfl') ?_
 unfold aE0.«len» callSpecial?
 refine aA2 (aA4 ?_)
 refine aA2 (aA2 (C4 hm hk (hlen _) ?_))
 dsimp only
 refine aJ8 ?_
 rw[PySem.F.slot_tuple_len.bind]
 refine aA2 (aA4 (aA2 ?_))
 refine DI (n:="__len__") hc hm hk PySem.F.slot_tuple_len.plain (by decide +kernel) (by decide +kernel) PySem.F.entry_tuple_len (PySem.F.args_tuple_len_1 _) ?_
 obtain⟨hp,g,d,tk,os⟩:=s
 have hm:hp.get? m=some (BW C us k):=hm
 unfold aE0.«tuple.__len__»
 repeat lk
 have e:(us.toArray.size:Int)=us.length:=by simp
 refine⟨_,rfl,aA4 ?_⟩
 rw[e]
 dsimp only
 refine aA2 (aJ8 ?_)
 refine aT9 (a:=(us.length:Int)) rfl ?_
 refine aA2 (bL7 ?_)
 rw[bO8 (by exists 1,0x800f49),bO8 (by omega)]
 refine aA2 (wpAny_mkInt (aA4 ?_))
 exact h _ _
end
def GL(as:List AV)(σ:St)(K:List AV->St->Prop):Prop:=Ap as λa as=>Ab (BX a) λx=>aB5 (BH 0 x/\K (Ah 0 (x-0).toNat) σ) (λb r _=>Ab (BX b) λy=>aB5 (BH x y/\K (Ah x (y-x).toNat) σ) (λ_ _ _=>False) r) as
def SS(tg:Expr)(as:List AV)(σ:St)(K:List AV->St->Prop):Prop:=Ap as λa as=>nil as (aD5 (Ab (Kr a) λvs=>Hf tg=true/\AD nn vs=some vs/\K (Bj vs) σ) (λx=>x.cps.size=0/\K [] σ) (HP a))
section
variable{X:Cx}{c:Ž}{Q:AV->St->Prop}{K:List AV->St->Prop}
def K0{lo hi:Int}{t u v:Tok}{tk:Nat}(hh:X.A.handled=none)(hn:BH lo hi)(h:K (Ah lo (hi-lo).toNat) c.σ)(target:Expr)(R:ŵ X c) :
  ţ X (aQ6 (.ref c.s.heap.objs.size)) (λit s'=>CX X target c K it s') {c.s with heap:=c.s.heap.push {cls:=.type "range",data:=.fields #[.int lo t,.int hi u,.int 1 v]},toks:=tk}:=by
 have x:=R.push {cls:=.type "range",data:=.fields #[.int lo t,.int hi u,.int 1 v]} tk
 have hs:aR4 lo hi 1=((hi-lo).toNat:Int):=by
  unfold aR4
  rw[bO7 (by decide)]
  split
  ·rw[bK6];rename_i u0;exists[_],[_,_],0xf181801bba50801be00f581048,u0,(aD6 _)
  ·rename_i u0;exists[_],[_,_],0xf0850801be00f5810498,u0,(aD6 _)
 have sm:aE0.Range.small lo hi 1=true:=by
  unfold aE0.Range.small
  rw[hs]
  unfold BH at hn
  simp[aE0.Range.rangeFitsLong]
  omega
 have y:=x.R.lck {cls:=.type "range_iterator",data:=.fields #[bA8 lo,bA8 (aR4 lo hi 1),bA8 1]} tk
 refine wpAny_pyIter_range (t:=t) (u:=u) (v:=v) (aC4 _ rfl) sm ⟨_,x,_,[(c.s.heap.push {cls:=.type "range",data:=.fields #[.int lo t,.int hi u,.int 1 v]}).objs.size],Ah lo (hi-lo).toNat,wW X.hs (c.s.heap.push {cls:=.type "range",data:=.fields #[.int lo t,.int hi u,.int 1 v]}).objs.size lo (hi-lo).toNat,_,rfl,λe=>VK (X:=X.en e) hh target,λi G s Q st hQ=>wpAny_pyIter_rangeiter st.it hQ,⟨λb hb=>⟨aB6.mp hb▸Ű.put_at,aB6.mp hb▸x.R.size⟩,?_⟩,λb hb=>aB7 (aB6.mp hb).symm,y,λ_ _ e=>aB1 _ e,h⟩
 have e0:lo+((0:Nat):Int)=lo:=aR6 lo
 have e1:(((hi-lo).toNat:Nat):Int)-((0:Nat):Int)=aR4 lo hi 1:=hs▸Int.sub_zero _
 rw[e0,e1]
 exact aC4 _ rfl
def Uy{as:List AV}(hh:X.A.handled=none)(h:GL as c.σ K)(target:Expr){vas:List Value}(R:ŵ X c)(ra:Ŧ X c as vas):ţ X (call (.type "range") vas []) (λr s₁=>ţ X (aQ6 r) (λit s'=>CX X target c K it s') s₁) c.s:=
 AX h ra λa as va vas r1 ra h=>AC h λx e1 h=>A5 (P:=λva=>ţ X (call (.type "range") (va::vas) []) _ c.s) e1 r1 λt=>by
  cases as with
  | nil=>rw[show vas=[]from ra];exact call_range_1 (K0 hh h.1 h.2 target R)
  | cons b r=>
   obtain⟨vb,vr,rfl,r2,ra⟩:=ra
   refine AC h λy e2 h=>A5 (P:=λvb=>ţ X (call (.type "range") (.int x t::vb::vr) []) _ c.s) e2 r2 λu=>?_
   cases r with
   | nil=>rw[show vr=[]from ra];exact call_range_2 (K0 hh h.1 h.2 target R)
   | cons d r=>exact h.elim
structure xH(hs:aF0)(e it:aC1)(t:Tok)(i:Nat)(G:Ű)(h:aF0):Prop where
 lk:H7 hs G [e,it]
 en :∃old,IsEnum h e it ((0:Nat):Int) old
 st:h.IsStrIter it "str_ascii_iterator" ⟨#[]⟩ t 0
def Oq{e it:aC1}{t:Tok}(hh:X.A.handled=none){target:Expr}:LJ X target e [e,it] [] (xH X.hs e it t) where
 frame:=λi G h G' h' y kp=>⟨y.lk.frame kp,y.en.imp λold q=>kp.lk (y.lk e (aC6 ..)).1 _ q,y.st.imp λo q=>⟨kp.lk (y.lk it (aC9 _ (aC6 ..))).1 o q.1,q.2⟩⟩
 item:=λi c R hi=>bO9 hi (aE6 i)
 done:=λc R y=>y.en.elim λold q=>EX (wpAny_pyNext_enum_endD (Draws.strAscii (A:=X.A.in1) hh it ⟨#[]⟩ t) q y.st λh' y1 sz=>
  have kk :∀a o,a∉[e,it]->c.s.heap.get? a=some o->h'.get? a=some o:=λa o ha e=>y1 a o (XW ha) e
  ⟨rfl,(R.lockAt y.lk (t:=c.s.toks) kk sz).2,kk,sz⟩)
def YA{as:List AV}{target:Expr}(hh:X.A.handled=none)(h:SS target as c.σ K){vas:List Value}(R:ŵ X c)(ra:Ŧ X c as vas):ţ X (call (.type "enumerate") vas []) (λr s₁=>ţ X (aQ6 r) (λit s'=>CX X target c K it s') s₁) c.s:=
 AX h ra λa as va vas r1 ra h=>BU h ra λh=>BM h (λh=>AC h λvs e1 h=>by
  cases EZ (P:=λa=>VR X c a va->VR X c (.lst vs) va) e1 id r1 with
  | mk l us hv hp ho hr=>
  subst hv
  obtain⟨k,p⟩:=hp
  refine call_enumerate_1 (n:=k.1) p λh' q1 Ľ q3 ő=>aY9 q1 ?_
  have lt :∀{a},a<c.s.heap.objs.size->a≠c.s.heap.objs.size+1:=λl=>aE5 (aG5 l)
  have x:Cb X c ⟨(c.G.put c.s.heap.objs.size .lock).put (c.s.heap.objs.size+1) .lock,c.σ,{c.s with heap:=h'}⟩:=R.more ő (q3▸aE1 _ 2) (λa l=>(Ű.put_ne (lt l)).trans (Ű.put_ne (aE5 l)))
   (λa e=>q3.symm▸(Ű.put_own e).elim (λz=>z▸aC2 _) λe=>(Ű.put_own e).elim (λz=>z▸aG5 (aC2 _)) λe=>aG5 (aG5 (R.ownLt a e))) (λ_ _=>⟨rfl,rfl⟩) (aA9 _) rfl rfl rfl rfl λ_ _=>.inl
  have mem :∀{P:aC1->Prop},P (c.s.heap.objs.size+1)->P c.s.heap.objs.size->∀b∈[c.s.heap.objs.size+1,c.s.heap.objs.size],P b:=λp q b hb=>(aD7.mp hb).elim (λz=>z▸p) λhb=>aB6.mp hb▸q
  have lk:H7 X.hs ((c.G.put c.s.heap.objs.size .lock).put (c.s.heap.objs.size+1) .lock) [c.s.heap.objs.size+1,c.s.heap.objs.size]:=mem ⟨Ű.put_at,aI0 R.size⟩ ⟨(Ű.put_ne (aE5 (aC2 _))).trans Ű.put_at,R.size⟩
  exact⟨c,.refl R,_,[c.s.heap.objs.size+1,c.s.heap.objs.size],Bj vs,vU X.L X.hs (c.s.heap.objs.size+1) c.s.heap.objs.size l us vs,_,rfl,λe=>W9 (X:=X.en e) hh (aJ6 (aC2 _)) h.1,λi G s Q st hQ=>st.en.elim λo q=>aY9 q hQ,⟨⟨lk,aC9 _ (aC6 ..),Ľ,⟨k.1,ő _ _ p⟩,x.kp.off p ho,hr.shut x.kp.still h.2.1⟩,_,q1⟩,
   mem (aK1 _) (aA9 _),x,ő,h.2.2⟩) λx e1 h=>EP (P:=λva=>ţ X (call (.type "enumerate") [va] []) _ c.s) e1 r1 λt=>by
  obtain⟨hx,h⟩:=h
  obtain⟨cps⟩:=x
  obtain rfl:=Array.eq_empty_of_size_eq_zero hx
  refine call_enumerate_str λh' q1 Ľ q3 ő=>aY9 q1 ?_
  rw[show strIterType ⟨#[]⟩ = "str_ascii_iterator" from by simp[strIterType]]at Ľ
  have lt :∀{a},a<c.s.heap.objs.size->a≠c.s.heap.objs.size+1:=λl=>aE5 (aG5 l)
  have x:Cb X c ⟨(c.G.put c.s.heap.objs.size .lock).put (c.s.heap.objs.size+1) .lock,c.σ,{c.s with heap:=h'}⟩:=R.more ő (q3▸aE1 _ 2) (λa l=>(Ű.put_ne (lt l)).trans (Ű.put_ne (aE5 l)))
   (λa e=>q3.symm▸(Ű.put_own e).elim (λz=>z▸aC2 _) λe=>(Ű.put_own e).elim (λz=>z▸aG5 (aC2 _)) λe=>aG5 (aG5 (R.ownLt a e))) (λ_ _=>⟨rfl,rfl⟩) (aA9 _) rfl rfl rfl rfl λ_ _=>.inl
  have mem :∀{P:aC1->Prop},P (c.s.heap.objs.size+1)->P c.s.heap.objs.size->∀b∈[c.s.heap.objs.size+1,c.s.heap.objs.size],P b:=λp q b hb=>(aD7.mp hb).elim (λz=>z▸p) λhb=>aB6.mp hb▸q
  have lk:H7 X.hs ((c.G.put c.s.heap.objs.size .lock).put (c.s.heap.objs.size+1) .lock) [c.s.heap.objs.size+1,c.s.heap.objs.size]:=mem ⟨Ű.put_at,aI0 R.size⟩ ⟨(Ű.put_ne (aE5 (aC2 _))).trans Ű.put_at,R.size⟩
  exact⟨c,.refl R,_,[c.s.heap.objs.size+1,c.s.heap.objs.size],[],xH X.hs (c.s.heap.objs.size+1) c.s.heap.objs.size t,_,rfl,λe=>Oq (X:=X.en e) hh,λi G s Q st hQ=>st.en.elim λo q=>aY9 q hQ,⟨lk,⟨_,q1⟩,Ľ⟩,
   mem (aK1 _) (aA9 _),x,ő,h⟩
def uZ(a:AV):Option Int:=(DR a).bind λp=>SK.rec none none (aB5 none (λb _ _=>BX b) p.2) p.1
theorem A2.getD{L:CU}{G:Ű}{h:aF0}{n:Nat}{vs:List AV}{us:List Value}(q:A2 L G h n vs us)(i:Nat):A8 L G h n (vs.getD i .none) (us.getD i .none):=by
 rw[aB2,aB2]
 cases e:vs[i]? with
 | none=>rw[aG9 (q.len▸List.getElem?_eq_none_iff.mp e)];exact rfl
 | some a=>obtain⟨v,e1,r⟩:=q.get e;rw[e1];exact r
def A2.perm{L:CU}{G:Ű}{h:aF0}{n:Nat}{vs:List AV}{us:List Value}(q:A2 L G h n vs us)(p:List Nat):A2 L G h n (p.map λi=>vs.getD i .none) (p.map λi=>us.getD i .none):=aB5 rfl (λi r ih=>⟨_,_,rfl,q.getD i,ih⟩) p
def D5(vs:List AV):Option (List Int):=aB5 (some []) (λa _ ih=>(BX a).bind λx=>ih.map (x :: ·)) vs
def Ie{vs:List AV} :∀{ns:List Int} {us:List Value},D5 vs=some ns->Ŧ X c vs us->∃ps:List (Int×Tok),us=ps.map (λp=>.int p.1 p.2)/\ns=ps.map (·.1):=by
 refine aB5 (motive:=λvs=>∀{ns:List Int} {us:List Value},D5 vs=some ns->Ŧ X c vs us->∃ps:List (Int×Tok),us=ps.map (λp=>.int p.1 p.2)/\ns=ps.map (·.1)) (λ{ns us} e q=>⟨[],q,(aA1 e).symm⟩) (λa r ih ns us e q=>?_) vs
 obtain⟨x,e1,e⟩:=AF e
 obtain⟨ys,e2,rfl⟩:=map_some e
 obtain⟨v,u,rfl,q1,Ľ⟩:=q
 obtain⟨ps,rfl,rfl⟩:=ih e2 Ľ
 exact A5 (P:=λv=>∃qs:List (Int×Tok),v::ps.map (λp=>bA4 p.1 p.2)=qs.map (λp=>.int p.1 p.2)/\x::ps.map (·.1)=qs.map (·.1)) e1 q1 λt=>⟨(x,t)::ps,rfl,rfl⟩
def cV(ns:List Int):Int:=aB5 0 (λa r _=>r.foldl min a) ns
def JD(as:List AV)(σ:St)(Q:AV->St->Prop):Prop:=Ap as λa as=>aB5 (Ab (BK σ a) λvs=>Ab (D5 vs) λns=>ns≠[]/\Q (.int (cV ns)) σ) (λb as _=>nil as (Ab (BX a) λx=>Ab (BX b) λy=>Q (.int (min x y)) σ)) as
def WV{x y:Int}{t u:Tok}{P:Value->Prop}(h :∀t,P (.int (min x y) t)):P (if y<x then .int y u else .int x t):=by
 have e :∀(i:Int) t,i=min x y->P (.int i t):=λi t e=>e▸h t
 split
 ·exact e _ _ (by rename_i u0;exists[],[_,_],0x1d051048,u0)
 ·exact e _ _ (by rename_i u0;exists[],[_,_],0x1d1510498,u0)
def PP{r:List Int} :∀a:Int,(r.foldl min a=a\/r.foldl min a∈r)/\r.foldl min a<=a/\∀x∈r,r.foldl min a<=x:=by
 induction r with
 | nil=>exact λa=>⟨.inl rfl,aU4 _,λx h=>nomatch h⟩
 | cons b r ih=>
  intro a
  obtain⟨h1,h2,h3⟩:=ih (min a b)
  refine⟨?_,aQ3 h2 (Int.min_le_left ..),λx hx=>(aD7.mp hx).elim (λe=>by subst e;exact aQ3 h2 (Int.min_le_right ..)) (h3 x)⟩
  rcases h1 with h1 | h1
  ·rcases Int.le_total a b with hab | hab
   ·exact .inl (h1.trans (Int.min_eq_left hab))
   ·exact .inr (aD7.mpr (.inl (h1.trans (Int.min_eq_right hab))))
  ·exact .inr (aC9 _ h1)
def Mt{ns:List Int}{m:Int}(hm:m∈ns)(h :∀a∈ns,m<=a):m=cV ns:=by
 cases ns with
 | nil=>cases hm
 | cons a r=>
  obtain⟨h1,h2,h3⟩:=PP (r:=r) a
  refine Int.le_antisymm (h1.elim (λe=>?_) λe=>h _ (aC9 _ e)) ((aD7.mp hm).elim (λe=>e▸h2) (h3 m))
  show m<=r.foldl min a
  rw[e];exact h a (aC6 ..)
def QE{as:List AV}(hh:X.A.handled=none)(h:JD as c.σ Q){vas:List Value}(R:ŵ X c)(ra:Ŧ X c as vas):ŝ X c Q (call (.builtin "min") vas []):=
 AX h ra λa as va vas r1 ra h=>by
  cases as with
  | nil=>
   obtain rfl:vas=[]:=ra
   refine AC h λvs e1 h=>AC h λns e2 h=>Aw e1 R r1 λl us k p1 p2=>?_
   obtain⟨ps,rfl,rfl⟩:=Ie e2 p2
   have hne:0<ps.length:=aI6 λz=>h.1 (by rw[aF5 z];rfl)
   refine EX (min_intList (xs:=ps.toArray) hh (by have q:=AP p1;simpa[intItems]using q) hne λv h' tk hv hk hz=>?_)
   obtain⟨t,rfl⟩:=intItems_at hv
   obtain⟨h1,h2⟩:=argBest_lt (numAt ps.toArray) (ps.toArray.size-1)
   have hsz:ps.toArray.size=ps.length:=rfl
   rw[Mt (m:=numAt ps.toArray (argBest (λi j=>decide (numAt ps.toArray i<numAt ps.toArray j)) (ps.toArray.size-1))) (ns:=ps.map (·.1)) (by rw[bN0];exact getD_mem (by rw[aB0];exact aD1 h1 (bM8 hne aR5))) λa ha=>by
    obtain⟨j,hj,rfl⟩:=mem_getD ha
    rw[aB0]at hj
    have:=h2 j (by exists 3,0x180b2012181028,hsz,hj)
    exact aQ3 this (aY1 (bN0 ..))]
   exact .to (b:=AV.int _) (R.grow tk hk hz) (bP3 _) h.2
  | cons b as=>
   obtain⟨vb,vas',rfl,r2,ra⟩:=ra
   exact BU (P:=λvas'=>ŝ X c Q (call (.builtin "min") (va::vb::vas') [])) h ra λh=>AC h λx e1 h=>AC h λy e2 h=>A5 e1 r1 λt=>A5 e2 r2 λu=>
    EX (PySem.min_two_ints hh λh' tk hk hz=>WV (P:=λv=>A1 X (VR X) c Q v {c.s with heap:=h',toks:=tk}) λt'=>.to (c':=c.hp c.σ h' tk) (b:=AV.int _) (R.grow tk hk hz) (bP3 _) h)
def Sj(ns:List Int):Int:=aB5 0 (λa r _=>r.foldl max a) ns
def IY{r:List Int} :∀a:Int,(r.foldl max a=a\/r.foldl max a∈r)/\a<=r.foldl max a/\∀x∈r,x<=r.foldl max a:=by
 induction r with
 | nil=>exact λa=>⟨.inl rfl,aU4 _,λx h=>nomatch h⟩
 | cons b r ih=>
  intro a
  obtain⟨h1,h2,h3⟩:=ih (max a b)
  refine⟨?_,aQ3 (Int.le_max_left ..) h2,λx hx=>(aD7.mp hx).elim (λe=>by subst e;exact aQ3 (Int.le_max_right ..) h2) (h3 x)⟩
  rcases h1 with h1 | h1
  ·rcases Int.le_total a b with hab | hab
   ·exact .inr (aD7.mpr (.inl (h1.trans (bF3 hab))))
   ·exact .inl (h1.trans (bG8 hab))
  ·exact .inr (aC9 _ h1)
def UG{ns:List Int}{m:Int}(hm:m∈ns)(h :∀a∈ns,a<=m):m=Sj ns:=by
 cases ns with
 | nil=>cases hm
 | cons a r=>
  obtain⟨h1,h2,h3⟩:=IY (r:=r) a
  refine Int.le_antisymm ((aD7.mp hm).elim (λe=>e▸h2) (h3 m)) (h1.elim (λe=>?_) λe=>h _ (aC9 _ e))
  show r.foldl max a<=m
  rw[e];exact h a (aC6 ..)
def Jw(as:List AV)(σ:St)(Q:AV->St->Prop):Prop:=Ap as λa as=>aB5 (Ab (BK σ a) λvs=>Ab (D5 vs) λns=>ns≠[]/\Q (.int (Sj ns)) σ) (λb as _=>nil as (Ab (BX a) λx=>Ab (BX b) λy=>Q (.int (max x y)) σ)) as
def ZG{x y:Int}{t u:Tok}{P:Value->Prop}(h :∀t,P (.int (max x y) t)):P (if y>x then .int y u else .int x t):=by
 have e :∀(i:Int) t,i=max x y->P (.int i t):=λi t e=>e▸h t
 split
 ·exact e _ _ (by rename_i u0;exact(bF3 (bG3 u0)).symm)
 ·exact e _ _ (by rename_i u0;exact(bG8 (bA7.mp u0)).symm)
def Qj{as:List AV}(hh:X.A.handled=none)(h:Jw as c.σ Q){vas:List Value}(R:ŵ X c)(ra:Ŧ X c as vas):ŝ X c Q (call (.builtin "max") vas []):=
 AX h ra λa as va vas r1 ra h=>by
  cases as with
  | nil=>
   obtain rfl:vas=[]:=ra
   refine AC h λvs e1 h=>AC h λns e2 h=>Aw e1 R r1 λl us k p1 p2=>?_
   obtain⟨ps,rfl,rfl⟩:=Ie e2 p2
   have hne:0<ps.length:=aI6 λz=>h.1 (by rw[aF5 z];rfl)
   refine EX (max_intList (xs:=ps.toArray) hh (by have q:=AP p1;simpa[intItems]using q) hne λv h' tk hv hk hz=>?_)
   obtain⟨t,rfl⟩:=intItems_at hv
   obtain⟨h1,h2⟩:=argBest_gt (numAt ps.toArray) (ps.toArray.size-1)
   have hsz:ps.toArray.size=ps.length:=rfl
   rw[UG (m:=numAt ps.toArray (argBest (λi j=>decide (numAt ps.toArray i>numAt ps.toArray j)) (ps.toArray.size-1))) (ns:=ps.map (·.1)) (by rw[bN0];exact getD_mem (by rw[aB0];exact aD1 h1 (bM8 hne aR5))) λa ha=>by
    obtain⟨j,hj,rfl⟩:=mem_getD ha
    rw[aB0]at hj
    have:=h2 j (by exists 3,0x180b2012181028,hsz,hj)
    rw[bN0]at this
    exact this]
   exact .to (b:=AV.int _) (R.grow tk hk hz) (bP3 _) h.2
  | cons b as=>
   obtain⟨vb,vas',rfl,r2,ra⟩:=ra
   exact BU (P:=λvas'=>ŝ X c Q (call (.builtin "max") (va::vb::vas') [])) h ra λh=>AC h λx e1 h=>AC h λy e2 h=>A5 e1 r1 λt=>A5 e2 r2 λu=>
    EX (PySem.max_two_ints hh λh' tk hk hz=>ZG (P:=λv=>A1 X (VR X) c Q v {c.s with heap:=h',toks:=tk}) λt'=>.to (c':=c.hp c.σ h' tk) (b:=AV.int _) (R.grow tk hk hz) (bP3 _) h)
def Mb(as:List AV)(σ:St)(Q:AV->St->Prop):Prop:=nil as (Q (.ref σ.n) (σ.new (.set [])))
def Sw{as:List AV}(h:Mb as c.σ Q){vas:List Value}(R:ŵ X c)(ra:Ŧ X c as vas):ŝ X c Q (call (.type "set") vas []):=
 BU h ra λh=>Ra (.to (c':=c.add (.set []) _ c.s.toks) (b:=AV.ref c.σ.n) (R.alloc λp e=>⟨⟨GF X.L.w,#[],0,_,(bO6 _ e).trans (aC4 _ rfl),⟨rfl,rfl,rfl⟩,rfl,λe he=>(by simp at he),λk=>(by simp),(by decide),by cases(!X.L.w.params.followText "set-order")<;>decide,rfl⟩,bI1,GF X.L.w,#[],0,_,(bO6 _ e).trans (aC4 _ rfl),rfl,aV6.nil,rfl⟩) ⟨bO6 _ Ű.name_mu.symm,aC2 _⟩ h)
def Q0(as:List AV)(σ:St)(Q:AV->St->Prop):Prop:=Ap as λa as=>nil as (Ab (DR a) λp=>SK.rec False False (Dp (aV2 p.2.length 1000) (Q (.int p.2.length) σ)) p.1)
def X8{fN:aC1}{as:List AV}(N:Hd X.h₀ X.L.C fN)(h:Q0 as c.σ Q){vas:List Value}(R:ŵ X c)(ra:Ŧ X c as vas):ŝ X c Q (call (.builtin "len") vas []):=
 AX h ra λa as va vas r1 ra h=>BU h ra λh=>AC h λp e h=>by
  obtain⟨k,vs⟩:=p
  cases DH e r1 with
  | mk l us hv hp _ hr=>
  subst hv
  obtain⟨e',hp⟩:=hp
  cases k with
  | mat=>
   obtain⟨hz,h⟩:=A4 h
   exact VH N.toMatC N.len hp R.base (hr.len▸aK5 hz) λt u=>.int _ R (Eq.mpr (bO6 (λn:Nat=>Q (.int n) c.σ) hr.len) h)
  | _=>exact h.elim
end
def Cg{α:Type}(f:Nat->Nat->Bool)(n:Nat)(t:bO4 α):Prop:=bK5 (λ_=>True) (λi j _ ih=>i<n/\j<n/\i≠j/\ih (f i j)) t
def E1{α β:Type}(f:Nat->Nat->Bool)(g:α->bO4 β)(t:bO4 α):Ck f (t.bind g)=Ck f (g (Ck f t)):=bK5 (motive:=λt=>Ck f (t.bind g)=Ck f (g (Ck f t))) (λ_=>rfl) (λi j k ih=>ih (f i j)) t
def Dc{α β:Type}(f:Nat->Nat->Bool)(n:Nat)(g:α->bO4 β)(t:bO4 α):Cg f n t->Cg f n (g (Ck f t))->Cg f n (t.bind g):=
 bK5 (motive:=λt=>Cg f n t->Cg f n (g (Ck f t))->Cg f n (t.bind g)) (λ_ _ h=>h) (λi j k ih h h'=>⟨h.1,h.2.1,h.2.2.1,ih (f i j) h.2.2.2 h'⟩) t
def PE{α:Type}{f:Nat->Nat->Bool}{n:Nat}{cmp:Nat->Nat->(Bool->aA7->Prop)->aA7->Prop}{G:α->aA7->Prop}{s:aA7}(hc :∀i j,i<n->j<n->i≠j->∀C:Bool->aA7->Prop,C (f i j) s->cmp i j C s)(t:bO4 α):Cg f n t->G (Ck f t) s->t.kasWp cmp G s:=
 bK5 (motive:=λt=>Cg f n t->G (Ck f t) s->t.kasWp cmp G s) (λ_ _ h=>h) (λi j k ih hk h=>hc i j hk.1 hk.2.1 hk.2.2.1 _ (ih (f i j) hk.2.2.2 h)) t
structure kJ(f:Nat->Nat->Bool)(n:Nat):Prop where
 tot :∀i j,i<n->j<n->i≠j->f i j=false->f j i=true
 asym :∀i j,i<n->j<n->f i j=true->f j i=false
 trans :∀i j k,i<n->j<n->k<n->f i j=true->f j k=true->f i k=true
noncomputable def at_(p:Array Nat)(i:Nat):Nat:=p.getD i 0
def cD{p:Array Nat}{i x:Nat}(h:p[i]?=some x):at_ p i=x:=by
 unfold at_
 obtain⟨h1,h2⟩:=aP4.mp h
 rw[<-h2]
 simp[h1]
def JL{p:Array Nat}{i:Nat}(h:i<p.size):p[i]?=some (at_ p i):=by
 unfold at_
 simp[h]
def Ng{p q:Array Nat}{i j:Nat}(h:p[i]?=q[j]?):at_ p i=at_ q j:=by
 unfold at_
 rw[Array.getD_eq_getD_getElem?,Array.getD_eq_getD_getElem?,h]
structure Ų(n:Nat)(p:Array Nat):Prop where
 perm:p.toList.Perm (aC8 n)
theorem Ų.size{n:Nat}{p:Array Nat}(h:Ų n p):p.size=n:=by have:=h.perm.length_eq;simpa using this
def Ų.lt{n:Nat}{p:Array Nat}(h:Ų n p){i:Nat}(hi:i<n):at_ p i<n:=by
 have hm:at_ p i∈p.toList:=by
  have:=JL (p:=p) (i:=i) (by rw[h.size];exact hi)
  exact Array.mem_toList_iff.mpr (Array.mem_of_getElem? this)
 simpa using h.perm.mem_iff.mp hm
def Ų.ne{n:Nat}{p:Array Nat}(h:Ų n p){i j:Nat}(hi:i<n)(hj:j<n)(hne:i≠j):at_ p i≠at_ p j:=by
 intro e
 have hnd:p.toList.Nodup:=h.perm.nodup_iff.mpr bF8
 have h1:=JL (p:=p) (i:=i) (by rw[h.size];exact hi)
 have h2:=JL (p:=p) (i:=j) (by rw[h.size];exact hj)
 have:i=j:=(aT6 (by rw[aH4,h.size];exact hi) hnd).mp (by rw[aK3,aK3,h1,h2,e])
 exact hne this
section
variable{f:Nat->Nat->Bool}{n:Nat}(L:kJ f n)
def Œ(f:Nat->Nat->Bool)(p:Array Nat)(k:Nat):Prop:=∀i j,i<j->j<k->f (at_ p i) (at_ p j)=true
def Ř(f:Nat->Nat->Bool)(p:Array Nat)(k:Nat):Prop:=∀i j,i<j->j<k->f (at_ p j) (at_ p i)=true
include L
theorem VZ{p:Array Nat}(P:Ų n p){m:Nat}(h1:1<=m)(hm:m<n)(U:Œ f p m)(h:f (at_ p m) (at_ p (m-1))=false):Œ f p (m+1):=by
 have h0:f (at_ p (m-1)) (at_ p m)=true:=L.tot _ _ (P.lt hm) (P.lt (by exists 2,0x1180b11018,hm)) (P.ne hm (by exists 2,0x1180b11018,hm) (by exists 1,0x180b02901808,h1)) h
 intro i j hij hj
 by_cases e:j=m
 ·subst e
  by_cases e2:i=j-1
  ·subst e2;exact h0
  ·exact L.trans _ _ _ (P.lt (by exists 3,0x20121181018,hij,hm)) (P.lt (by exists 2,0x1180b11018,hm)) (P.lt hm) (U i (j-1) (by exists 2,0x181b01181b02981018,hij,e2) (by exists 2,0x1181b11018,hij)) h0
 ·exact U i j hij (by exists 2,0x10110298181a018,hj,e)
theorem Ld{p:Array Nat}(P:Ų n p) :∀(fuel m:Nat),1<=m->m+fuel<=n->Œ f p m->Cg f n (kas_asc p fuel m)/\m<=Ck f (kas_asc p fuel m)/\Ck f (kas_asc p fuel m)<=m+fuel/\Œ f p (Ck f (kas_asc p fuel m))/\
  (Ck f (kas_asc p fuel m)<m+fuel->f (at_ p (Ck f (kas_asc p fuel m))) (at_ p (Ck f (kas_asc p fuel m)-1))=true)
 | 0,m,h1,h2,U=>⟨trivial,aA9 _,aA9 _,U,λh=>bO9 h (aM6 _)⟩
 | fuel+1,m,h1,h2,U=>by
  have hm:m<n:=by exists 3,0x2012181a0a08,h2
  cases hc:f (at_ p m) (at_ p (m-1))with
  | true=>
   have e:Ck f (kas_asc p (fuel+1) m)=m:=by
    show Ck f (if f (at_ p m) (at_ p (m-1))=true then aZ0 m else kas_asc p fuel (m+1))=m
    rw[hc];rfl
   refine⟨⟨P.lt hm,P.lt (by exists 3,0x2180b12181a0a08,h2),P.ne hm (by exists 3,0x2180b12181a0a08,h2) (by exists 1,0x180b02901808,h1),?_⟩,?_⟩
   ·show Cg f n (if f (at_ p m) (at_ p (m-1))=true then aZ0 m else kas_asc p fuel (m+1))
    rw[hc];trivial
   ·rw[e];exact⟨aA9 _,by(exists 2,0x181a0a00),U,λ_=>hc⟩
  | false=>
   have ih:=Ld P fuel (m+1) (by exists 1,0x180a180) (by exists 3,0x21180aa02181a0a08,h2) (VZ L P h1 hm U hc)
   have e:Ck f (kas_asc p (fuel+1) m)=Ck f (kas_asc p fuel (m+1)):=by
    show Ck f (if f (at_ p m) (at_ p (m-1))=true then aZ0 m else kas_asc p fuel (m+1))=_
    rw[hc];rfl
   refine⟨⟨P.lt hm,P.lt (by exists 3,0x2180b12181a0a08,h2),P.ne hm (by exists 3,0x2180b12181a0a08,h2) (by exists 1,0x180b02901808,h1),?_⟩,?_⟩
   ·show Cg f n (if f (at_ p m) (at_ p (m-1))=true then aZ0 m else kas_asc p fuel (m+1))
    rw[hc];exact ih.1
   ·rw[e];exact⟨by(exists 2,0x1001180a08,ih.2.1),by(exists 3,0x182a1a002181aa008,ih.2.2.1),ih.2.2.2.1,λh=>ih.2.2.2.2 (by exists 3,0x2181aa01182a1a018,h)⟩
theorem NC{p:Array Nat}(P:Ų n p) :∀(fuel m:Nat),1<=m->m+fuel<=n->Ř f p m->Cg f n (aZ1 fuel p m 0)/\∃r,Ck f (aZ1 fuel p m 0)=(p,r,0)/\m<=r/\r<=m+fuel/\Ř f p r
 | 0,m,h1,h2,U=>⟨trivial,m,rfl,aA9 _,aA9 _,U⟩
 | fuel+1,m,h1,h2,U=>by
  have hm:m<n:=by exists 3,0x2012181a0a08,h2
  have red :∀(b:Bool),f (at_ p m) (at_ p (m-1))=b->(Cg f n (if b=true then(if 0>0 then aZ1 fuel (kas_rev p (m-(0+1)) m) (m+1) 0 else aZ1 fuel p (m+1) 0)else bN1 (at_ p (m-1)) (at_ p m) λd=>if d=true then aZ0 (p,m,0)else aZ1 fuel p (m+1) (0+1))->Cg f n (aZ1 (fuel+1) p m 0))/\
    Ck f (aZ1 (fuel+1) p m 0)=Ck f (if b=true then(if 0>0 then aZ1 fuel (kas_rev p (m-(0+1)) m) (m+1) 0 else aZ1 fuel p (m+1) 0)else bN1 (at_ p (m-1)) (at_ p m) λd=>if d=true then aZ0 (p,m,0)else aZ1 fuel p (m+1) (0+1)):=by
   intro b hb
   subst hb
   exact⟨λh=>⟨P.lt hm,P.lt (by exists 3,0x2180b12181a0a08,h2),P.ne hm (by exists 3,0x2180b12181a0a08,h2) (by exists 1,0x180b02901808,h1),h⟩,rfl⟩
  cases hc:f (at_ p m) (at_ p (m-1))with
  | true=>
   have D':Ř f p (m+1):=by
    intro i j hij hj
    by_cases e:j=m
    ·subst e
     by_cases e2:i=j-1
     ·subst e2;exact hc
     ·exact L.trans _ _ _ (P.lt hm) (P.lt (by exists 3,0x2180b12181a0a08,h2)) (P.lt (by exists 4,0x3013182a1a081018,hij,h2)) hc (U i (j-1) (by exists 2,0x181b01181b02981018,hij,e2) (by exists 2,0x1181b11018,hij))
    ·exact U i j hij (by exists 2,0x10110298181a018,hj,e)
   obtain⟨i1,r,i2,i3,i4,i5⟩:=NC P fuel (m+1) (by exists 1,0x180a180) (by exists 3,0x21180aa02181a0a08,h2) D'
   obtain⟨r1,r2⟩:=red true hc
   refine⟨r1 ?_,r,?_,by(exists 2,0x1001180a08,i3),by(exists 3,0x182a1a002181aa008,i4),i5⟩
   ·simpa using i1
   ·rw[r2];simpa using i2
  | false=>
   have hd:f (at_ p (m-1)) (at_ p m)=true:=L.tot _ _ (P.lt hm) (P.lt (by exists 3,0x2180b12181a0a08,h2)) (P.ne hm (by exists 3,0x2180b12181a0a08,h2) (by exists 1,0x180b02901808,h1)) hc
   obtain⟨r1,r2⟩:=red false hc
   refine⟨r1 ?_,m,?_,aA9 _,by(exists 2,0x181a0a00),U⟩
   ·simp only[aI3,if_false]
    refine⟨P.lt (by exists 3,0x2180b12181a0a08,h2),P.lt hm,P.ne (by exists 3,0x2180b12181a0a08,h2) hm (by exists 1,0x180b2901808,h1),?_⟩
    show Cg f n (if f (at_ p (m-1)) (at_ p m)=true then _ else _)
    rw[hd];trivial
   ·rw[r2]
    simp only[aI3,if_false]
    show Ck f (if f (at_ p (m-1)) (at_ p m)=true then _ else _)=_
    rw[hd];rfl
theorem Hm{p:Array Nat}(P:Ų n p){k:Nat}(hk:k<n)(U:Œ f p k) :∀(fuel l r:Nat),l<=r->r<=k->r-l<=fuel->(∀i,i<l->f (at_ p i) (at_ p k)=true)->(∀i,r<=i->i<k->f (at_ p k) (at_ p i)=true)->
  Cg f n (aN9 p k fuel l r)/\Ck f (aN9 p k fuel l r)<=k/\(∀i,i<Ck f (aN9 p k fuel l r)->f (at_ p i) (at_ p k)=true)/\(∀i,Ck f (aN9 p k fuel l r)<=i->i<k->f (at_ p k) (at_ p i)=true)
 | 0,l,r,h1,h2,h3,ō,Ξ=>by
  have:l=r:=by exists 2,0x1020801b081008,h1,h3
  subst this
  exact⟨trivial,h2,ō,Ξ⟩
 | fuel+1,l,r,h1,h2,h3,ō,Ξ=>by
  by_cases hlr:l≥r
  ·have:l=r:=by exists 2,0x10201081008,h1,hlr
   subst this
   have e:aN9 p k (fuel+1) l l = .ret l:=by
    unfold aN9
    rw[bO7 (aA9 _)]
   rw[e]
   exact⟨trivial,h2,ō,Ξ⟩
  ·have e:aN9 p k (fuel+1) l r = .ask (at_ p k) (at_ p ((l+r) / 2)) λc=>if c=true then aN9 p k fuel l ((l+r) / 2)else aN9 p k fuel ((l+r) / 2+1) r:=by
    show(if l≥r then _ else _)=_
    rw[bO8 hlr];rfl
   have hmid:(l+r) / 2<r/\l<=(l+r) / 2:=by omega
   cases hc:f (at_ p k) (at_ p ((l+r) / 2))with
   | true=>
    have ih:=Hm P hk U fuel l ((l+r) / 2) hmid.2 (by exists 3,0x12002181008,h2,hmid.1) (by exists 4,0x213b00318182a10b08,h3,hmid.1) ō (λi hi hik=>by
     by_cases e2:i=(l+r) / 2
     ·subst e2;exact hc
     ·exact L.trans _ _ _ (P.lt hk) (P.lt (by exists 4,0x131231802081018,hk,h2,hmid.1)) (P.lt (by exists 3,0x12102181018,hk,hik)) hc (U _ i (by exists 2,0x101012981008,hi,e2) hik))
    have e3:Ck f (aN9 p k (fuel+1) l r)=Ck f (aN9 p k fuel l ((l+r) / 2)):=by
     rw[e]
     show Ck f (if f (at_ p k) (at_ p ((l+r) / 2))=true then _ else _)=_
     rw[hc];rfl
    rw[e3]
    refine⟨?_,ih.2⟩
    rw[e]
    refine⟨P.lt hk,P.lt (by exists 4,0x131231802081018,hk,h2,hmid.1),P.ne hk (by exists 4,0x131231802081018,hk,h2,hmid.1) (by exists 3,0x212902181008,h2,hmid.1),?_⟩
    show Cg f n (if f (at_ p k) (at_ p ((l+r) / 2))=true then _ else _)
    rw[hc];exact ih.1
   | false=>
    have hd:f (at_ p ((l+r) / 2)) (at_ p k)=true:=L.tot _ _ (P.lt hk) (P.lt (by exists 4,0x131231802081018,hk,h2,hmid.1)) (P.ne hk (by exists 4,0x131231802081018,hk,h2,hmid.1) (by exists 3,0x212902181008,h2,hmid.1)) hc
    have ih:=Hm P hk U fuel ((l+r) / 2+1) r (by exists 2,0x1180a01018,hmid.1) h2 (by exists 4,0x2183a0b03108182a10b08,h3,hmid.2) (λi hi=>by
     by_cases e2:i=(l+r) / 2
     ·subst e2;exact hd
     ·exact L.trans _ _ _ (P.lt (by exists 5,0x141183a418231802081018,hk,h2,hmid.1,hi)) (P.lt (by exists 4,0x131231802081018,hk,h2,hmid.1)) (P.lt hk) (U i _ (by exists 2,0x10110298181a018,hi,e2) (by exists 3,0x12102181008,h2,hmid.1)) hd) Ξ
    have e3:Ck f (aN9 p k (fuel+1) l r)=Ck f (aN9 p k fuel ((l+r) / 2+1) r):=by
     rw[e]
     show Ck f (if f (at_ p k) (at_ p ((l+r) / 2))=true then _ else _)=_
     rw[hc];rfl
    rw[e3]
    refine⟨?_,ih.2⟩
    rw[e]
    refine⟨P.lt hk,P.lt (by exists 4,0x131231802081018,hk,h2,hmid.1),P.ne hk (by exists 4,0x131231802081018,hk,h2,hmid.1) (by exists 3,0x212902181008,h2,hmid.1),?_⟩
    show Cg f n (if f (at_ p k) (at_ p ((l+r) / 2))=true then _ else _)
    rw[hc];exact ih.1
theorem Wk{p:Array Nat}(P:Ų n p){k l:Nat}(hk:k<n)(hl:l<=k)(U:Œ f p k)(h1 :∀i,i<l->f (at_ p i) (at_ p k)=true)(h2 :∀i,l<=i->i<k->f (at_ p k) (at_ p i)=true) :
  Ų n (bubble p k (k-l))/\Œ f (bubble p k (k-l)) (k+1):=by
 refine⟨⟨(Array.perm_iff_toList_perm.mp (bubble_perm p k (k-l))).trans P.perm⟩,?_⟩
 have g :∀i,(bubble p k (k-l))[i]?=if i=l then p[k]? else if l<i/\i<=k then p[i-1]? else p[i]?:=by
  intro i
  rw[getElem?_bubble (by rw[P.size];exact hk) (k-l) (by exists 2,0x10b0) i,show k-(k-l)=l by exists 2,0x1b1b21008,hl]
 have a :∀i,at_ (bubble p k (k-l)) i=if i=l then at_ p k else if l<i/\i<=k then at_ p (i-1)else at_ p i:=by
  intro i
  by_cases e1:i=l
  ·rw[bO7 e1];exact Ng (by rw[g,bO7 e1])
  ·by_cases e2:l<i/\i<=k
   ·rw[bO8 e1,bO7 e2];exact Ng (by rw[g,bO8 e1,bO7 e2])
   ·rw[bO8 e1,bO8 e2];exact Ng (by rw[g,bO8 e1,bO8 e2])
 intro i j hij hj
 rw[a,a]
 by_cases e1:i=l
 ·rw[bO7 e1,bO8 (by exists 3,0x212920281018,hij,e1),bO7 (by exists 4,0x21013163028182a1181018,hij,hj,e1)]
  exact h2 _ (by exists 3,0x181b2020281018,hij,e1) (by exists 3,0x2181b1182a1181018,hij,hj)
 ·by_cases e2:j=l
  ·rw[bO7 e2,bO8 e1,bO8 (by exists 4,0x3000216921281018,hij,e2)]
   exact h1 i (by exists 3,0x20121281018,hij,e2)
  ·rw[bO8 e1,bO8 e2]
   by_cases e3:l<i/\i<=k
   ·rw[bO7 e3,bO7 (by exists 4,0x21013160318182a1181018,hij,hj,e3.1)]
    exact U _ _ (by exists 3,0x181b180b102181018,hij,e3.1) (by exists 3,0x2181b1182a1181018,hij,hj)
   ·rw[bO8 e3]
    by_cases e4:l<j/\j<=k
    ·rw[bO7 e4];exact U _ _ (by exists 4,0x181b01200031698302981318182a1181018,hij,hj,e4.1,e1,e3) (by exists 3,0x2181b1182a1181018,hij,hj)
    ·rw[bO8 e4];exact U _ _ (by exists 2,0x1011018,hij) (by exists 3,0x12112020169802298181a2181008,hl,hj,e2,e4)
theorem Qh :∀(fuel k:Nat) (p:Array Nat),k+fuel=n->1<=k->Ų n p->Œ f p k->Cg f n (kas_bin fuel p k)/\Ų n (Ck f (kas_bin fuel p k))/\Œ f (Ck f (kas_bin fuel p k)) n
 | 0,k,p,h1,h2,P,U=>by
  have:k=n:=by exists 2,0x1021080a28,h1
  subst this
  exact⟨trivial,P,U⟩
 | fuel+1,k,p,h1,h2,P,U=>by
  have hk:k<n:=by exists 3,0x2012181a0a28,h1
  obtain⟨q1,Ľ,q3,ő⟩:=Hm L P hk U k 0 k (aC7 _) (aA9 _) (by exists 1,0x80b0) (λi hi=>bO9 hi (aE6 _)) (λi hi hik=>bO9 hik (by exists 2,0x1191008,hi))
  obtain⟨b1,b2⟩:=Wk L P hk Ľ U q3 ő
  have ih:=Qh fuel (k+1) _ (by exists 3,0x21180aa22181a0a28,h1) (by exists 1,0x180a180) b1 b2
  show Cg f n ((aN9 p k k 0 k).bind _)/\Ų n (Ck f ((aN9 p k k 0 k).bind _))/\Œ f (Ck f ((aN9 p k k 0 k).bind _)) n
  rw[E1]
  exact⟨Dc f n _ _ q1 ih.1,ih.2⟩
theorem WT{p:Array Nat}(P:Ų n p){m:Nat}(hm:m<=n)(D:Ř f p m):Ų n (kas_rev p 0 m)/\Œ f (kas_rev p 0 m) m:=by
 refine⟨⟨(Array.perm_iff_toList_perm.mp (mirror_perm p 0 m ((m-0) / 2))).trans P.perm⟩,?_⟩
 have a :∀i,i<m->at_ (kas_rev p 0 m) i=at_ p (m-1-i):=by
  intro i hi
  refine Ng ?_
  unfold kas_rev
  rw[getElem?_mirror_all (by rw[P.size];exact hm),bO7 ⟨aC7 _,hi⟩]
  congr 1;exists 2,0x1180bb118008abb2
 intro i j hij hj
 rw[a i (by exists 3,0x20121181018,hij,hj),a j hj]
 exact D _ _ (by exists 3,0x182bb1182bb121181018,hij,hj) (by exists 3,0x12181bb11018,hj)
theorem U5(h2:2<=n):Cg f n (aZ2 n)/\Ų n (Ck f (aZ2 n))/\Œ f (Ck f (aZ2 n)) n:=by
 have P₀:Ų n (aE2 (aC8 n)):=⟨by simp⟩
 have U₁ :∀(p:Array Nat),Œ f p 1:=λp i j h1 h2=>bO9 h2 (by exists 2,0x181191018,h1)
 have cnt:Cg f n (bN6 n (aE2 (aC8 n)))/\∃m p,Ck f (bN6 n (aE2 (aC8 n)))=(m,p)/\1<=m/\m<=n/\Ų n p/\Œ f p m:=by
  unfold bN6
  obtain⟨ź,a2,a3,š,a5⟩:=Ld L P₀ (n-1) 1 (aA9 _) (by exists 1,0x180b18a002808,h2) (U₁ _)
  rw[E1]
  generalize hr:Ck f (kas_asc (aE2 (aC8 n)) (n-1) 1)=r at a2 a3 š a5
  suffices hh:Cg f n (if(r==n)=true then aZ0 (r,aE2 (aC8 n))else if r>1 then bN1 ((aE2 (aC8 n)).getD 0 0) ((aE2 (aC8 n)).getD (r-1) 0) λc=>if c=true then aZ0 (r,aE2 (aC8 n))else bD1 r n (kas_rev (aE2 (aC8 n)) 0 r)else bD1 r n (aE2 (aC8 n)))/\
    ∃m p,Ck f (if(r==n)=true then aZ0 (r,aE2 (aC8 n))else if r>1 then bN1 ((aE2 (aC8 n)).getD 0 0) ((aE2 (aC8 n)).getD (r-1) 0) λc=>if c=true then aZ0 (r,aE2 (aC8 n))else bD1 r n (kas_rev (aE2 (aC8 n)) 0 r)else bD1 r n (aE2 (aC8 n)))=(m,p)/\1<=m/\m<=n/\Ų n p/\Œ f p m by
   exact⟨Dc f n _ _ ź (by rw[hr];exact hh.1),hh.2⟩
  by_cases e1:r=n
  ·have:(r==n)=true:=by simp[e1]
   rw[bO7 this]
   exact⟨trivial,r,_,rfl,a2,by(exists 2,0x10180b18a10802808,h2,a3),P₀,š⟩
  ·have:¬ (r==n)=true:=by simp[e1]
   rw[bO8 this]
   by_cases e2:r>1
   ·rw[bO7 e2]
    have hc:f (at_ (aE2 (aC8 n)) 0) (at_ (aE2 (aC8 n)) (r-1))=true:=š 0 (r-1) (by exists 1,0x180b08101818,e2) (by exists 1,0x180b101808,a2)
    refine⟨⟨P₀.lt (by exists 1,0x8102808,h2),P₀.lt (by exists 2,0x181b1180b18a10802808,h2,a3),P₀.ne (by exists 1,0x8102808,h2) (by exists 2,0x181b1180b18a10802808,h2,a3) (by exists 1,0x180b082901818,e2),?_⟩,r,aE2 (aC8 n),?_,a2,by(exists 2,0x10180b18a10802808,h2,a3),P₀,š⟩
    ·show Cg f n (if f (at_ (aE2 (aC8 n)) 0) (at_ (aE2 (aC8 n)) (r-1))=true then _ else _)
     rw[hc];trivial
    ·show Ck f (if f (at_ (aE2 (aC8 n)) 0) (at_ (aE2 (aC8 n)) (r-1))=true then _ else _)=_
     rw[hc];rfl
   ·rw[bO8 e2]
    have er:r=1:=by exists 1,0x180201819801808,a2,e2
    subst er
    have Xu:=a5 (by exists 1,0x180b18a18102808,h2)
    have D2:Ř f (aE2 (aC8 n)) 2:=λi j hij hj=>by
     have:i=0:=by exists 2,0x802281181018,hij,hj
     have:j=1:=by exists 2,0x1812281181018,hij,hj
     subst i j
     exact Xu
    obtain⟨d1,m,d2,ň,Ī,d5⟩:=NC L P₀ (n-(1+1)) (1+1) (by exists 0,0x1818a180) (by exists 1,0x1818a0b1818aa002808,h2) D2
    obtain⟨v1,v2⟩:=WT L P₀ (m:=m) (by exists 2,0x101818a0b1818aa10802808,h2,Ī) d5
    obtain⟨b1,b2,b3,Ŵ,_⟩:=Ld L v1 (n-m) m (by exists 1,0x18001818a08,ň) (by exists 2,0x10b1a01818a0b1818aa10802808,h2,Ī) v2
    unfold bD1
    rw[E1,d2]
    have hz:¬ ((aE2 (aC8 n),m,0):Array Nat×Nat×Nat).2.2>0:=by simp
    refine⟨Dc f n _ _ d1 ?_,?_⟩
    ·rw[d2,bO8 hz]
     exact Dc f n _ _ b1 trivial
    ·rw[bO8 hz]
     unfold kas_tail3
     rw[E1]
     exact⟨Ck f (kas_asc (kas_rev (aE2 (aC8 n)) 0 m) (n-m) m),kas_rev (aE2 (aC8 n)) 0 m,rfl,by(exists 2,0x1180100801818a08,ň,b2),by(exists 3,0x2010b1a2081818a0b1818aa10802808,h2,Ī,b3),v1,Ŵ⟩
 obtain⟨c1,m,p,c2,c3,c4,c5,c6⟩:=cnt
 unfold aZ2
 rw[E1,c2]
 by_cases e:m<n
 ·rw[bO7 e,show max m 1=m by exists 1,0x180e201808,c3]
  have b:=Qh L (n-m) m p (by exists 2,0x101b0a21008,c4) c3 c5 c6
  refine⟨Dc f n _ _ c1 ?_,b.2⟩
  rw[c2,bO7 e,show max (m,p).1 1=m by simp;exists 1,0x180e201808,c3]
  exact b.1
 ·have:m=n:=by exists 2,0x102101981008,c4,e
  subst this
  rw[bO8 (aM6 _)]
  refine⟨Dc f m _ _ c1 ?_,c5,c6⟩
  rw[c2,bO8 (aM6 _)]
  trivial
end
def Sl(prog:aG3)(w:aB9)(A:aH7)(us:List Value)(xs:List Int)(s:aA7):Prop:=2<=us.length->∃κ,(∀Q:SortKind->aA7->Prop,Q κ s->∀E,aD2 (aD9 prog w) A (keyKind' us.toArray) Q E s)/\
 ∀i j,i<xs.length->j<xs.length->(xs.getD i 0==xs.getD j 0)=false->∀Q:Bool->aA7->Prop,Q (decide (xs.getD i 0<xs.getD j 0)) s->aD2 (aD9 prog w) A (keyLt' κ (us.getD i .none) (us.getD j .none)) Q (λ_ _=>False) s
def Hk{α:Type}(l:List α)(d:α):(aC8 l.length).map (λi=>l.getD i d)=l:=List.ext_getElem (by rw[aB0,aG6]) λi h1 h2=>by
 rw[bF9,List.getElem_range,aB2,aA6 h2]
 rfl
def Mh{xs:List Int}(hn:xs.Nodup){i j:Nat}(hi:i<xs.length)(hj:j<xs.length)(h:i≠j):(xs.getD i 0==xs.getD j 0)=false:=beq_eq_false_iff_ne.mpr λe=>h ((aT6 hi hn).mp (by
 rw[aB2,aB2,aA6 hi,aA6 hj]at e
 rw[aA6 hi,aA6 hj]
 exact bO6 some e))
def eX{xs:List Int}(hn:xs.Nodup):kJ (λi j=>decide (xs.getD i 0<xs.getD j 0)) xs.length:=
 ⟨λi j hi hj h e=>bP0 ((Int.lt_or_gt_of_ne (ne_of_beq_false (Mh hn hi hj h))).resolve_left (of_decide_eq_false e)),λi j _ _ e=>bP1 (bA7.mpr (bG3 (bP2 e))),λi j k _ _ _ e1 e2=>bP0 (bC9 (bP2 e1) (bP2 e2))⟩
def Pu{xs:List Int}(hn:xs.Nodup)(h2:2<=xs.length):Cg (λi j=>decide (xs.getD i 0<xs.getD j 0)) xs.length (aZ2 xs.length)/\(Ck (λi j=>decide (xs.getD i 0<xs.getD j 0)) (aZ2 xs.length)).toList.Perm (aC8 xs.length)/\
  ((Ck (λi j=>decide (xs.getD i 0<xs.getD j 0)) (aZ2 xs.length)).toList.map λi=>xs.getD i 0).Pairwise (· < ·):=by
 obtain⟨ľ,k2,k3⟩:=U5 (eX hn) h2
 generalize Ck (λi j=>decide (xs.getD i 0<xs.getD j 0)) (aZ2 xs.length)=p at k2 k3 ⊢
 refine⟨ľ,k2.perm,aT4.mpr (aN4.mpr λi j hi hj hij=>?_)⟩
 have g :∀{i} (h:i<p.toList.length),at_ p i=p.toList[i]:=λ{i} h=>cD (by rw[<-aK3,aA6 h])
 have:=bP2 (k3 i j hij (by rw[<-k2.size,<-aH4];exact hj))
 rw[g hi,g hj]at this
 exact this
section
variable{prog:aG3}{w:aB9}{A:aH7}{E:Value->aA7->Prop}{s:aA7}
def SM{a:aC1}{us:List Value}{xs:List Int}{k:Nat}{P:bN4->aA7->Prop}(ha:s.heap.get? a=some (Ad us k))(hl:us.length=xs.length)(Zj:xs.length<64)(hn:xs.Nodup)
  (hK :∀h',(∀b o,b≠a->s.heap.get? b=some o->h'.get? b=some o)->Sl prog w A us xs {s with heap:=h'})
  (h :∀(h':aF0) (c:Nat) (p:List Nat),p.Perm (aC8 xs.length)->(p.map λi=>xs.getD i 0).Pairwise (· < ·)->h'.get? a=some (Ad (p.map λi=>us.getD i .none) c)->(∀b o,b≠a->s.heap.get? b=some o->h'.get? b=some o)->s.heap.objs.size<=h'.objs.size->P (.done (.ret .none)) {s with heap:=h'}) :
  aD2 (aD9 prog w) A (aE0.«list.sort» ⟨[.ref a],[]⟩) P E s:=by
 obtain⟨hh,g',d,tk,os⟩:=s
 have ha:hh.get? a=some (seqObj "list" us.toArray k):=ha
 have n1:us.toArray.size<=bB5:=aA3 (aB7 hl) (aA3 (aE4 Zj) (by decide))
 rw[list_sort_plain]
 refine aA2 (listItems_at ha rfl ?_)
 refine aA2 (bJ2 ha rfl ?_ n1 (aC7 _))
 obtain⟨e1,ho1⟩ :∃e1,(hh.update a (aK4 λ_=>(#[]:Array Value))).get? a=some (seqObj "list" #[] e1):=⟨_,get?_update_seq ha λ_=>#[]⟩
 refine aA2 (bL8 ho1 rfl ?_)
 refine aA2 (wpAny_newTuple ?_ n1)
 refine aA2 (wpAny_newList ?_ (aC7 _))
 refine aJ8 ?_
 generalize hh3:((hh.update a (aK4 λ_=>(#[]:Array Value))).push {cls:=.type "tuple",data:=.seq us.toArray.toList.toArray}).push {cls:=.type "list",data:=.seq ([]:List Value).toArray}=h3
 have k3 :∀b o,b≠a->hh.get? b=some o->h3.get? b=some o:=λb o hb e=>hh3▸aB1 _ (aB1 _ ((aJ7 _ _ (bC8 hb)).trans e))
 have a3:h3.get? a=some (seqObj "list" #[] e1):=hh3▸aB1 _ (aB1 _ ho1)
 have ĳ:hh.objs.size<=h3.objs.size:=hh3▸aA3 (aB7 (aJ9 ..).symm) (aA3 (Cu _) (Cu _))
 dsimp only
 have fin :∀(p:List Nat),p.Perm (aC8 xs.length)->(p.map λi=>xs.getD i 0).Pairwise (· < ·)->∀out,out=aE2 (p.map λi=>us.getD i aI9)->P (.done (.ret .none)) ⟨h3.update a (aK4 λ_=>out),g',d,tk,os⟩:=λp q1 Ľ out e=>by
  subst e
  obtain⟨c,hc⟩ :∃c,(h3.update a (aK4 λ_=>aE2 (p.map λi=>us.getD i aI9))).get? a=some (seqObj "list" (aE2 (p.map λi=>us.getD i aI9)) c):=⟨_,get?_update_seq a3 λ_=>_⟩
  exact h _ c p q1 Ľ hc (λb o hb e=>(aJ7 _ _ (bC8 hb)).trans (k3 b o hb e)) (aA3 ĳ (aB7 (aJ9 ..).symm))
 refine(aY2 us.toArray.size 2).elim (λls=>?_) λls=>?_
 ·rw[bO7 ls,bO7 ls]
  refine aA2 (aA4 ?_)
  rw[StateT.run_pure]
  refine aA2 (aA4 ?_)
  dsimp only
  refine aA2 (bL8 a3 rfl ?_)
  have e:(arrOf (SortSt.mk' general' (us.toArray.zip us.toArray) #[] 7 none)).map (·.2)=aE2 ((aC8 xs.length).map λi=>us.getD i aI9):=by
   rw[<-hl,Hk]
   show(us.toArray.zip us.toArray).map (·.2)=_
   rw[List.zip_toArray,List.map_toArray]
   exact bO6 aE2 (List.map_snd_zip (aA9 _))
  rw[e]
  refine aA2 (bJ2 a3 rfl ?_ (aC7 _) (aA3 (aB7 ((aB0 ..).trans aG6)) (aA3 (aE4 Zj) (by decide))))
  simp only[bne_self_eq_false,aI3,if_false]
  refine aA4 (fin (aC8 xs.length) (.refl _) (aN4.mpr λi j hi hj hij=>?_) _ rfl)
  rw[aB0,aG6,<-hl]at hj
  exact bO9 (aD1 hij hj) (λz=>bO9 (aB3 z (aJ3 ls)) (aM3.mpr (aG8 (aC7 i))))
 ·have ls':¬ us.toArray.size<2:=aM3.mpr ls
  rw[bO8 ls',bO8 ls']
  obtain⟨κ,q1,Ľ⟩:=hK h3 k3 ls
  obtain⟨s1,s2,s3⟩:=Pu hn (hl▸ls)
  refine aA2 (q1 _ ?_ _)
  refine aA2 (aP5 (kat_run (Q:=λst' s'=>s'=⟨h3,g',d,tk,os⟩/\(arrOf st').map (·.2)=aE2 ((Ck (λi j=>decide (xs.getD i 0<xs.getD j 0)) (aZ2 xs.length)).toList.map λi=>us.getD i aI9)/\failedOf st'=none) (G:=λq s'=>s'=⟨h3,g',d,tk,os⟩/\q=Ck (λi j=>decide (xs.getD i 0<xs.getD j 0)) (aZ2 xs.length)) rfl ls (aD1 (aB7 hl) Zj) (λq st' s' q1 Ľ q3 ő=>⟨ő.1,?_,q3⟩) ?_) (λr s' hr=>?_) λ_ _ e=>e)
  ·rw[kat_snds rfl Ľ,ő.2]
  ·rw[hl]
   exact PE (λi j hi hj hij C' hC=>Ľ i j hi hj (Mh hn hi hj hij) _ hC) _ s1 ⟨rfl,rfl⟩
  ·obtain⟨⟨⟩,st'⟩:=r
   obtain⟨rfl,p3,p4⟩:=hr
   refine aA2 (bL8 a3 rfl ?_)
   rw[p3,p4]
   refine aA2 (bJ2 a3 rfl ?_ (aC7 _) (aA3 (aB7 ((aB0 ..).trans (s2.length_eq.trans aG6))) (aA3 (aE4 Zj) (by decide))))
   simp only[bne_self_eq_false,aI3,if_false]
   exact aA4 (fin _ s2 s3 _ rfl)
end
def I7(g:AV->Option Int)(vs:List AV):Option (List Int):=aB5 (some []) (λa _ ih=>(g a).bind λx=>ih.map (x :: ·)) vs
section
variable{X:Cx}{c:Ž}{Q:AV->St->Prop}
def Xg{a:AV}{x:Int}{v:Value}(e:uZ a=some x)(r:VR X c a v):Oo X.L.C c.s.heap v x:=by
 obtain⟨⟨k,vs⟩,e1,e⟩:=AF e
 cases DH e1 r with
 | mk l us hv hp _ hr=>
 cases k with
 | mat=>
  cases vs with
  | nil=>exact AA e
  | cons b vs=>
   obtain⟨w,r',rfl,q1,_⟩:=hr
   obtain⟨k,hp⟩:=hp
   exact A5 (P:=λw=>c.s.heap.get? l=some (BW X.L.C (w::r') k)->Oo X.L.C c.s.heap v x) e q1 (λt hp=>⟨l,k,t,r',hv,hp⟩) hp
 | _=>exact AA e
def Sp{g:AV->Option Int}{T:Value->Int->Prop}(hg :∀a x v,g a=some x->VR X c a v->T v x){vs:List AV} :∀{xs:List Int} {us:List Value},I7 g vs=some xs->Ŧ X c vs us->us.length=xs.length/\∀i,i<xs.length->T (us.getD i .none) (xs.getD i 0):=by
 refine aB5 (motive:=λvs=>∀{xs:List Int} {us:List Value},I7 g vs=some xs->Ŧ X c vs us->us.length=xs.length/\∀i,i<xs.length->T (us.getD i .none) (xs.getD i 0)) (λ{xs us} e q=>aA1 e▸(show us=[]from q)▸⟨rfl,λi h=>bO9 h (aE6 i)⟩) (λa r ih xs us e q=>?_) vs
 obtain⟨x,e1,e⟩:=AF e
 obtain⟨ys,e2,rfl⟩:=map_some e
 obtain⟨v,u,rfl,q1,Ľ⟩:=q
 refine⟨bO6 aQ9 (ih e2 Ľ).1,λi h=>?_⟩
 cases i with
 | zero=>exact hg a x v e1 q1
 | succ i=>exact(ih e2 Ľ).2 i (aS2 h)
def Pz{A:aH7}{s:aA7}{h₀:aF0}{C fN:aC1}{us:List Value}{xs:List Int}{prog:aG3}{w:aB9}(N:Hd h₀ C fN)(hk :∀b o,h₀.get? b=some o->s.heap.get? b=some o)(hu:A.units<cLine)(hl:us.length=xs.length)(hx :∀i,i<xs.length->Oo C s.heap (us.getD i .none) (xs.getD i 0)):Sl prog w A us xs s:=λh2=>
 ⟨oneType',λQ hQ E=>kas_kind h2 (λv hv=>by
  obtain⟨i,hi⟩:=List.mem_iff_getElem?.mp hv
  obtain⟨m,kk,t,r,f1,f2⟩:=hx i (hl▸(aA5.mp hi).1)
  rw[aB2,hi]at f1
  rw[show v = .ref m from f1]
  exact(bM9 f2).andThen .now) rfl (by simp) hQ,λi j hi hj hne Q hQ=>Z4 N hk hu (hx i hi) (hx j hj) hne hQ⟩
def Yz(g:AV->Option Int)(vs:List AV)(K:List AV->Prop):Prop:=∃xs,I7 g vs=some xs/\(xs.length<64/\xs.Nodup)/\∀p:List Nat,p.Perm (aC8 xs.length)->(p.map λi=>xs.getD i 0).Pairwise (· < ·)->K (p.map λi=>vs.getD i .none)
def H2(as:List AV)(σ:St)(Q:AV->St->Prop):Prop:=Ap as λa as=>nil as (Kl σ a λx vs=>Yz uZ vs λws=>Q .none (σ.set x (.list ws)))
def P9{fN:aC1}{as:List AV}(N:Hd X.h₀ X.L.C fN)(hu:X.A.units+10<cLine)(h:H2 as c.σ Q){vas:List Value}(R:ŵ X c)(ra:Ŧ X c as vas):ŝ X c Q (call (.builtin "list.sort") vas []):=
 AX h ra λa as va vas r1 ra h=>BU h ra λh=>Gr h R r1 λx vs us n hx p1 p2 hz h=>by
  obtain⟨xs,e,h2,h⟩:=h
  obtain⟨hl,hus⟩:=Sp (T:=Oo X.L.C c.s.heap) (λa x v=>Xg) e p2
  have hnew :∀{b o},X.h₀.get? b=some o->b≠c.G.μ x:=λe=>Jc e (R.ownB _ (A3 (R.obj x _ hx).tag))
  refine aG7 PySem.F.slot_list_sort ⟨_,p1,rfl⟩ PySem.F.entry_list_sort ?_ (PySem.F.args_list_sort_1 _)
  refine SM p1 hl h2.1 h2.2 (λh' hk=>Pz N (λb o e=>hk b o (hnew e) (R.base b o e)) (aD1 (aK2 (by decide) _) hu) hl λi hi=>(hus i hi).imp λm q=>q.imp λkk q=>q.imp λt q=>q.imp λr q=>⟨q.1,hk m _ (λz=>MC ((show c.s.heap.get? m=_ from q.2).symm.trans ((bO6 c.s.heap.get? z).trans p1))) q.2⟩) λh' k p q1 Ľ q3 ő q5=>⟨_,rfl,?_⟩
  exact .to (c':=c.hp (c.σ.set x (.list (p.map λi=>vs.getD i .none))) h' c.s.toks) (b:=AV.none) (R.chgs (S:=λp=>p = .obj x) (λp hp=>⟨x,.inl hp⟩) (λb o e q=>ő b o (λz=>q _ (z▸(R.obj x _ hx).tag) rfl) e) q5 rfl rfl rfl rfl rfl rfl
   λy o e=>CC e (λhy hw=>.inl λz=>by
    subst hy;subst hw
    exact⟨(R.obj y _ hx).lt,(R.obj y _ hx).tag,_,⟨(k,none),q3⟩,z.va (p2.perm p)⟩) λhy e=>.inr ⟨λz=>hy (by cases z;rfl),λz=>(nomatch z),e⟩) rfl (h p q1 Ľ)
end
end Mine
end
section
open PySem PySem.W PyProof.Rows PySem.Spec PySem.Calls
namespace Mine
structure Pm where
 K:bE8
 C:aC1
 D:aC1
 gl:Str->Option AV
 T:aC1->Option Ŕ
 init:Option Ŕ
 new:Bool
 mak:Bool
 frz:Pos->Bool
 wk:Pos->Bool
 lk:Pos->Bool
 lj:Option (Int->Bool)
def Lg(v:AV):Option Value:=aD5 ((I5 v).map .ref) (λb=>some b.val) (KC v)
def Lf(L:CU)(h₀:aF0)(d:Nat)(f:Int->Bool):Prop:=∀{A:aH7} {s:aA7} {u:Value} {a:aC1} {i:Int} {t:Tok} {R:bD7->aA7->Prop},CY d A->(∀b o,h₀.get? b=some o->s.heap.get? b=some o)->L.fun s.heap a u->(∃cd b,u = .ref cd/\L.cod s.heap cd b)->
 (∀h' t',(∀b o,s.heap.get? b=some o->h'.get? b=some o)->s.heap.objs.size<=h'.objs.size->R (.ok (.ret (.bool (f i)))) {s with heap:=h',toks:=t'})->aM9 (aD9 L.prog L.w) A (.call (.ref a) ⟨[.int i t],[]⟩) R s
noncomputable def NS(v:AV):Bool:=match v with
 | .lam=>true
 | _=>false
def Rt{P:AV->Prop}{a:AV}(e:NS a=true)(f:P .lam):P a:=
 AV.casesOn (motive_1:=λa=>NS a=true->P a) a (λz=>nomatch z) (λ_ z=>nomatch z) (λ_ z=>nomatch z) (λ_ _ z=>nomatch z) (λ_ z=>nomatch z) (λ_ z=>nomatch z) (λ_ z=>nomatch z) (λ_ _ z=>nomatch z) (λ_ z=>nomatch z) (λ_ z=>nomatch z) (λ_=>f) e
def NB(P:Pm)(as:List AV)(σ:St)(Q:AV->St->Prop):Prop:=Ab P.lj λf=>Ap as λa as=>nil as (Ab (BX a) λi=>Q (.bool (f i)) σ)
structure LP(L:CU)(h₀:aF0)(P:Pm)(d:Nat)(fN st fM cm fI:aC1):Prop where
 hC:P.C=L.C
 K:P.K.In h₀
 N:Hd h₀ L.C fN
 Y:ZS P.K L.C fN st
 keepC:keepIn P.K (.ref L.C)=true
 sys:sysModules<h₀.objs.size
 glob :∀x v,P.gl x=some v->∃c,Lg v=some c/\((∃mg,h₀.Ns aH2 mg/\mg x=some c)\/∃mg mb,h₀.Ns aH2 mg/\mg x=none/\h₀.Ns aX0 mb/\mb x=some c)
 make:findCls P.K (.ref L.C) (.type "type") "_make" = some (.get (.builtin "classmethod.__get__") (.ref cm) .none (.ref L.C))
 cmo :∃rest,recIn P.K cm "classmethod" = some (.ref fM::rest)
 fn :∀f tr,P.T f=some tr->BP L h₀ (d+1) (.ref f) tr
 new:P.new=true->BP L h₀ d (.ref fN) (Im L.C)
 mkOk:P.mak=true->BP L h₀ d (.ref fM) (GK L.C)
 init :∀tr,P.init=some tr->makesIn P.K P.D=true/\findIn P.K (.ref P.D) "__init__" = some (some (.ref fI))/\isFn P.K (.ref fI)=true/\keepIn P.K (.ref P.D)=true/\BP L h₀ d (.ref fI) tr
 lam :∀f,P.lj=some f->Lf L h₀ (d+1) f
structure Ek(X:Cx)(P:Pm)(d:Nat)(fN st fM cm fI:aC1)(sc:Scope):Prop where
 w:LP X.L X.h₀ P d fN st fM cm fI
 A:CY (d+1) X.A
 glb:X.env.globals=aH2
 bui:X.env.builtins=aX0
 hsc:X.env.scope=sc
 fun_:sc.kind = .function
def HI(as:List AV):Bool:=aB5 false (λa _ _=>(DR a).any λp=>SK.rec false false true p.1) as
def MU(C:aC1)(b:Bi)(as:List AV)(σ:St)(Q:AV->St->Prop):Prop:=match b with
 | .len=>aH3 (BO .len as σ Q) (Q0 as σ Q) (HI as)
 | .sort=>H2 as σ Q
 | .sum=>False
 | .tnew=>Sr C as σ Q
 | .set=>Mb as σ Q
 | .min=>JD as σ Q
 | .sorted=>False
 | .max=>Jw as σ Q
 | b=>BO b as σ Q
def Q1(P:Pm)(a:aC1)(as:List AV)(σ:St)(Q:AV->St->Prop):Prop:=
 aH3 (aH3 (Ab (P.T a) λtr=>BE tr as σ Q) (Ab P.init λtr=>Vp P.D tr as σ Q) (aD0 a P.D)) (Dp P.new (Mx as σ Q)) (aD0 a P.C)
def D1(P:Pm)(v:AV)(as:List AV)(σ:St)(Q:AV->St->Prop):Prop:=
 aH3 (aD5 (aD5 (Ab (Y6 v) λq=>Qq q.1 q.2 as σ Q) (λa=>Q1 P a as σ Q) (I5 v)) (λb=>MU P.C b as σ Q) (KC v)) (NB P as σ Q) (NS v)
def YS(K:bE8)(v:AV)(x:Str)(σ:St)(Q:AV->St->Prop):Prop:=aD5 (Vf K v x σ Q) (λb=>Q (.bm b v) σ) (lC σ v x)
def Lp(v:AV)(x:Str):Bool:=(KC v).any λb=>aD0 b.ctorIdx 12&&x==("__new__":Str)
def Sa{b:Bi}(h:aD0 b.ctorIdx 12=true):b = .tuple:=Bi.tuple.elim (motive:=λb=>b = .tuple) b (aB4 h) rfl
def MD(K:bE8)(v:AV)(x:Str)(σ:St):Option (AV×Bool):=aH3 (JA ((gM K σ v x).map λf=>(.glo f,true)) ((a0 σ v x).map λb=>(.fn b,true))) (some (.fn .tnew,false)) (Lp v x)
section
variable{X:Cx}{c:Ž}{P:Pm}{d:Nat}{fN st fM cm fI:aC1}{sc:Scope}{Q:AV->St->Prop}{v:AV}{va:Value}
def VS{L:CU}{G:Ű}{h:aF0}{n:Nat}{w:Value}(e:Lg v=some w):A8 L G h n v w:=
 BM (o:=KC v) (A:=(I5 v).map aN2=some w) (B:=λb=>some b.val=some w) (by unfold Lg at e;cases h:KC v<;>(rw[h]at e;exact e))
  (λe=>by
   obtain⟨a,e1,rfl⟩:=map_some e
   exact H3 (P:=λv=>A8 L G h n v (.ref a)) e1 rfl) λb e1 e=>G8 (P:=λv=>A8 L G h n v w) e1 (aA1 e).symm
def FN.of{f:Value}{s:aA7}(h:Kk X.L X.A f s):FN X f s:=h
variable(F:Ek X P d fN st fM cm fI sc)(R:ŵ X c)
include F R
theorem UI{b:Bi}{as:List AV}{vas:List Value}(h:MU P.C b as c.σ Q)(ra:Ŧ X c as vas):ŝ X c Q (call b.val vas []):=by
 have hu:X.A.units+10<cLine:=aD1 (aA3 (aK2 (by decide:10<=40) _) (aQ4 (aE1 _ _) 40)) F.A.2.2
 have dflt :∀{b},BO b as c.σ Q->ŝ X c Q (call b.val vas []):=λh=>MI h R ra
 refine Bi.casesOn (motive:=λb=>MU P.C b as c.σ Q->ŝ X c Q (call b.val vas [])) b (λh=>?_) (dflt (b:=.range)) (λh=>Sw h R ra) (dflt (b:=.enumerate)) aA8 (dflt (b:=.append)) (dflt (b:=.pop)) (λh=>P9 F.w.N hu h R ra) (dflt (b:=.get)) (dflt (b:=.setdefault)) (dflt (b:=.has)) (λh=>US F.w.N (F.w.hC▸h) R ra) (dflt (b:=.tuple)) (dflt (b:=.list)) (dflt (b:=.map)) (dflt (b:=.extend)) (dflt (b:=.divmod)) (λh=>QE F.A.1 h R ra) aA8 (dflt (b:=.index)) (λh=>Qj F.A.1 h R ra) (dflt (b:=.add)) h
 have h:aH3 (BO .len as c.σ Q) (Q0 as c.σ Q) (HI as):=h
 cases hm:HI as with
 | true=>rw[hm]at h;exact X8 F.w.N h R ra
 | false=>rw[hm]at h;exact MI h R ra
theorem W7{a:aC1}{as:List AV}{vas:List Value}(h:Q1 P a as c.σ Q)(ra:Ŧ X c as vas):Ve X c Q (.ref a) vas:=by
 unfold Q1 at h
 cases h1:aD0 a P.C with
 | true=>
  rw[h1]at h
  rw[aB4 h1,F.w.hC]
  exact Pp F.w.K F.w.N F.w.Y F.w.keepC (F.w.new (A4 h).1) F.A (A4 h).2 R ra
 | false=>
  rw[h1]at h
  cases h2:aD0 a P.D with
  | true=>
   rw[h2]at h
   rw[aB4 h2]
   exact AC h λtr e h=>have z:=F.w.init tr e;Z7 F.w.K z.1 z.2.1 z.2.2.1 z.2.2.2.1 z.2.2.2.2 F.A h R ra
  | false=>
   rw[h2]at h
   exact AC h λtr e h=>WY (F.w.fn _ tr e) F.A h R ra
theorem Pl{as:List AV}{vas:List Value}(h:NB P as c.σ Q)(rv:VR X c .lam va)(ra:Ŧ X c as vas):Ve X c Q va vas:=
 AC h λf e h=>AX h ra λa as v vas r ra h=>BU h ra λh=>AC h λi e1 h=>by
  refine A5 (P:=λv=>Ve X c Q va [v]) e1 r λt=>?_
  cases rv with
  | mk a u hv hp ho hr=>
  subst hv
  cases hr with
  | mk cd b hu hc _ _=>
  exact⟨λQ' E' hq=>aA2 (aQ7 (show c.s.heap.get? a=some _ from hp) (aA4 (hq _))),aR9 (F.w.lam f e F.A R.base hp ⟨cd,b,hu,hc⟩ λh' t' hk hz=>.to (c':=c.hp c.σ h' t') (b:=AV.bool (f i)) (R.grow t' hk hz) rfl h)⟩
theorem WF{as:List AV}{vas:List Value}(h:D1 P v as c.σ Q)(rv:VR X c v va)(ra:Ŧ X c as vas):Ve X c Q va vas:=by
 unfold D1 at h
 cases hl:NS v with
 | true=>rw[hl]at h;exact Pl F R h (Rt (P:=λv=>VR X c v va->VR X c .lam va) hl id rv) ra
 | false=>
 rw[hl]at h
 exact BM h (λh=>BM h (λh=>AC h λq e h=>Za h R (UM (P:=λv=>VR X c v va->VR X c (.bm q.1 q.2) va) e id rv) ra)
  λa e h=>(H3 (P:=λv=>VR X c v va->va = .ref a) e id rv)▸W7 F R h ra) λb e h=>(G8 (P:=λv=>VR X c v va->va=b.val) e id rv)▸⟨N5 b,UI F R h ra⟩
theorem dN{x:Str}(h:YS P.K v x c.σ Q)(rv:VR X c v va):ŝ X c Q (aY7 va x true):=BM h (λh=>Yq F.w.K h R rv) λb e h=>Zd e R rv h
theorem eD{x:Str}{q:AV×Bool}(e:MD P.K v x c.σ=some q){pl:Sem Bool}{K:Value×List Value->aA7->Prop}(rv:VR X c v va)(h :∀g t,(∀c,VR X c q.1 g)->K (g,bif q.2 then [va]else []) {c.s with toks:=t}):ţ X (aX6 va x pl) K c.s:=by
 unfold MD at e
 cases ht:Lp v x with
 | true=>
  rw[ht]at e
  cases e
  unfold Lp at ht
  cases hv:KC v with
  | none=>rw[hv]at ht;cases ht
  | some b=>
   rw[hv]at ht
   obtain⟨h1,h2⟩:=AL (show(_&&_)=true from ht)
   rw[aF2 h2,(G8 (P:=λv=>VR X c v va->va=b.val) hv id rv),Sa h1]
   exact IP λt=>h _ t λ_=>rfl
 | false=>
  rw[ht]at e
  refine Dq e (λe=>?_) λe=>?_
  ·obtain⟨f,e1,rfl⟩:=map_some e
   exact YT (E:=λ_ _=>False) F.w.K e1 R rv λt=>h _ t λ_=>rfl
  ·obtain⟨b,e1,rfl⟩:=map_some e
   exact Yb e1 R rv λt=>h _ t λ_=>rfl
end
end Mine
end
section
open PySem PySem.W PyProof.Rows PySem.Spec PySem.Calls PySem.SeqAt
namespace Mine
def Pg(a b:AV)(σ:St)(K:Bool->Prop):Prop:=Ab (BL a) λk=>
 aD5 (aD5 (Ab (E5 σ b) λes=>K (es.lookup k).isSome) (λvs=>Ab (BQ vs) λks=>K (decide (k∈ks))) (BK σ b)) (λvs=>Ab (BQ vs) λks=>K (decide (k∈ks))) (FS b)
def Cm(op:bF6)(a b:AV)(σ:St)(Q:AV->St->Prop):Prop:=
 aH3 (aH3 (JG op a b σ Q) (Pg a b σ λr=>Q (.bool (!r)) σ) (aD0 op.ctorIdx 9)) (Pg a b σ λr=>Q (.bool r) σ) (aD0 op.ctorIdx 8)
section
variable{X:Cx}{c:Ž}{a b:AV}{va vb:Value}{Q:AV->St->Prop}
def LI{k:AB}{ks:List AB}{us:List Value}(q:us.length=ks.length/\∀(i:Nat) (k:AB) (v:Value),ks[i]?=some k->us[i]?=some v->Aa k v=true):us.any (Aa k)=decide (k∈ks):=by
 rw[bC0,bF4,decide_eq_true_iff]
 refine⟨λ⟨y,hy,e⟩=>?_,λh=>?_⟩
 ·obtain⟨i,hi⟩:=aJ4 hy
  have hki:=aA6 (q.1▸(aA5.mp hi).1:i<ks.length)
  rw[D9 e (q.2 i _ y hki hi)]
  exact bA9 _
 ·obtain⟨i,hi⟩:=aJ4 h
  have hu:=aA6 (q.1.symm▸(aA5.mp hi).1:i<us.length)
  exact⟨_,bA9 _,q.2 i k _ hi hu⟩
def oP{r:Bool}{op:bF6}{f:Bool->Bool}(hop :∀{x c':Value},aX4 op x c'=(do return .bool (f (<-contains c' x)))){K:Bool->Prop}{t:Nat}{P:Value->aA7->Prop}{x y:Value}{s:aA7}
  (h:ţ X (contains y x) (λr s'=>P (.bool (f r)) s') s):ţ X (aX4 op x y) P s:=by
 rw[hop]
 exact ţ.bind (h.mono λr s' q=>ţ.pure q)
def Zv{f:Bool->Bool}{op:bF6}(hop :∀{x c':Value},aX4 op x c'=(do return .bool (f (<-contains c' x))))(h:Pg a b c.σ λr=>Q (.bool (f r)) c.σ)(R:ŵ X c)(ra:VR X c a va)(rb:VR X c b vb):ŝ X c Q (aX4 op va vb):=by
 refine oP (K:=λ_=>True) (t:=0) (r:=true) hop (AC h λk e0 h=>?_)
 have hk:=BS e0 ra
 refine BM h (λh=>BM h (λh=>AC h λes e1 h=>DA e1 R rb λd kvs p1 p2=>?_) λvs e1 h=>AC h λks e2 h=>Aw e1 R rb λl us n p1 p2=>?_) λvs e1 h=>AC h λks e2 h=>Di e1 rb λl us n p1 p2=>?_
 ·refine bC4 p1.1.typeIs slot_dict_contains (aG7 slot_dict_contains p1.1.typeIs entry_dict_contains ?_ (args_dict_contains _ _))
  show aD2 _ _ (dictGet d va >>= _) _ _ c.s
  refine aA2 (wpAny_dictGet_of hk p1.1.mapOf ?_)
  have e:(es.lookup k).isSome=(valueAt kvs k).isSome:=p2.look k (P:=λx y=>x.isSome=y.isSome) rfl (λ_ _ _=>rfl)
  rw[e]at h
  cases hv:valueAt kvs k with
  | none=>
   rw[hv]at h
   show aD2 _ _ (aE0.Dict.pendingKey? d va >>= _) _ _ _
   exact aA2 (wpAny_pendingKey_other p1.2 (aA4 ⟨_,rfl,aO7 (.to (b:=AV.bool (f false)) (R.toks _) rfl h)⟩))
  | some v=>
   rw[hv]at h
   show aD2 _ _ (ret (.bool true)) _ _ _
   exact aA4 ⟨_,rfl,aO7 (.to (b:=AV.bool (f true)) (R.toks _) rfl h)⟩
 ·have q:=JH e2 p2
  refine bC4 (AP p1).typeIs slot_list_contains (bJ6 slot_list_contains (AP p1).typeIs entry_list_contains (args_list_contains _ _) (PySem.SeqAt.list_containsAt l us.toArray n none #[] va (Aa k)) ⟨p1,GE q hk,?_⟩)
  rw[List.any_toArray,LI q]
  exact aO7 (.here (b:=AV.bool (f (decide (k∈ks)))) R rfl h)
 ·have q:=JH e2 p2
  have hT:c.s.TypeIs (.ref l) "tuple":=⟨_,p1,rfl⟩
  refine bC4 hT slot_tuple_contains (bJ6 slot_tuple_contains hT entry_tuple_contains (args_tuple_contains _ _) (PySem.SeqAt.tuple_containsAt l us.toArray n none #[] va (Aa k)) ⟨p1,GE q hk,?_⟩)
  rw[List.any_toArray,LI q]
  exact aO7 (.here (b:=AV.bool (f (decide (k∈ks)))) R rfl h)
def R8{op:bF6}(hu:X.A.units+10<cLine)(h:Cm op a b c.σ Q)(R:ŵ X c)(ra:VR X c a va)(rb:VR X c b vb):ŝ X c Q (aX4 op va vb):=by
 unfold Cm at h
 cases h8:aD0 op.ctorIdx 8 with
 | true=>
  rw[h8]at h
  obtain rfl:op = .In:=bF6.In.elim (motive:=λb=>b = .In) op (aB4 h8) rfl
  exact Zv (f:=id) rfl h R ra rb
 | false=>
  rw[h8]at h
  cases h9:aD0 op.ctorIdx 9 with
  | true=>
   rw[h9]at h
   obtain rfl:op = .NotIn:=bF6.NotIn.elim (motive:=λb=>b = .NotIn) op (aB4 h9) rfl
   exact Zv (f:=not) rfl h R ra rb
  | false=>rw[h9]at h;exact iG hu h R ra rb
end
noncomputable def D3(es:List (AB×AV)):List AV:=es.map λp=>.key p.1
def Tc{L:CU}{G:Ű}{h:aF0}{n:Nat}{es:List (AB×AV)} :∀{kvs:List (AB×Value)},Ai L G h n es kvs->kvs.map (·.1)=es.map (·.1):=
 aB5 (motive:=λes=>∀{kvs:List (AB×Value)},Ai L G h n es kvs->kvs.map (·.1)=es.map (·.1)) (λ{kvs} q=>by rw[show kvs=[]from q];rfl) (λa r ih kvs q=>by
  obtain⟨v,u,rfl,q1,Ľ⟩:=q
  exact bO6 (a.1 :: ·) (ih Ľ)) es
def S8(K:bE8)(w:AV)(x:Str)(v:AV)(σ:St)(Q:St->Prop):Prop:=aH3 (Tp K w x v σ Q) (aD5 (Tp K w x v σ Q) (λ_=>∀a:aC1,Tp K w x (.glo a) σ Q) (Fi v)) (x==("opcodes":Str))
def Rj{P:AV->Prop}{a:AV}{y:Nat}(e:Fi a=some y)(f:P (.ref y)):P a:=
 AV.casesOn (motive_1:=λa=>Fi a=some y->P a) a AA (λ_=>AA) (λ_=>AA) (λ_ _=>AA) (λ_ e=>aA1 e▸f) (λ_=>AA) (λ_=>AA) (λ_ _=>AA) (λ_=>AA) (λ_=>AA) AA e
def Xp{X:Cx}{c:Ž}{K:bE8}{a b:AV}{va vb:Value}{Q:St->Prop}(hK:K.In X.h₀){x:Str}(h:S8 K a x b c.σ Q)(R:ŵ X c)(ra:VR X c a va)(rb:VR X c b vb):FZ X c Q (setAttr va x vb):=by
 unfold S8 at h
 cases hx:x==("opcodes":Str)with
 | false=>rw[hx]at h;exact Se hK h R ra rb
 | true=>
  rw[hx]at h
  exact BM h (λh=>Se hK h R ra rb) λy e h=>Se hK (h (c.G.μ y)) R ra (Rj (P:=λb=>VR X c b vb->VR X c (.glo (c.G.μ y)) vb) e (λq=>q.1) rb)
end Mine
end
section
open PySem PySem.W PyProof.Rows PySem.Spec PySem.Calls
namespace Mine
abbrev WE:=Expr->St->(AV->St->Prop)->Prop
abbrev Ŷ:=Expr->St->(Bool->St->Prop)->Prop
abbrev WA:=Expr->AV->St->(St->Prop)->Prop
structure ŷ where
 E:WE
 B:Ŷ
 A:WA
def one{α:Type}(l:List α):Option α:=aB5 none (λa r _=>aB5 (some a) (λ_ _ _=>none) r) l
def Hs{α:Type}{l:List α}{a:α}{P:List α->Prop}(e:one l=some a)(f:P [a]):P l:=by
 cases l with
 | nil=>exact AA e
 | cons b r=>
  cases r with
  | nil=>exact aA1 e▸f
  | cons=>exact AA e
def Dj{α:Type}(l:List α):Bool:=aB5 true (λ_ _ _=>false) l
def DM{α:Type}{l:List α}{P:List α->Prop}(e:Dj l=true)(f:P []):P l:=by
 cases l with
 | nil=>exact f
 | cons=>cases e
noncomputable def ix(e:Expr)(n:Nat):Bool:=aD0 e.ctorIdx n
def Bq(es:List Expr):Bool:=aB5 true (λe _ ih=>aH3 ih false (ix e 22)) es
def CO(e:Expr):Expr×Str×Pos:=Expr.casesOn (motive_1:=λ_=>Expr×Str×Pos) e (λ_ _ _=>(e,("":Str),AM)) (λ_ _ _=>(e,("":Str),AM)) (λ_ _ _ _=>(e,("":Str),AM)) (λ_ _ _=>(e,("":Str),AM)) (λ_ _ _ _=>(e,("":Str),AM)) (λ_ _ _ _=>(e,("":Str),AM)) (λ_ _ _=>(e,("":Str),AM)) (λ_ _ _=>(e,("":Str),AM)) (λ_ _ _ _=>(e,("":Str),AM)) (λ_ _ _ _=>(e,("":Str),AM)) (λ_ _ _ _ _=>(e,("":Str),AM)) (λ_ _ _ _=>(e,("":Str),AM)) (λ_ _=>(e,("":Str),AM)) (λ_ _=>(e,("":Str),AM)) (λ_ _=>(e,("":Str),AM)) (λ_ _ _ _=>(e,("":Str),AM)) (λ_ _ _ _=>(e,("":Str),AM)) (λ_ _ _ _=>(e,("":Str),AM)) (λ_ _=>(e,("":Str),AM)) (λ_ _ _=>(e,("":Str),AM)) (λo a p=>(o,a,p)) (λ_ _ _=>(e,("":Str),AM)) (λ_ _=>(e,("":Str),AM)) (λ_ _=>(e,("":Str),AM)) (λ_ _=>(e,("":Str),AM)) (λ_ _ _=>(e,("":Str),AM)) (λ_ _ _ _=>(e,("":Str),AM))
noncomputable def BD(e:Expr):Str:=Expr.casesOn (motive_1:=λ_=>Str) e (λ_ _ _=>("":Str)) (λ_ _ _=>("":Str)) (λ_ _ _ _=>("":Str)) (λ_ _ _=>("":Str)) (λ_ _ _ _=>("":Str)) (λ_ _ _ _=>("":Str)) (λ_ _ _=>("":Str)) (λ_ _ _=>("":Str)) (λ_ _ _ _=>("":Str)) (λ_ _ _ _=>("":Str)) (λ_ _ _ _ _=>("":Str)) (λ_ _ _ _=>("":Str)) (λ_ _=>("":Str)) (λ_ _=>("":Str)) (λ_ _=>("":Str)) (λ_ _ _ _=>("":Str)) (λ_ _ _ _=>("":Str)) (λ_ _ _ _=>("":Str)) (λ_ _=>("":Str)) (λ_ _ _=>("":Str)) (λ_ _ _=>("":Str)) (λ_ _ _=>("":Str)) (λ_ _=>("":Str)) (λx _=>x) (λ_ _=>("":Str)) (λ_ _ _=>("":Str)) (λ_ _ _ _=>("":Str))
noncomputable def JY(e:Expr):Option Expr×Option Expr×Option Expr:=Expr.casesOn (motive_1:=λ_=>Option Expr×Option Expr×Option Expr) e (λ_ _ _=>(none,none,none)) (λ_ _ _=>(none,none,none)) (λ_ _ _ _=>(none,none,none)) (λ_ _ _=>(none,none,none)) (λ_ _ _ _=>(none,none,none)) (λ_ _ _ _=>(none,none,none)) (λ_ _ _=>(none,none,none)) (λ_ _ _=>(none,none,none)) (λ_ _ _ _=>(none,none,none)) (λ_ _ _ _=>(none,none,none)) (λ_ _ _ _ _=>(none,none,none)) (λ_ _ _ _=>(none,none,none)) (λ_ _=>(none,none,none)) (λ_ _=>(none,none,none)) (λ_ _=>(none,none,none)) (λ_ _ _ _=>(none,none,none)) (λ_ _ _ _=>(none,none,none)) (λ_ _ _ _=>(none,none,none)) (λ_ _=>(none,none,none)) (λ_ _ _=>(none,none,none)) (λ_ _ _=>(none,none,none)) (λ_ _ _=>(none,none,none)) (λ_ _=>(none,none,none)) (λ_ _=>(none,none,none)) (λ_ _=>(none,none,none)) (λ_ _ _=>(none,none,none)) (λa b c _=>(a,b,c))
def AU(e:Expr):Expr×List Expr×List bM2×Pos:=Expr.casesOn (motive_1:=λ_=>Expr×List Expr×List bM2×Pos) e (λ_ _ _=>(e,[],[],AM)) (λ_ _ _=>(e,[],[],AM)) (λ_ _ _ _=>(e,[],[],AM)) (λ_ _ _=>(e,[],[],AM)) (λ_ _ _ _=>(e,[],[],AM)) (λ_ _ _ _=>(e,[],[],AM)) (λ_ _ _=>(e,[],[],AM)) (λ_ _ _=>(e,[],[],AM)) (λ_ _ _ _=>(e,[],[],AM)) (λ_ _ _ _=>(e,[],[],AM)) (λ_ _ _ _ _=>(e,[],[],AM)) (λ_ _ _ _=>(e,[],[],AM)) (λ_ _=>(e,[],[],AM)) (λ_ _=>(e,[],[],AM)) (λ_ _=>(e,[],[],AM)) (λ_ _ _ _=>(e,[],[],AM)) (λg as ks p=>(g,as,ks,p)) (λ_ _ _ _=>(e,[],[],AM)) (λ_ _=>(e,[],[],AM)) (λ_ _ _=>(e,[],[],AM)) (λ_ _ _=>(e,[],[],AM)) (λ_ _ _=>(e,[],[],AM)) (λ_ _=>(e,[],[],AM)) (λ_ _=>(e,[],[],AM)) (λ_ _=>(e,[],[],AM)) (λ_ _ _=>(e,[],[],AM)) (λ_ _ _ _=>(e,[],[],AM))
def FA(e:Expr):Bool:=!ix e 16
def JQ(c:Const):Option AV:=Const.casesOn (motive:=λ_=>Option AV) c (some .none) (λb=>some (.bool b)) (λi=>some (.int i)) (λ_=>none) (λ_ _=>none) (λx=>some (.str x)) (λ_=>none) none
noncomputable def Am(x:Str):Bool:=!(x==("__debug__":Str)) && !(x==("__classdict__":Str))
def H9(P:Pm)(sc:Scope)(x:Str)(σ:St)(Q:AV->St->Prop):Prop:=Ab (sc.names.lookup x) λk=>
 bK7 (Ab (σ.ρ.lookup x) λv=>Q v σ) (Ab (σ.ρ.lookup x) λv=>Q v σ) (Ab (σ.ρ.lookup x) λv=>Q v σ) False (Ab (P.gl x) λv=>Q v σ) k
def Df(sc:Scope)(x:Str):Bool:=(sc.names.lookup x).any λk=>bK7 true true false false false k
def Lu(E:WE)(es:List Expr):St->(List AV->St->Prop)->Prop:=aB5 (λσ Q=>Q [] σ) (λe _ ih σ Q=>E e σ λv σ=>ih σ λvs σ=>Q (v::vs) σ) es
def wO(E:WE)(o:Option Expr)(σ:St)(Q:AV->St->Prop):Prop:=aD5 (Q .none σ) (λe=>E e σ Q) o
def An(b:Bool)(A B:Prop):Prop:=aH3 B A b
def mK(B:Ŷ)(op:bL2)(es:List Expr):St->(Bool->St->Prop)->Prop:=
 bL2.rec (aB5 (λσ Q=>Q true σ) (λe _ ih σ Q=>B e σ λb σ=>An b (ih σ Q) (Q false σ)) es) (aB5 (λσ Q=>Q false σ) (λe _ ih σ Q=>B e σ λb σ=>An b (Q true σ) (ih σ Q)) es) op
def mT(A:WA)(ts:List Expr):List AV->St->(St->Prop)->Prop:=aB5 (λvs σ Q=>nil vs (Q σ)) (λt _ ih vs σ Q=>Ap vs λv vs=>A t v σ λσ=>ih vs σ Q) ts
def SZ(P:Pm)(sc:Scope)(i:Expr):Option Bi:=bif ix i 16&&ix (AU i).1 23&&Dj (AU i).2.2.1&&Bq (AU i).2.1&&Am (BD (AU i).1)then(sc.names.lookup (BD (AU i).1)).bind λk=>bif aD0 k.ctorIdx 4 then(P.gl (BD (AU i).1)).bind KC else none else none
def Ym(W:ŷ)(i:Expr)(σ:St)(K:List AV->St->Prop):Prop:=W.E i σ λv σ=>Ab (T3 v) λvs=>AD nn vs=some vs/\K vs σ
def Fk(P:Pm)(sc:Scope)(W:ŷ)(t i:Expr)(σ:St)(K:List AV->St->Prop):Prop:=aD5 (Ym W i σ K)
 (λb=>aH3 (aH3 (Ym W i σ K) (Lu W.E (AU i).2.1 σ λvs σ=>SS t vs σ K) (aD0 b.ctorIdx 3)) (Lu W.E (AU i).2.1 σ λvs σ=>GL vs σ K) (aD0 b.ctorIdx 1)) (SZ P sc i)
noncomputable def CQ(cs sc:Scope):Scope:={cs with names:=cs.names.map λ(n,k)=>if(k == .free&&sc.kind == .function&&sc.names.lookup n==some .cell)then(n,.cell)else(n,k)}
def Bh(cs:Scope):List Str:=aB5 [] (λp _ ih=>bif aD0 p.2.ctorIdx 2 then p.1::ih else ih) cs.names
def pick(ρ:List (Str×AV))(xs:List Str):List (Str×AV):=aB5 [] (λx _ ih=>aD5 ih (λv=>(x,v)::ih) (ρ.lookup x)) xs
def ER(τ σ:St)(xs:List Str):Prop:=aB5 True (λx _ ih=>τ.ρ.lookup x=σ.ρ.lookup x/\ih) xs
noncomputable def isK(o:Option aP8)(n:Nat):Bool:=o.any λk=>aD0 k.ctorIdx n
def JT(sc cs:Scope)(ps:List (Str×aP8)):Bool:=aB5 true (λp _ ih=>bK7 (isK (cs.names.lookup p.1) 0) false (isK (cs.names.lookup p.1) 2&&(isK (sc.names.lookup p.1) 1||isK (sc.names.lookup p.1) 2)) true true p.2&&ih) ps
def Jk(sc cs:Scope)(g:aF6):Bool:=cs.kind == .function&&JT sc cs cs.names && !ix g.iter 7&&g.is_async==0
def Vm(B:Ŷ)(ifs:List Expr)(σ:St)(K:Bool->St->Prop):Prop:=aB5 (K true σ) (λe r _=>aB5 (B e σ K) (λ_ _ _=>False) r) ifs
def DV(W:ŷ)(g:aF6)(rest:St->(St->Prop)->Prop)(v:AV)(τ:St)(K:St->Prop):Prop:=W.A g.target v τ λτ=>Vm W.B g.ifs τ λb τ=>An b (rest τ K) (K τ)
def XR(P:Pm)(cs:Scope)(W:ŷ)(g:aF6)(em:St->(St->Prop)->Prop)(τ:St)(K:St->Prop):Prop:=Dp (!ix g.iter 7&&g.is_async==0)
 (Fk P cs W g.target g.iter τ λitems τ=>∃J:Nat->St->Prop,J 0 τ/\(∀k v τ,items[k]?=some v->J k τ->DV W g em v τ (J (k+1)))/\∀τ,J items.length τ->K τ)
def Ni(P:Pm)(cs:Scope)(W:ŷ)(em:St->(St->Prop)->Prop)(gs:List aF6):St->(St->Prop)->Prop:=aB5 em (λg r _=>aB5 (XR P cs W g em) (λ_ _ _ _ _=>False) r) gs
def BC(o:AO)(items:List AV)(tn:AV->St->(St->Prop)->Prop)(xs:List Str)(σ:St)(Q:AV->St->Prop):Prop:=
 ∃J:Nat->St->Prop,J 0 ⟨pick σ.ρ xs,(σ.new o).H,σ.n+1,σ.anc⟩/\(∀k v τ,items[k]?=some v->J k τ->tn v τ (J (k+1)))/\
  ∀τ,J items.length τ->ER τ σ xs/\Q (.ref σ.n) ⟨σ.ρ,τ.H,τ.n,τ.anc⟩
def Pv(P:Pm)(Wc:Scope->ŷ)(sc:Scope)(o:AO)(em:ŷ->Nat->St->(St->Prop)->Prop)(gens:List aF6)(cs:Scope)(σ:St)(Q:AV->St->Prop):Prop:=aB5 False (λg r _=>Dp (Jk sc cs g)
 (Fk P sc (Wc sc) g.target g.iter σ λitems σ=>BC o items (DV (Wc (CQ cs sc)) g (Ni P (CQ cs sc) (Wc (CQ cs sc)) (em (Wc (CQ cs sc)) σ.n) r)) (Bh cs) σ Q)) gens
def XJ(elt:Expr)(W:ŷ)(n:Nat)(τ:St)(K:St->Prop):Prop:=W.E elt τ λu τ=>BO .append [.ref n,u] τ λ_ τ=>K τ
def YD(Ĭ vx:Expr)(W:ŷ)(n:Nat)(τ:St)(K:St->Prop):Prop:=W.E Ĭ τ λa τ=>W.E vx τ λv τ=>GT τ (.ref n) λx es=>Ab (BL a) λk=>K (τ.set x (.dict (dset es k v)))
def m4(P:Pm)(Wc:Scope->ŷ)(sc:Scope)(elt:Expr)(gens:List aF6)(cs:Scope)(σ:St)(Q:AV->St->Prop):Prop:=Dp (aD0 gens.length 1) (Pv P Wc sc (.list []) (XJ elt) gens cs σ Q)
def mX(P:Pm)(Wc:Scope->ŷ)(sc:Scope)(Ĭ vx:Expr)(gens:List aF6)(cs:Scope)(σ:St)(Q:AV->St->Prop):Prop:=Dp (aD0 gens.length 1) (Pv P Wc sc (.dict []) (YD Ĭ vx) gens cs σ Q)
def j5(g:Expr)(as:List Expr):Bool:=BD g==("list":Str)&&as.any λa=>BD (AU a).1==("map":Str)
def dD(P:Pm)(sc:Scope)(g:Expr)(as:List Expr)(σ:St)(Q:AV->St->Prop):Prop:=∃f1 p1 f2 p2 c p3 p4 x p5 p6,(g = .Name f1 p1/\as=[.Call (.Name f2 p2) [.Attribute (.Name c p3) ("_make":Str) p4,.Name x p5] [] p6])/\
 (Am f1&&Am f2&&Am c&&Am x&&P.mak)=true/\(sc.names.lookup f1=some .globalImplicit/\sc.names.lookup f2=some .globalImplicit/\sc.names.lookup c=some .globalImplicit)/\(P.gl f1=some (.fn .list)/\P.gl f2=some (.fn .map)/\P.gl c=some (.glo P.C))/\
 H9 P sc x σ λv σ=>∃vss,BK σ v=some (vss.map .tup)/\HO vss/\vss.length<=1000000/\Q (.lst (Em vss)) σ
def Mi(as:List Expr):Bool:=Bq as&&aV2 as.length 29
def Rn(P:Pm)(W:ŷ)(q:Expr×Str×Pos)(as:List Expr)(p:Pos)(σ:St)(Q:AV->St->Prop):Prop:=
 Dp (FA q.1&&aD0 q.2.2.endLine p.line) (W.E q.1 σ λv σ=>Ab (MD P.K v q.2.1 σ) λg=>Lu W.E as σ λvs σ=>D1 P g.1 (bif g.2 then v::vs else vs) σ Q)
def M2(P:Pm)(sc:Scope)(W:ŷ)(g:Expr)(as:List Expr)(σ:St)(Q:AV->St->Prop):Prop:=
 aH3 (W.E g σ λv σ=>Lu W.E as σ λvs σ=>D1 P v vs σ Q) (dD P sc g as σ Q) (j5 g as)
def WK(P:Pm)(sc:Scope)(W:ŷ)(g:Expr)(as:List Expr)(ks:List bM2)(p:Pos)(σ:St)(Q:AV->St->Prop):Prop:=
 Dp (Dj ks&&Mi as) (aH3 (M2 P sc W g as σ Q) (Rn P W (CO g) as p σ Q) (ix g 20))
def ZJ(W:ŷ)(o i:Expr)(σ:St)(Q:AV->St->Prop):Prop:=W.E o σ λv σ=>
 aH3 (W.E i σ λk σ=>Fo v k σ Q) (wO W.E (JY i).1 σ λa σ=>wO W.E (JY i).2.1 σ λb σ=>wO W.E (JY i).2.2 σ λc σ=>jN v a b c σ Q) (ix i 26)
def F8(W:ŷ)(l:Expr)(ops:List bF6)(rs:List Expr)(σ:St)(Q:AV->St->Prop):Prop:=Ab (one ops) λop=>Ab (one rs) λr=>
 Dp (!behindInMarks op r) (W.E l σ λa σ=>W.E r σ λb σ=>Cm op a b σ Q)
def Ny(op:bI6):Bool:=bI6.rec false true false false op
def xJ(W:ŷ)(op:bI6)(x:Expr)(σ:St)(Q:AV->St->Prop):Prop:=W.E x σ λa σ=>aH3 (i8 op a σ Q) (CV a σ λb σ=>Q (.bool (!b)) σ) (Ny op)
def Uo(W:ŷ)(es:List Expr)(σ:St)(K:List AV->St->Prop):Prop:=Dp (Bq es&&aV2 es.length 1000000) (Lu W.E es σ K)
noncomputable def Tm(v:AV):Option Bool:=match v with
 | .bool b=>some b
 | _=>none
def M9(op:bL2):Bool:=bL2.rec true false op
def mW(E:WE)(op:bL2)(es:List Expr):St->(AV->St->Prop)->Prop:=aB5 (λ_ _=>False) (λe r ih σ Q=>aB5 (E e σ Q) (λ_ _ _=>E e σ λv σ=>Ab (Tm v) λb=>An (b==M9 op) (ih σ Q) (Q (.bool b) σ)) r) es
def NH(P:Pm)(sc:Scope)(Wc:Scope->ŷ)(W:ŷ):WE:=λe σ Q=>Expr.casesOn (motive_1:=λ_=>Prop) e (λop es _=>mW W.E op es σ Q) (λ_ _ _=>False) (λl op r _=>W.E l σ λa σ=>W.E r σ λb σ=>FL op a b σ Q) (λop x _=>xJ W op x σ Q) (λ_ _ _ _=>False) (λt b o _=>W.B t σ λc σ=>An c (W.E b σ Q) (W.E o σ Q)) (λks vs _=>Dp (Dj ks&&Dj vs) (Q (.ref σ.n) (σ.new (.dict [])))) (λ_ _ _=>False) (λelt gens cs _=>m4 P Wc sc elt gens cs σ Q) (λ_ _ _ _=>False) (λĬ vx gens cs _=>mX P Wc sc Ĭ vx gens cs σ Q) (λ_ _ _ _=>False) (λ_ _=>False) (λ_ _=>False) (λ_ _=>False) (λl ops rs _=>F8 W l ops rs σ Q) (λg as ks p=>WK P sc W g as ks p σ Q) (λ_ _ _ _=>False) (λ_ _=>False) (λc _ _=>Ab (JQ c) λv=>Q v σ) (λo a _=>Dp (FA o) (W.E o σ λv σ=>YS P.K v a σ Q)) (λo i _=>ZJ W o i σ Q) (λ_ _=>False) (λx _=>Dp (Am x) (H9 P sc x σ Q)) (λes p=>Uo W es σ λvs σ=>aH3 (Q (.ref σ.n) (σ.new (.list vs))) (Q (.lst vs) σ) (P.frz p)) (λes _ _=>Uo W es σ λvs σ=>Q (.tup vs) σ) (λ_ _ _ _=>False)
def NQ(W:ŷ):Ŷ:=λe σ Q=>Expr.casesOn (motive_1:=λ_=>Prop) e (λop vs _=>mK W.B op vs σ Q) (λ_ _ _=>False) (λ_ _ _ _=>False) (λop x _=>Dp (Ny op) (W.B x σ λb σ=>Q (!b) σ)) (λ_ _ _ _=>False) (λ_ _ _ _=>False) (λ_ _ _=>False) (λ_ _ _=>False) (λ_ _ _ _=>False) (λ_ _ _ _=>False) (λ_ _ _ _ _=>False) (λ_ _ _ _=>False) (λ_ _=>False) (λ_ _=>False) (λ_ _=>False) (λl ops rs _=>F8 W l ops rs σ λv σ=>CV v σ Q) (λg as ks p=>W.E (.Call g as ks p) σ λv σ=>CV v σ Q) (λ_ _ _ _=>False) (λ_ _=>False) (λc k p=>W.E (.Constant c k p) σ λv σ=>CV v σ Q) (λo a p=>W.E (.Attribute o a p) σ λv σ=>CV v σ Q) (λ_ _ _=>False) (λ_ _=>False) (λx p=>W.E (.Name x p) σ λv σ=>CV v σ Q) (λ_ _=>False) (λ_ _ _=>False) (λ_ _ _ _=>False)
def Nk(P:Pm)(sc:Scope)(W:ŷ):WA:=λt v σ Q=>Expr.casesOn (motive_1:=λ_=>Prop) t (λ_ _ _=>False) (λ_ _ _=>False) (λ_ _ _ _=>False) (λ_ _ _=>False) (λ_ _ _ _=>False) (λ_ _ _ _=>False) (λ_ _ _=>False) (λ_ _ _=>False) (λ_ _ _ _=>False) (λ_ _ _ _=>False) (λ_ _ _ _ _=>False) (λ_ _ _ _=>False) (λ_ _=>False) (λ_ _=>False) (λ_ _=>False) (λ_ _ _ _=>False) (λ_ _ _ _=>False) (λ_ _ _ _=>False) (λ_ _=>False) (λ_ _ _=>False) (λo a _=>W.E o σ λw σ=>S8 P.K w a v σ Q) (λo i _=>W.E o σ λw σ=>W.E i σ λk σ=>eC w k v σ Q) (λ_ _=>False) (λx _=>Dp (Df sc x) (Q (σ.put x v))) (λ_ _=>False) (λes _ _=>Dp (Bq es) (PO v es.length σ λvs σ=>mT W.A es vs σ Q)) (λ_ _ _ _=>False)
noncomputable def Li(P:Pm)(f:Nat):Scope->ŷ:=aT3 (λ_=>⟨λ_ _ _=>False,λ_ _ _=>False,λ_ _ _ _=>False⟩) (λ_ W sc=>⟨NH P sc W (W sc),NQ (W sc),Nk P sc (W sc)⟩) f
def ws(P:Pm)(sc:Scope)(f:Nat):ŷ:=Li P f sc
def EU{b:Bool}(h:(!b)=true):b=false:=Eq.mp (bE6 b) h
def Ja{x:Str}(h:Am x=true):(x==("__debug__":Str))=false:=EU (AL h).1
def V4{x:Str}(h:Am x=true):(x==("__classdict__":Str))=false:=EU (AL h).2
noncomputable def A9(es:List Expr)(env:Env):List (Bool×Sem Value):=es.map λe=>(false,eval e env)
def Ih{e:Expr}{r:List Expr}(h:Bq (e::r)=true):ix e 22=false/\Bq r=true:=by
 have h:aH3 (Bq r) false (ix e 22)=true:=h
 cases hx:ix e 22 with
 | false=>rw[hx]at h;exact⟨rfl,h⟩
 | true=>rw[hx]at h;cases h
def Bp(env:Env)(es:List Expr):Bq es=true->starEach es env=A9 es env:=
 aB5 (motive:=λes=>Bq es=true->starEach es env=A9 es env) (λ_=>rfl) (λe r ih h=>by
  obtain⟨h1,h2⟩:=Ih h
  refine Eq.trans ?_ (bO6 (bL3 _) (ih h2))
  clear ih h h2
  cases e<;>first | rfl | cases h1) es
def Da(env:Env)(es:List Expr):Bq es=true->assignEach es env=es.map λe=>(false,assign e env):=
 aB5 (motive:=λes=>Bq es=true->assignEach es env=es.map λe=>(false,assign e env)) (λ_=>rfl) (λe r ih h=>by
  obtain⟨h1,h2⟩:=Ih h
  refine Eq.trans ?_ (bO6 (bL3 _) (ih h2))
  clear ih h h2
  cases e<;>first | rfl | cases h1) es
def CT(pos:Pos)(es:List Expr)(env:Env):backTo pos (A9 es env)=A9 es env:=(aO2 ..).trans rfl
def O2(es:List Expr)(env:Env):(A9 es env).any (·.1)=false:=aB5 rfl (λ_ _ ih=>ih) es
section
variable{X:Cx}{s:aA7}
def JI{α:Type}{p:Prop} [Decidable p] {a b:α} {P:α->Prop} (x:P a) (y:P b):P (if p then a else b):=by
 by_cases h:p
 ·rw[bO7 h];exact x
 ·rw[bO8 h];exact y
def ţ.fin{t:Sem Value}{Q:Value->aA7->Prop}(h:ţ X t Q s):ţ X (t >>= λr=>aS1 [r] point >>= λ_=>Pure.pure r) Q s:=ţ.bind (h.mono λr s₂ h₂=>ţ.bind (ţ.hold (wpAny_point (aA4 h₂))))
def Ev{pos:Pos}{f:Value}{first:List Value}{es:List Expr}{env:Env}{Q:Value->aA7->Prop}
  (h:ţ X (spliced (A9 es env)) (λvs s₁=>FN X f s₁/\ţ X (call f (first++vs) []) Q s₁) s) :
  ţ X (callWith pos f first (A9 es env) []) Q s:=by
 unfold callWith
 have e :∀f,evalArgs f true (A9 es env) []=(do let vs<-spliced (A9 es env);aS1 (vs++[]) (do return ⟨vs,[]⟩)):=by
  intro f
  unfold evalArgs
  cases es with
  | nil=>rfl
  | cons x r=>
   cases r with
   | nil=>rfl
   | cons y r=>rfl
 rw[e]
 refine ţ.bind (ţ.hold (ţ.bind (h.mono λvs s₁ h₁=>?_)))
 refine ţ.hold (ţ.pure (ţ.bind (aK0 ?_)))
 have hs:((A9 es env).any (·.1)||([]:List (Option Str×Sem Value)).any (·.1.isNone))=false:=(bO6 (· || false) (O2 es env)).trans rfl
 rw[hs]
 refine ţ.bind (h₁.1 _ _ λk=>?_)
 cases k with
 | frame=>exact JI (P:=λt=>ţ X t Q s₁) (ţ.fin h₁.2) (ţ.fin (wpAny_keep h₁.2))
 | boundFrame=>exact JI (P:=λt=>ţ X t Q s₁) (ţ.fin h₁.2) (ţ.fin (wpAny_keep h₁.2))
 | machine=>exact ţ.fin h₁.2
 | caller=>exact ţ.fin (wpAny_operating h₁.2)
end
def Bt{o:Expr}{env:Env}(h:FA o=true)(a:Str)(ł:Sem Value):attributeBase o a env ł=ł:=by
 cases o with
 | Call g as ks p=>cases h
 | _=>rfl
section
variable{X:Cx}{P:Pm}{d:Nat}{fN st fM cm fI:aC1}{sc:Scope}(F:Ek X P d fN st fM cm fI sc)
include F
theorem De(x:Str):X.env.kindOf x=sc.names.lookup x:=bO6 (λs:Scope=>s.names.lookup x) F.hsc
theorem FH:X.env.scope.kind = .function:=F.hsc▸F.fun_
theorem M7{x:Str}{v:AV}{c:Ž}{Q:Value->aA7->Prop}(e:P.gl x=some v)(hx:X.env.kindOf x=some .globalImplicit)(R:ŵ X c)(hq :∀u,Lg v=some u->Q u c.s):ţ X (loadName X.env x) Q c.s:=by
 obtain⟨u,e',hc⟩:=F.w.glob x v e
 rw[loadName_read (FH F) hx]
 exact hc.elim (λh=>h.elim λmg h=>loadGlobal_global (F.glb▸h.1.keeps R.base) h.2 (hq u e')) λh=>h.elim λmg h=>h.elim λmb h=>loadGlobal_builtin (F.glb▸h.1.keeps R.base) h.2.1 (F.bui▸h.2.2.1.keeps R.base) h.2.2.2 (hq u e')
theorem Vu{x:Str}{v:AV}{c:Ž}{P:Prop}(R:ŵ X c)(e:c.σ.ρ.lookup x=some v)(hc:X.env.kindOf x=some .cell\/X.env.kindOf x=some .free)(f :∀a u,X.env.cells.lookup x=some a->c.s.heap.IsCell a (some u)->VR X c v u->P):P:=by
 cases ha:X.env.cells.lookup x with
 | none=>exact(R.celAll x hc ha).elim
 | some a=>exact(R.cel x a ha).casesOn λu hu r=>(r v e λz=>hc.elim (λq=>nomatch q.symm.trans z) λq=>nomatch q.symm.trans z).elim λu' q=>f a u' ha (q.1▸hu) q.2
theorem Ic{x:Str}{σ:St}{Q:AV->St->Prop}(hp:Am x=true)(h:H9 P sc x σ Q):TV X (loadName X.env x) σ Q:=λG s R=>by
 have hko:=De F x
 refine AC h λk e h=>?_
 rw[e]at hko
 cases k with
 | «local»=>exact AC h λv e h=>R.loc.casesOn λm hm r=>(r x v e hko).elim λu q=>wpAny_loadName_local (FH F) hko hm q.1 (A1.here (c:=⟨G,σ,s⟩) R q.2 h)
 | cell=>exact AC h λv e h=>Vu F R e (.inl hko) λa u e1 e2 e3=>wpAny_loadName_cell (FH F) hko e1 e2 (A1.here (c:=⟨G,σ,s⟩) R e3 h)
 | free=>exact AC h λv e h=>Vu F R e (.inr hko) λa u e1 e2 e3=>wpAny_loadName_free (FH F) hko e1 e2 (A1.here (c:=⟨G,σ,s⟩) R e3 h) (V4 hp)
 | globalExplicit=>exact h.elim
 | globalImplicit=>exact AC h λv e h=>M7 F e hko R λu e=>A1.here (c:=⟨G,σ,s⟩) R (VS e) h
theorem Kc{x:Str}{p:Pos}{σ:St}{Q:AV->St->Prop}(hp:Am x=true)(h:H9 P sc x σ Q):TV X (eval (.Name x p) X.env) σ Q:=λG s R=>bJ7 (Ic F hp h G s R) (Ja hp)
theorem J3{x:Str}{av:AV}{v:Value}{c:Ž}{Q:St->Prop}(hx:Df sc x=true)(R:ŵ X c)(hv:VR X c av v)(h:Q (c.σ.put x av)):FZ X c Q (storeName X.env x v):=by
 have hko:=De F x
 unfold Df at hx
 cases e:sc.names.lookup x with
 | none=>rw[e]at hx;cases hx
 | some k=>
  rw[e]at hko hx
  cases k with
  | «local»=>exact R.loc.casesOn λm hm r=>wpAny_storeName_local hko hm (λh' hn hb=>.to (c':=c.hp (c.σ.put x av) h' (c.s.toks+1)) (b:=()) (R.storeLocal (t:=c.s.toks+1) hko hv r hn hb) trivial h) ((FH F).symm▸rfl)
  | cell=>
   cases hc:X.env.cells.lookup x with
   | none=>exact(R.celAll x (.inl hko) hc).elim
   | some a=>exact(R.cel x a hc).casesOn λu hu r=>wpAny_storeName_cell (FH F) hko hc hu λh' hn hb=>.to (c':=c.hp (c.σ.put x av) h' c.s.toks) (b:=()) (R.storeCell (t:=c.s.toks) (λz=>nomatch hko.symm.trans z) hc hv hn hb) trivial h
  | _=>cases hx
end
structure IG(X:Cx)(W:ŷ):Prop where
 E :∀e σ Q,W.E e σ Q->TV X (eval e X.env) σ Q
 B :∀e σ Q,W.B e σ Q->Ħ X (isTrue e X.env (eval e X.env)) σ Q
 A :∀t v c Q,W.A t v c.σ Q->∀{u},ŵ X c->VR X c v u->FZ X c Q (assign t X.env u)
 U :∀elt gens cs p u σ Q Q',W.E (.ListComp elt gens cs p) σ Q->(∀c a v,ŵ X c->VR X c a v->Q a c.σ->FZ X c Q' (u v))->∀G s,ŵ X ⟨G,σ,s⟩->FZ X ⟨G,σ,s⟩ Q' (bB7 (.ListComp elt gens cs p) X.env u)
 V :∀Ĭ vx gens cs p u σ Q Q',W.E (.DictComp Ĭ vx gens cs p) σ Q->(∀c a v,ŵ X c->VR X c a v->Q a c.σ->FZ X c Q' (u v))->∀G s,ŵ X ⟨G,σ,s⟩->FZ X ⟨G,σ,s⟩ Q' (bB7 (.DictComp Ĭ vx gens cs p) X.env u)
def P6(l u t:Option Expr)(p:Pos)(env:Env):eval (.Slice l u t p) env=(do
  let l<-valueOrNone (evalOpt l env)
  let u<-aS1 [l] (valueOrNone (evalOpt u env))
  let s<-aS1 [l,u] (valueOrNone (evalOpt t env))
  newFields "slice" [l,u,s]):=rfl
def K4{op:bI6}(h:Ny op=true):op = .Not:=by
 cases op<;>first | rfl | cases h
section
variable{X:Cx}{W:ŷ}(S:IG X W)
include S
theorem Ik(es:List Expr) :∀{σ:St} {Q:List AV->St->Prop},Lu W.E es σ Q->TL X (spliced (A9 es X.env)) σ λvs σ=>vs.length=es.length/\Q vs σ:=
 aB5 (motive:=λes=>∀{σ:St} {Q:List AV->St->Prop},Lu W.E es σ Q->TL X (spliced (A9 es X.env)) σ λvs σ=>vs.length=es.length/\Q vs σ) (λ{σ Q} h G s R=>aA4 (A1.here (c:=⟨G,σ,s⟩) (b:=([]:List AV)) R rfl ⟨rfl,h⟩))
  (λe r ih σ Q h G s R=>by
   show ţ X (do
    let v<-eval e X.env
    let here<-pure [v]
    return here++(<-aS1 here (spliced (A9 r X.env)))) _ _
   exact ţ.bind ((S.E e σ _ h).go (c:=⟨G,σ,s⟩) R λv c₁ vv h₁ x₁ r₁=>ţ.bind (ţ.pure (ţ.bind (ţ.hold ((ih h₁).go x₁.R λvs c₂ vvs h₂ x₂ r₂=>ţ.pure (.to (b:=v::vs) (x₁.trans x₂) ⟨vv,vvs,rfl,x₂.pre.v r₁,r₂⟩ ⟨bO6 aQ9 h₂.1,h₂.2⟩))))))) es
theorem W2(o:Option Expr){σ:St}{Q:AV->St->Prop}(h:wO W.E o σ Q):TV X (valueOrNone (evalOpt o X.env)) σ Q:=by
 cases o with
 | none=>exact λG s R=>aA4 (A1.here (c:=⟨G,σ,s⟩) (b:=AV.none) R rfl h)
 | some e=>exact S.E e σ Q h
theorem bP{op:bL2}(es:List Expr) :∀{σ:St} {Q:Bool->St->Prop},mK W.B op es σ Q->Ħ X (allTrue op es X.env) σ Q:=by
 cases op with
 | And=>
  exact aB5 (motive:=λes=>∀{σ:St} {Q:Bool->St->Prop},mK W.B .And es σ Q->Ħ X (allTrue .And es X.env) σ Q) (λ{σ Q} h G s R=>aA4 (A1.here (c:=⟨G,σ,s⟩) (b:=true) R rfl h))
   (λe r ih σ Q h G s R=>wpAny_allTrue_And_cons ((S.B e σ _ h).go (c:=⟨G,σ,s⟩) R λb c₁ vb h₁ x₁ r₁=>by
    cases r₁
    cases b with
    | true=>exact A1.up (ih h₁ _ _ x₁.R) x₁
    | false=>exact .to (b:=false) x₁ rfl h₁)) es
 | Or=>
  exact aB5 (motive:=λes=>∀{σ:St} {Q:Bool->St->Prop},mK W.B .Or es σ Q->Ħ X (allTrue .Or es X.env) σ Q) (λ{σ Q} h G s R=>aA4 (A1.here (c:=⟨G,σ,s⟩) (b:=false) R rfl h))
   (λe r ih σ Q h G s R=>wpAny_allTrue_Or_cons ((S.B e σ _ h).go (c:=⟨G,σ,s⟩) R λb c₁ vb h₁ x₁ r₁=>by
    cases r₁
    cases b with
    | true=>exact .to (b:=true) x₁ rfl h₁
    | false=>exact A1.up (ih h₁ _ _ x₁.R) x₁)) es
theorem i6{ts:List Expr} :∀{vs:List AV} {c:Ž} {Q:St->Prop} {us:List Value},mT W.A ts vs c.σ Q->ŵ X c->Ŧ X c vs us->FZ X c Q (aO3 (ts.map λt=>assign t X.env) us):=
 aB5 (motive:=λts=>∀{vs:List AV} {c:Ž} {Q:St->Prop} {us:List Value},mT W.A ts vs c.σ Q->ŵ X c->Ŧ X c vs us->FZ X c Q (aO3 (ts.map λt=>assign t X.env) us)) (λ{vs c Q us} h R q=>BU (P:=λus=>FZ X c Q (aO3 [] us)) h q λh=>ţ.pure (A1.here (b:=()) R trivial h))
  (λt ts ih vs c Q us h R q=>AX (P:=λus=>FZ X c Q (aO3 ((t::ts).map λt=>assign t X.env) us)) h q λa r v vr r1 r2 h=>by
   show ţ X (do aS1 vr (assign t X.env v);aO3 (ts.map λt=>assign t X.env) vr) _ _
   exact ţ.bind (ţ.hold (ţ.mono (S.A t a c _ h R r1) λ_ s₁ q=>q.casesOn λG₁ σ₁ _ x₁ _ q₁=>A1.up (ih (c:=⟨G₁,σ₁,s₁⟩) q₁ x₁.R (x₁.pre.va r2)) x₁))) ts
end
def Vc{P:AV->Prop}{a:AV}{b:Bool}(e:Tm a=some b)(f:P (.bool b)):P a:=
 AV.casesOn (motive_1:=λa=>Tm a=some b->P a) a AA (λ_ e=>aA1 e▸f) (λ_=>AA) (λ_ _=>AA) (λ_=>AA) (λ_=>AA) (λ_=>AA) (λ_ _=>AA) (λ_=>AA) (λ_=>AA) AA e
def Ho{n:Nat}(h:aV2 n 1000000=true):AE n:=aK5 h
def M1{i:Expr}(h:ix i 26=false) :∀o k,subscripted i false o k=operate [o,k] (getItem o k):=by
 cases i with
 | Slice=>cases h
 | _=>exact λ_ _=>rfl
def Es{g:Expr}(h:ix g 20=false)(es:List Expr)(p:Pos)(env:Env):eval (.Call g es [] p) env=(do callWith p (<-eval g env) [] (backTo p (starEach es env)) (backToKw p (keywordEach [] env))):=by
 cases g with
 | Attribute=>cases h
 | _=>rfl
section
variable{X:Cx}{P:Pm}{d:Nat}{fN st fM cm fI:aC1}{sc:Scope}{W:ŷ}(F:Ek X P d fN st fM cm fI sc)(S:IG X W){σ:St}{Q:AV->St->Prop}
include S
theorem RJ{es:List Expr}{k:Nat}{p:Pos}(h:Uo W es σ λvs σ=>Q (.tup vs) σ):TV X (eval (.Tuple es k p) X.env) σ Q:=λG s R=>by
 obtain⟨h1,h⟩:=A4 h
 refine wpAny_Tuple ?_
 rw[Bp _ _ (AL h1).1,CT]
 exact(Ik S es h).go (c:=⟨G,σ,s⟩) R λvs c₁ us h₁ x₁ r₁=>⟨(Ho (AL h1).2).line (r₁.len.trans h₁.1),(A1.newTup _ 0 x₁.R r₁ h₁.2).lift x₁⟩
theorem UN{es:List Expr}{p:Pos}(h:Uo W es σ λvs σ=>aH3 (Q (.ref σ.n) (σ.new (.list vs))) (Q (.lst vs) σ) (P.frz p)):TV X (eval (.List es p) X.env) σ Q:=λG s R=>by
 obtain⟨h1,h⟩:=A4 h
 refine wpAny_List_spliced ?_
 rw[Bp _ _ (AL h1).1,CT]
 refine(Ik S es h).go (c:=⟨G,σ,s⟩) R λvs c₁ us h₁ x₁ r₁=>⟨(Ho (AL h1).2).line (r₁.len.trans h₁.1),?_⟩
 have h₂:=h₁.2
 cases hz:P.frz p with
 | true=>rw[hz]at h₂;exact(A1.newLst _ 0 x₁.R r₁ h₂).lift x₁
 | false=>rw[hz]at h₂;exact(A1.newList _ 0 x₁.R r₁ h₂).lift x₁
theorem j8{op:bL2}{p:Pos}(es:List Expr) :∀σ Q,mW W.E op es σ Q->TV X (eval (.BoolOp op es p) X.env) σ Q:=by
 refine aB5 (motive:=λes=>∀σ Q,mW W.E op es σ Q->TV X (eval (.BoolOp op es p) X.env) σ Q) (λ_ _ h=>h.elim) (λe r ih σ Q h G s R=>?_) es
 cases r with
 | nil=>exact S.E e σ Q h G s R
 | cons e' r=>
  show ţ X (do
   let v<-eval e X.env
   standAt p
   let t<-aS1 [v] (truthy v)
   match op,t with
   | .And,false | .Or,true=>pure v
   | _,_=>eval (.BoolOp op (e'::r) p) X.env) _ _
  refine ţ.bind ((S.E e σ _ h).go (c:=⟨G,σ,s⟩) R λa c₁ va h₁ x₁ r₁=>ţ.bind (aK0 (ţ.bind (ţ.hold ?_))))
  refine AC h₁ λb eb h₂=>?_
  rw[show va = .bool b from Vc (P:=λa=>VR X c₁ a va->va = .bool b) eb (λz=>z) r₁]
  refine aO7 ?_
  have go:An (b==M9 op) (mW W.E op (e'::r) c₁.σ Q) (Q (.bool b) c₁.σ):=h₂
  cases op<;>cases b
  ·exact aA4 (.to (c':=c₁) (b:=AV.bool false) x₁ rfl go)
  ·exact A1.up (ih _ _ go _ _ x₁.R) x₁
  ·exact A1.up (ih _ _ go _ _ x₁.R) x₁
  ·exact aA4 (.to (c':=c₁) (b:=AV.bool true) x₁ rfl go)
theorem Q9{t b o:Expr}{p:Pos}(h:W.B t σ λc σ=>An c (W.E b σ Q) (W.E o σ Q)):TV X (eval (.IfExp t b o p) X.env) σ Q:=λG s R=>
 wpAny_IfExp ((S.B t σ _ h).go (c:=⟨G,σ,s⟩) R λc c₁ vc h₁ x₁ r₁=>by
  cases r₁
  cases c with
  | true=>exact A1.up (S.E b _ _ h₁ _ _ x₁.R) x₁
  | false=>exact A1.up (S.E o _ _ h₁ _ _ x₁.R) x₁)
theorem WZ{o i:Expr}{p:Pos}(h:ZJ W o i σ Q):TV X (eval (.Subscript o i p) X.env) σ Q:=λG s R=>by
 cases hi:ix i 26 with
 | false=>
  exact Subscript_ ((S.E o σ _ h).go (c:=⟨G,σ,s⟩) R λa c₁ va h₁ x₁ r₁=>by
   rw[hi]at h₁
   exact(S.E i _ _ h₁).go x₁.R λb c₂ vb h₂ x₂ r₂=>A1.up (dJ h₂ (M1 hi) x₂.R (x₂.pre.v r₁) r₂) (x₁.trans x₂))
 | true=>
  refine Expr.Slice.elim (motive_1:=λi=>ZJ W o i σ Q->ŝ X ⟨G,σ,s⟩ Q (eval (.Subscript o i p) X.env)) i (aB4 hi) (λlo up st q h=>?_) h
  show ţ X _ _ _
  rw[eval_Subscript,P6]
  exact ţ.bind ((S.E o σ _ h).go (c:=⟨G,σ,s⟩) R λa c₁ va h₁ x₁ r₁=>ţ.bind (ţ.hold (ţ.bind ((W2 S lo h₁).go x₁.R λb c₂ vb h₂ x₂ r₂=>ţ.bind (ţ.hold ((W2 S up h₂).go x₂.R λd c₃ vd h₃ x₃ r₃=>ţ.bind (ţ.hold ((W2 S st h₃).go x₃.R λe c₄ ve h₄ x₄ r₄=>
   have x24:=x₂.trans (x₃.trans x₄)
   ţ.mono (jL h₄ x₄.R (x24.pre.v r₁) ((x₃.trans x₄).pre.v r₂) (x₄.pre.v r₃) r₄) λi s₅ h₅=>ţ.bind (aK0 (A1.up h₅ (x₁.trans x24)))))))))))
include F
theorem MA{l:Expr}{ops:List bF6}{rs:List Expr}{p:Pos}(h:F8 W l ops rs σ Q):TV X (eval (.Compare l ops rs p) X.env) σ Q:=λG s R=>
 AC h λop e1 h=>AC h λr e2 h=>Hs (P:=λops=>ŝ X ⟨G,σ,s⟩ Q (eval (.Compare l ops rs p) X.env)) e1 (Hs (P:=λrs=>ŝ X ⟨G,σ,s⟩ Q (eval (.Compare l [op] rs p) X.env)) e2
  (wpAny_Compare1 ((S.E l σ _ (A4 h).2).go (c:=⟨G,σ,s⟩) R λa c₁ va h₁ x₁ r₁=>(S.E r _ _ h₁).go x₁.R λb c₂ vb h₂ x₂ r₂=>
   A1.up (R8 (aD1 (aA3 (aK2 (by decide:10<=40) _) (aQ4 (aE1 _ _) 40)) F.A.2.2) h₂ x₂.R (x₂.pre.v r₁) r₂) (x₁.trans x₂)) (EU (A4 h).1)))
theorem cZ{op:bI6}{x:Expr}{p:Pos}(h:xJ W op x σ Q):TV X (eval (.UnaryOp op x p) X.env) σ Q:=λG s R=>
 wpAny_UnaryOp ((S.E x σ _ h).go (c:=⟨G,σ,s⟩) R λa c₁ va h₁ x₁ r₁=>by
  cases hn:Ny op with
  | true=>
   rw[hn]at h₁
   rw[K4 hn]
   exact not_of (ţ.mono (QU h₁ x₁.R r₁) λb s₂ q=>q.casesOn λG₂ σ₂ c y e q=>.to (c':=⟨G₂,σ₂,s₂⟩) (b:=.bool (!c)) (x₁.trans y) (by cases e;rfl) q)
  | false=>rw[hn]at h₁;exact A1.up (g4 h₁ x₁.R r₁) x₁)
end
def Ox(es:List Expr)(env:Env):(A9 es env).all (!·.1)=true:=aB5 rfl (λ_ _ ih=>ih) es
def M8{es:List Expr}{env:Env}{n:Nat}(h:aV2 n 29=true):methodCallForm n (A9 es env) []=true:=
 aE8.mpr ⟨aE8.mpr ⟨Ox es env,rfl⟩,bP0 (Nat.lt_succ_of_le (aK5 h))⟩
def GB{few:Bool}{o:Expr}{env:Env}{ap p:Pos}(h:aD0 ap.endLine p.line=true):methodCallPos few o env ap p=pure p:=by
 unfold methodCallPos
 exact bO7 ((bO6 (λz=>(!few||z)=true) (show(ap.endLine==p.line)=true from(aB4 h)▸bP3 _)).mpr (Bool.or_true _))
section
variable{X:Cx}{P:Pm}{d:Nat}{fN st fM cm fI:aC1}{sc:Scope}{W:ŷ}(F:Ek X P d fN st fM cm fI sc)(S:IG X W){σ:St}{Q:AV->St->Prop}
include F
theorem QC{k0:Const}{k:Nat}{p:Pos}(h:Ab (JQ k0) λv=>Q v σ):TV X (eval (.Constant k0 k p) X.env) σ Q:=λG s R=>
 Const.casesOn (motive:=λk0=>Ab (JQ k0) (λv=>Q v σ)->ŝ X ⟨G,σ,s⟩ Q (eval (.Constant k0 k p) X.env)) k0
  (λh=>wpAny_Constant_none (A1.here (c:=⟨G,σ,s⟩) (b:=AV.none) R rfl h)) (λb h=>wpAny_Constant_bool (A1.here (c:=⟨G,σ,s⟩) (b:=AV.bool b) R rfl h)) (λi h=>bE0 (.int _ R h)) (λ_=>aA8) (λ_ _=>aA8)
  (λy h=>wpAny_Constant_str (.to (b:=AV.str y) (R.toks (s.toks+1)) (bP3 y) h)) (λ_=>aA8) aA8 h
theorem U9{ks:List (Option Expr)}{vs:List Expr}{p:Pos}(h:Dp (Dj ks&&Dj vs) (Q (.ref σ.n) (σ.new (.dict [])))):TV X (eval (.Dict ks vs p) X.env) σ Q:=λG s R=>by
 obtain⟨h1,h⟩:=A4 h
 obtain⟨h1,h2⟩:=AL h1
 exact DM (P:=λks=>ŝ X ⟨G,σ,s⟩ Q (eval (.Dict ks vs p) X.env)) h1 (DM (P:=λvs=>ŝ X ⟨G,σ,s⟩ Q (eval (.Dict [] vs p) X.env)) h2 (wpAny_Dict_empty
  (.to (c':=Ž.add ⟨G,σ,s⟩ (.dict []) _ s.toks) (b:=AV.ref σ.n) (R.alloc λq e=>⟨[],e▸⟨aF0.DictOf.new s.heap,beq_eq_false_iff_ne.mpr λz=>bO9 F.w.sys (aM3.mpr (z▸Fb R))⟩,rfl⟩) ⟨bO6 _ Ű.name_mu.symm,aC2 _⟩ h)))
include S
theorem Uz{o:Expr}{a:Str}{p:Pos}(h:Dp (FA o) (W.E o σ λv σ=>YS P.K v a σ Q)):TV X (eval (.Attribute o a p) X.env) σ Q:=λG s R=>by
 obtain⟨h1,h⟩:=A4 h
 rw[arm_eval_Attribute,Bt h1]
 exact ţ.bind ((S.E o σ _ h).go (c:=⟨G,σ,s⟩) R λv c₁ vv h₁ x₁ r₁=>ţ.bind (aK0 (ţ.bind (ţ.hold (ţ.mono (A1.up (dN F x₁.R h₁ r₁) x₁) λr s₂ h₂=>ţ.bind (wpAny_letTemporaryGo (aA4 h₂)))))))
theorem UC{o:Expr}{m:Str}{ap p:Pos}{es:List Expr}(hf:Mi es=true)(h:Rn P W (o,m,ap) es p σ Q):TV X (eval (.Call (.Attribute o m ap) es [] p) X.env) σ Q:=λG s R=>by
 obtain⟨h1,h⟩:=A4 h
 rw[arm_eval_Call,Bt (AL h1).1,Bp _ _ (AL hf).1,CT]
 refine ţ.bind ((S.E o σ _ h).go (c:=⟨G,σ,s⟩) R λv c₁ vv h₁ x₁ r₁=>ţ.bind (aK0 ?_))
 unfold methodCall
 rw[show backToKw p (keywordEach [] X.env)=[]from rfl,show methodCallForm (es.length+([]:List bM2).length) (A9 es X.env) []=true from M8 (AL hf).2,GB (AL h1).2]
 refine AC h₁ λg e h₁=>ţ.bind (ţ.hold (eD F x₁.R e r₁ λgv t rg=>ţ.bind (ţ.pure ?_)))
 have y:=x₁.R.toks t
 refine Ev (Ń.go (c:=⟨c₁.G,c₁.σ,{c₁.s with toks:=t}⟩) (Ik S es h₁) y.R λvs c₂ vvs h₂ x₂ r₂=>?_)
 have x:=WF (v:=g.1) (vas:=(bif g.2 then [vv]else [])++vvs) F x₂.R h₂.2 (rg c₂) (by
  cases g.2 with
  | true=>exact⟨vv,vvs,rfl,(y.trans x₂).pre.v r₁,r₂⟩
  | false=>exact r₂)
 exact⟨x.1,A1.up x.2 (x₁.trans (y.trans x₂))⟩
theorem QP{g:Expr}{es:List Expr}{p:Pos}{K:Value->aA7->Prop}{J:AV->List AV->St->Prop}(hg:ix g 20=false)(hs:Bq es=true){G:Ű}{s:aA7}(R:ŵ X ⟨G,σ,s⟩)(h:W.E g σ λv σ=>Lu W.E es σ λvs σ=>J v vs σ)
  (hk :∀v vs vv vvs c,Cb X ⟨G,σ,s⟩ c->VR X c v vv->Ŧ X c vs vvs->J v vs c.σ->FN X vv c.s/\ţ X (call vv vvs []) K c.s):ţ X (eval (.Call g es [] p) X.env) K s:=by
 rw[Es hg,Bp _ _ hs,CT]
 exact ţ.bind ((S.E g σ _ h).go (c:=⟨G,σ,s⟩) R λv c₁ vv h₁ x₁ r₁=>Ev ((Ik S es h₁).go x₁.R λvs c₂ vvs h₂ x₂ r₂=>hk v vs vv vvs c₂ (x₁.trans x₂) (x₂.pre.v r₁) r₂ h₂.2))
theorem UD(hLM :∀{g as p σ Q},dD P sc g as σ Q->TV X (eval (.Call g as [] p) X.env) σ Q){g:Expr}{es:List Expr}{ks:List bM2}{p:Pos}(h:WK P sc W g es ks p σ Q):TV X (eval (.Call g es ks p) X.env) σ Q:=by
 obtain⟨h1,h⟩:=A4 h
 refine DM (P:=λks=>TV X (eval (.Call g es ks p) X.env) σ Q) (AL h1).1 ?_
 cases hg:ix g 20 with
 | true=>
  rw[hg]at h
  exact Expr.Attribute.elim (motive_1:=λg=>Rn P W (CO g) es p σ Q->TV X (eval (.Call g es [] p) X.env) σ Q) g (aB4 hg) (λo m ap h=>UC F S (AL h1).2 h) h
 | false=>
  rw[hg]at h
  have h:M2 P sc W g es σ Q:=h
  unfold M2 at h
  cases hl:j5 g es with
  | true=>rw[hl]at h;exact hLM h
  | false=>
   rw[hl]at h
   exact λG s R=>QP F S hg (AL (AL h1).2).1 R h λv vs vv vvs c x rv ra j=>have z:=WF F x.R j rv ra;⟨z.1,A1.up z.2 x⟩
end
end Mine
end
section
open PySem PySem.W PyProof.Rows PySem.Spec PySem.Calls PySem.SeqAt
namespace Mine
def Mg{G:Ű}{a b:aC1}{p:AT}(h:G.own a):(G.put b p).own a:=(aO1 (a=b)).elim (λe=>e▸A3 Ű.put_at) λe=>(bO6 (·≠none) (Ű.put_ne e)).mpr h
def HO.all{vss:List (List AV)}:HO vss->AD nn (vss.map .tup)=some (vss.map .tup)/\AD nn (Em vss)=some (Em vss):=
 aB5 (motive:=λvss=>HO vss->AD nn (vss.map .tup)=some (vss.map .tup)/\AD nn (Em vss)=some (Em vss)) (λ_=>⟨rfl,rfl⟩) (λvs r ih h=>by
  have q:=ih λi ws e=>h (i+1) ws e
  have z:=(h 0 vs rfl).2
  have one :∀k,AV.sub nn (.seq k vs)=some (.seq k vs):=λk=>(bO6 (aD8 (AV.seq k)) z).trans rfl
  have two :∀{k} {l:List AV},AD nn l=some l->AD nn (.seq k vs::l)=some (.seq k vs::l):=λ{k l} e=>by
   show((AV.sub nn (.seq k vs)).bind λa=>(AD nn l).map (a :: ·))=_
   rw[one,e];rfl
  exact⟨two q.1,two q.2⟩) vss
section
variable{X:Cx}{s:aA7}
def Wx{e:Expr}{r:List Expr}{Q:List Value->aA7->Prop}(h:ţ X (eval e X.env) (λv s₁=>ţ X (spliced (A9 r X.env)) (λvs s₂=>Q (v::vs) s₂) s₁) s):ţ X (spliced (A9 (e::r) X.env)) Q s:=by
 show ţ X (do
  let v<-eval e X.env
  let here<-pure [v]
  return here++(<-aS1 here (spliced (A9 r X.env)))) _ _
 exact ţ.bind (h.mono λv s₁ h₁=>ţ.bind (ţ.pure (ţ.bind (ţ.hold (h₁.mono λvs s₂ h₂=>ţ.pure h₂)))))
end
section
variable{X:Cx}{P:Pm}{d:Nat}{fN st fM cm fI:aC1}{sc:Scope}{W:ŷ}(F:Ek X P d fN st fM cm fI sc){c:Ž}
include F
theorem N1{f:Str}{b:Bi}{pf p:Pos}{es:List Expr}{K:Value->aA7->Prop}(hp:Am f=true)(hx:sc.names.lookup f=some .globalImplicit)(hg:P.gl f=some (.fn b))(hs:Bq es=true)(R:ŵ X c)
  (h:ţ X (spliced (A9 es X.env)) (λvs s₁=>ţ X (call b.val vs []) K s₁) c.s):ţ X (eval (.Call (.Name f pf) es [] p) X.env) K c.s:=by
 rw[Es rfl,Bp _ _ hs,CT]
 exact ţ.bind (bJ7 (M7 F hg ((De F f).trans hx) R λu e=>Ev (h.mono λvs s₁ h₁=>aA1 e▸⟨N5 b,h₁⟩)) (Ja hp))
theorem PT{expr:Bool}{Q:Value->aA7->Prop}(R:ŵ X c)(h:Q (.ref c.s.heap.objs.size) {c.s with heap:=c.s.heap.push (methodObj (.ref fM) (.ref X.L.C)),toks:=c.s.toks+1}):ţ X (aY7 (.ref X.L.C) "_make" expr) Q c.s:=by
 obtain⟨rest,hr⟩:=F.w.cmo
 refine cls_bind (F.w.K.keeps R.base) F.w.Y.reads F.w.make (aR9 (cm_get (F.w.K.keeps R.base) hr ?_))
 show aD2 _ _ (handedOut _) _ _ _
 rw[handedOut_of rfl]
 exact aA4 h
theorem bI{g:Expr}{as:List Expr}{p:Pos}{σ:St}{Q:AV->St->Prop}(h:dD P sc g as σ Q):TV X (eval (.Call g as [] p) X.env) σ Q:=λG s R=>by
 obtain⟨f1,p1,f2,p2,c,p3,p4,x,p5,p6,⟨rfl,rfl⟩,hp,⟨ľ,k2,k3⟩,⟨g1,g2,g3⟩,h⟩:=h
 obtain⟨hp,hm⟩:=AL hp
 obtain⟨hp,n4⟩:=AL hp
 obtain⟨hp,n3⟩:=AL hp
 refine N1 F (c:=⟨G,σ,s⟩) (AL hp).1 ľ g1 rfl R (Wx (N1 F (c:=⟨G,σ,s⟩) (AL hp).2 k2 g2 rfl R (Wx ?_)))
 rw[arm_eval_Attribute,Bt rfl]
 refine ţ.bind (bJ7 (M7 F (c:=⟨G,σ,s⟩) g3 ((De F c).trans k3) R λu e=>ţ.bind (aK0 (ţ.bind (ţ.hold ?_)))) (Ja n3))
 rw[<-aA1 e,F.w.hC]
 refine PT F R (ţ.bind (wpAny_letTemporaryGo (aA4 ?_)))
 have x1:=R.push (methodObj (.ref fM) (.ref X.L.C)) (s.toks+1)
 refine Wx ((Kc F n4 h).go (c:=Ž.hp ⟨G,σ,s⟩ σ (s.heap.push (methodObj (.ref fM) (.ref X.L.C))) (s.toks+1)) x1.R λv c₂ vv h₂ x₂ r₂=>aA4 ?_)
 obtain⟨vss,hl,ht,hn,hq⟩:=h₂
 have hmth:c₂.s.heap.get? s.heap.objs.size=some (methodObj (.ref fM) (.ref X.L.C)):=(x₂.kp.still _ _ (aC4 _ rfl) R.gone).1
 have hml:s.heap.objs.size<c₂.s.heap.objs.size:=aB3 (aB3 (aC2 _) (aB7 (aE3 ..).symm)) x₂.kp.size
 have R2:=x₂.R
 have up:=x1.trans x₂
 clear x₂ x1 R
 generalize hN:s.heap.objs.size=mth at hmth hml
 refine Aw (P:=λvv=>ţ X (call (.type "map") [.ref mth,vv] []) _ c₂.s) hl R2 r₂ λl us k l1 l2=>?_
 refine callType_new MP (by decide) (HT _ _) (IN _ _) (λobj=>IC obj _ _) IE (IA l us k _) ⟨l1,?_⟩
 generalize hh2:((c₂.s.heap.push (By l 0)).push (Ao [.ref c₂.s.heap.objs.size] 0)).push (Cd (c₂.s.heap.objs.size+1) (.ref mth))=h2
 have y1:(c₂.s.heap.push (By l 0)).objs.size=c₂.s.heap.objs.size+1:=aE3 ..
 have y2:((c₂.s.heap.push (By l 0)).push (Ao [.ref c₂.s.heap.objs.size] 0)).objs.size=c₂.s.heap.objs.size+2:=(aE3 ..).trans (bO6 aQ9 y1)
 have z2:h2.objs.size=c₂.s.heap.objs.size+3:=hh2▸(aE3 ..).trans (bO6 aQ9 y2)
 have k2 :∀b o,c₂.s.heap.get? b=some o->h2.get? b=some o:=λb o e=>hh2▸aB1 _ (aB1 _ (aB1 _ e))
 have hit:h2.get? c₂.s.heap.objs.size=some (By l 0):=hh2▸aB1 _ (aB1 _ (aC4 _ rfl))
 have hT:h2.get? (c₂.s.heap.objs.size+1)=some (Ao [.ref c₂.s.heap.objs.size] 0):=hh2▸aB1 _ (y1▸aC4 _ rfl)
 have hI:h2.get? (c₂.s.heap.objs.size+2)=some (Cd (c₂.s.heap.objs.size+1) (.ref mth)):=hh2▸y2▸aC4 _ rfl
 refine⟨⟨_,hI,rfl⟩,aA4 ?_⟩
 have lt :∀{a o},c₂.s.heap.get? a=some o->a≠c₂.s.heap.objs.size:=λ{a o} e=>aE5 (aI8 e)
 have ow :∀{a},((DK c₂.G []).put c₂.s.heap.objs.size .lock).own a->a=c₂.s.heap.objs.size\/c₂.G.own a:=λ{a} e=>(Ű.put_own e).imp id D8.mp
 have D:Kf ((DK c₂.G []).put c₂.s.heap.objs.size .lock) X.h₀ {c₂.s with heap:=h2}:=⟨λa e=>(ow e).elim (λz=>z▸aQ5 (Fb R2)) (R2.ownB a),λa e=>z2.symm▸(ow e).elim (λz=>z▸aM5 (by decide)) (λe=>aB3 (R2.ownLt a e) (aE1 _ 3)),λb o e=>k2 _ _ (R2.base b o e),z2.symm▸aA3 (Fb R2) (aE1 _ 3)⟩
 have nom :∀a,¬ ((DK c₂.G []).put c₂.s.heap.objs.size .lock).mt a:=λa z=>z.elim λp z=>(aO1 (a=c₂.s.heap.objs.size)).elim (λy=>z.2 (aA1 ((y▸z.1).symm.trans Ű.put_at))) λy=>(LY ((Ű.put_ne y).symm.trans z.1)).elim z.2 λz=>z.elim λi z=>z.elim λx z=>nomatch z.1
 have tall:=HO.all ht
 refine KY (s:={c₂.s with heap:=h2}) (I:=c₂.s.heap.objs.size+2) (T:=c₂.s.heap.objs.size+1) (it:=c₂.s.heap.objs.size) (l:=l) (mth:=mth) (F.w.mkOk hm) F.A D (A3 Ű.put_at) nom (aJ6 (aM5 (by decide))) (aJ6 (aC2 _)) (lt l1) (lt hmth) hI hT hit (k2 _ _ l1) (k2 _ _ hmth) ht
  (l2.shut (λa o e q=>⟨k2 _ _ e,λz=>(ow z).elim (lt e) q⟩) tall.1) hn λacc s' q1 Ľ q3 ő q5 Ĳ=>?_
 have kk :∀b o,c₂.s.heap.get? b=some o->s'.heap.get? b=some o:=λb o e=>q1 b o (k2 _ _ e) (lt e)
 have ks:c₂.s.heap.objs.size<=s'.heap.objs.size:=aA3 (z2.symm▸aE1 _ 3) Ľ
 have x3:Cb X c₂ ⟨c₂.G,c₂.σ,s'⟩:=R2.more kk ks (λ_ _=>rfl) (λa e=>aB3 (R2.ownLt a e) ks) (λ_ _=>⟨rfl,rfl⟩) (aA9 _) q3 ő rfl rfl λ_ _=>.inl
 refine .to (c':=⟨c₂.G,c₂.σ,s'⟩) (b:=.lst (Em vss)) (up.trans x3) ⟨_,acc,rfl,q5.elim λcc e=>⟨(cc,none),e⟩,λz=>bO9 (R2.ownLt _ z) (aM3.mpr (z2.symm▸aE1 _ 3)),?_⟩ hq
 exact Ĳ.shut (λa o e q=>⟨e,λz=>q (Mg (Mg (D8.mpr z)))⟩) tall.2
end
def SV(cl:List (Str×aC1))(a:aC1)(p:AT):AT:=AT.rec .lock .lock (λy=>bif cl.lookup y==some a then .cell y else .lock) (λx=>.obj x) (λx=>.dict x) p
def Ű.cmp(G:Ű)(C:aC1)(cl:List (Str×aC1)):Ű:=⟨λa=>bif a==C then some .loc else(G.tag a).map (SV cl a),G.μ,G.δ⟩
def IS(o:Option AT)(p:AT):Option AT:=AT.rec (some .loc) o (λy=>some (.cell y)) (λ_=>o) (λ_=>o) p
def Ű.unc(G' G:Ű)(C:aC1):Ű:=⟨λa=>bif a==C then some .lock else aD5 (G'.tag a) (IS (G'.tag a)) (G.tag a),G'.μ,G'.δ⟩
section
variable{G G':Ű}{C a:aC1}{cl:List (Str×aC1)}{p:AT}
def ZF:(G.cmp C cl).tag C=some .loc:=bO6 (cond · (some AT.loc) ((G.tag C).map (SV cl C))) (bP3 C)
def MK(h:a≠C):(G.cmp C cl).tag a=(G.tag a).map (SV cl a):=bO6 (cond · (some AT.loc) ((G.tag a).map (SV cl a))) (beq_eq_false_iff_ne.mpr h)
def EM(h:a≠C)(e:G.tag a=some p):(G.cmp C cl).tag a=some (SV cl a p):=(MK h).trans (bO6 _ e)
def Jj(h:(G.cmp C cl).own a):a=C\/G.own a:=(aO1 (a=C)).imp id λn z=>h ((MK n).trans (bO6 _ z))
def RP(h:(G.cmp C cl).mt a):a=C\/G.mt a:=(aO1 (a=C)).imp id λn=>h.elim λq e=>by
 obtain⟨r,e1,e2⟩:=map_some ((MK n).symm.trans e.1)
 exact⟨r,e1,λz=>e.2 (by subst z;exact e2.symm)⟩
def Rp(h:a≠C):(G'.unc G C).tag a=aD5 (G'.tag a) (IS (G'.tag a)) (G.tag a):=bO6 (cond · (some AT.lock) (aD5 (motive:=λ_=>Option AT) (G'.tag a) (IS (G'.tag a)) (G.tag a))) (beq_eq_false_iff_ne.mpr h)
def Fv(h:a≠C)(e:G.tag a=some p):(G'.unc G C).tag a=IS (G'.tag a) p:=(Rp h).trans (bO6 (λo=>aD5 (motive:=λ_=>Option AT) (G'.tag a) (IS (G'.tag a)) o) e)
def Lv(h:a≠C)(e:G.tag a=none):(G'.unc G C).tag a=G'.tag a:=(Rp h).trans (bO6 (λo=>aD5 (motive:=λ_=>Option AT) (G'.tag a) (IS (G'.tag a)) o) e)
end
theorem Fw.en{X:Cx}{c:Ž}{x:Nat}{o:AO}(e:Env)(q:Fw X c x o):Fw (X.en e) c x o:=⟨q.lt,q.tag,q.rel⟩
section
variable{X:Cx}{c:Ž}{cl:List (Str×aC1)}{env':Env}
def ŵ.enter{h':aF0}{t:Nat}{ρc:List (Str×AV)}(R:ŵ X c)(hC:env'.locals=c.s.heap.objs.size)(hcl':env'.cells=cl)(hns:h'.Ns c.s.heap.objs.size (λ_=>none))(kk :∀a o,c.s.heap.get? a=some o->h'.get? a=some o)(sz:c.s.heap.objs.size<h'.objs.size)
  (hcl :∀x a,cl.lookup x=some a->X.env.cells.lookup x=some a) (hcap :∀x,env'.kindOf x=some .cell\/env'.kindOf x=some .free->cl.lookup x=none->False)
  (hρ :∀x av,ρc.lookup x=some av->c.σ.ρ.lookup x=some av/\X.env.kindOf x≠some .local/\env'.kindOf x≠some .local) :
  ŵ (X.en env') ⟨c.G.cmp c.s.heap.objs.size cl,⟨ρc,c.σ.H,c.σ.n,c.σ.anc⟩,{c.s with heap:=h',toks:=t}⟩/\Ŀ c.G c.s.heap (c.G.cmp c.s.heap.objs.size cl) h'/\Dy c ⟨c.G.cmp c.s.heap.objs.size cl,⟨ρc,c.σ.H,c.σ.n,c.σ.anc⟩,{c.s with heap:=h',toks:=t}⟩:=by
 have ne :∀{a p},c.G.tag a=some p->a≠c.s.heap.objs.size:=λe=>aE5 (R.ownLt _ (A3 e))
 have kp:Ŀ c.G c.s.heap (c.G.cmp c.s.heap.objs.size cl) h':=⟨λa o e _=>kk a o e,λa h=>(Jj h).elim (λz=>.inr (aB7 z.symm)) .inl,λa h=>(RP h).elim (λz=>.inr (aB7 z.symm)) .inl,aE4 sz,λa h=>EM (ne h) h⟩
 have p:Dy c ⟨c.G.cmp c.s.heap.objs.size cl,⟨ρc,c.σ.H,c.σ.n,c.σ.anc⟩,{c.s with heap:=h',toks:=t}⟩:=⟨kp.still,λ_ _=>⟨rfl,rfl⟩,aA9 _⟩
 exact⟨{
  base:=λb o e=>kk _ _ (R.base b o e)
  keep:=λb o e q=>kk _ _ (R.keep b o e q)
  size:=aA3 R.size kp.size
  mutHs:=λa h=>(RP h).elim (λz=>.inr (z▸R.size)) (R.mutHs a)
  ownB:=λa h=>(Jj h).elim (λz=>z▸aQ5 R.bsz) (R.ownB a)
  ownLt:=λa h=>(Jj h).elim (λz=>z▸sz) λh=>aY3 (R.ownLt a h) sz
  gens:=R.gens
  os:=R.os
  loc:=⟨λ_=>none,hC.symm▸hns,λx av e k=>bO9 k (hρ x av e).2.2⟩
  cel:=λx a e=>(R.cel x a (hcl x a (hcl'▸e))).casesOn λv hv r=>⟨v,hv.imp λo q=>⟨kk _ _ q.1,q.2⟩,λav e1 _=>(r av (hρ x av e1).1 (hρ x av e1).2.1).imp λu q=>⟨q.1,p.v q.2⟩⟩
  celAll:=λx h e=>hcap x h (hcl'▸e)
  tloc:=hC.symm▸ZF
  tcel:=λx a e=>by
   have e:cl.lookup x=some a:=hcl'▸e
   have ht:=R.tcel x a (hcl x a e)
   refine(EM (ne ht) ht).trans (bO6 some ?_)
   show(bif cl.lookup x==some a then AT.cell x else .lock)=_
   rw[e,bP3]
   rfl
  obj:=λx o e=>have q:=R.obj x o e;(p.obj (X:=X) (EM (ne q.tag) q.tag) (λo=>kk _ o) (λz=>⟨λo=>kk _ o,EM (ne z) z⟩) q).en env'
  anc:=R.anc
  bsz:=aA3 R.bsz kp.size},kp,p⟩
def ŵ.leave{h':aF0}{t:Nat}{cb ci:Ž}(Rb:ŵ X cb)(R:ŵ X c)(kG:Ŀ cb.G cb.s.heap c.G c.s.heap)(Rc:ŵ (X.en env') ci)(k:Ŀ cb.G cb.s.heap ci.G ci.s.heap)
  (hlk :∀a,(c.G.cmp c.s.heap.objs.size cl).tag a=some .lock->ci.G.tag a=some .lock) (hkeep :∀a o,cb.s.heap.get? a=some o->(c.G.cmp c.s.heap.objs.size cl).tag a=some .lock->ci.s.heap.get? a=some o) (hC:env'.locals=c.s.heap.objs.size) (hcl':env'.cells=cl)
  (m:Į cb.σ.n cb.G ci.G) (hn:cb.σ.n<=ci.σ.n) (hρ :∀x a,cl.lookup x=some a->∀av,cb.σ.ρ.lookup x=some av->X.env.kindOf x≠some .local->ci.σ.ρ.lookup x=some av/\env'.kindOf x≠some .local) (hsb:aF7 c.s.heap.objs.size ci.s.heap h') :
  Cb X cb ⟨ci.G.unc c.G c.s.heap.objs.size,⟨cb.σ.ρ,ci.σ.H,ci.σ.n,ci.σ.anc⟩,{ci.s with heap:=h',toks:=t}⟩:=by
 have neC :∀{a p},c.G.tag a=some p->a≠c.s.heap.objs.size:=λe=>aE5 (R.ownLt _ (A3 e))
 have tC:ci.G.tag c.s.heap.objs.size=some .loc:=hC▸Rc.tloc
 have nCb :∀{a o},cb.s.heap.get? a=some o->a≠c.s.heap.objs.size:=λe=>aE5 (aB3 (aI8 e) kG.size)
 have kC :∀{a o},a≠c.s.heap.objs.size->ci.s.heap.get? a=some o->h'.get? a=some o:=λha e=>hsb.extBut _ _ ha e
 have tl :∀{a},c.G.tag a=some .loc->ci.G.tag a=some .lock:=λe=>hlk _ (EM (neC e) e)
 have tc0 :∀{a y},c.G.tag a=some (.cell y)->(cl.lookup y==some a)=false->(c.G.cmp c.s.heap.objs.size cl).tag a=some .lock:=λ{a y} e hc=>(EM (neC e) e).trans (bO6 (λb:Bool=>some (bif b then AT.cell y else .lock)) hc)
 have tc :∀{a y},c.G.tag a=some (.cell y)->ci.G.tag a=some .lock\/ci.G.tag a=some (.cell y):=λ{a y} e=>by
  cases hc:cl.lookup y==some a with
  | true=>exact .inr (Rc.tcel y a (hcl'▸aF2 hc))
  | false=>exact .inl (hlk a (tc0 e hc))
 have own_of :∀{a},(ci.G.unc c.G c.s.heap.objs.size).own a->ci.G.own a:=λ{a} h=>(aO1 (a=c.s.heap.objs.size)).elim (λz=>z▸A3 tC) λn=>by
  cases e:c.G.tag a with
  | none=>exact λz=>h ((Lv n e).trans z)
  | some p=>
   cases p with
   | loc=>exact A3 (tl e)
   | cell y=>exact(tc e).elim A3 A3
   | _=>exact λz=>h ((Fv n e).trans z)
 have mt_of :∀{a},(ci.G.unc c.G c.s.heap.objs.size).mt a->c.G.mt a\/ci.G.mt a:=λ{a} h=>(aO1 (a=c.s.heap.objs.size)).elim (λz=>.inr (z▸ED tC λz=>nomatch z)) λn=>by
  cases e:c.G.tag a with
  | none=>exact .inr (h.imp λp q=>⟨(Lv n e).symm.trans q.1,q.2⟩)
  | some p=>
   cases p with
   | loc=>exact .inl (ED e λz=>nomatch z)
   | cell y=>exact .inl (ED e λz=>nomatch z)
   | _=>exact .inr (h.imp λp q=>⟨(Fv n e).symm.trans q.1,q.2⟩)
 have kp:Ŀ cb.G cb.s.heap (ci.G.unc c.G c.s.heap.objs.size) h':=⟨λa o e q=>kC (nCb e) (k.keep a o e q),λa h=>k.own a (own_of h),λa h=>(mt_of h).elim (kG.mt a) (k.mt a),hsb.1.symm▸k.size,λa h=>have h0:=kG.lock a h;(Fv (neC h0) h0).trans (hlk a (EM (neC h0) h0))⟩
 have p:Dy cb ⟨ci.G.unc c.G c.s.heap.objs.size,⟨cb.σ.ρ,ci.σ.H,ci.σ.n,ci.σ.anc⟩,{ci.s with heap:=h',toks:=t}⟩:=⟨kp.still,m,hn⟩
 have pi:Dy ci ⟨ci.G.unc c.G c.s.heap.objs.size,⟨cb.σ.ρ,ci.σ.H,ci.σ.n,ci.σ.anc⟩,{ci.s with heap:=h',toks:=t}⟩:=⟨λa o e q=>⟨kC (λz=>q (z▸A3 tC)) e,λz=>q (own_of z)⟩,λ_ _=>⟨rfl,rfl⟩,aA9 _⟩
 have lk :∀{a},(c.G.cmp c.s.heap.objs.size cl).tag a=some .lock->∀o,cb.s.heap.get? a=some o->h'.get? a=some o:=λh o e=>kC (nCb e) (hkeep _ o e h)
 have kt :∀{a q},ci.G.tag a=some q->q≠.lock->¬ LU q->(ci.G.unc c.G c.s.heap.objs.size).tag a=some q:=λ{a q} e h1 h2=>by
  have n:a≠c.s.heap.objs.size:=λz=>h2 (.inl (aA1 (e.symm.trans (z▸tC))))
  cases e':c.G.tag a with
  | none=>exact(Lv n e').trans e
  | some p=>
   cases p with
   | loc=>exact bO9 (aA1 (e.symm.trans (tl e'))) h1
   | cell y=>exact(tc e').elim (λz=>bO9 (aA1 (e.symm.trans z)) h1) λz=>bO9 (.inr ⟨y,aA1 (e.symm.trans z)⟩) h2
   | _=>exact(Fv n e').trans e
 have nz :∀{a q},ci.G.tag a=some q->¬ LU q->a≠c.s.heap.objs.size:=λe h z=>h (.inl (aA1 (e.symm.trans (z▸tC))))
 exact⟨kp,p,{
  base:=λb o e=>kC (λz=>by subst z;exact nomatch e.symm.trans (Rc.ownB _ (A3 tC))) (Rc.base b o e)
  keep:=λb o e q=>kC (λz=>bO9 R.size (bG6.mpr (z▸aI8 e))) (Rc.keep b o e q)
  size:=hsb.1.symm▸Rc.size
  mutHs:=λa h=>(mt_of h).elim (R.mutHs a) (Rc.mutHs a)
  ownB:=λa h=>Rc.ownB a (own_of h)
  ownLt:=λa h=>hsb.1.symm▸Rc.ownLt a (own_of h)
  gens:=Rc.gens
  os:=Rc.os
  loc:=p.loc rfl (lk (EM (neC R.tloc) R.tloc)) Rb.loc
  cel:=λx a e=>by
   have ht:=R.tcel x a e
   cases hc:cl.lookup x==some a with
   | true=>
    have e':=aF2 hc
    exact(Rc.cel x a (hcl'▸e')).casesOn λv hv r=>⟨v,hv.imp λo q=>⟨kC (neC ht) q.1,q.2⟩,λav e1 e2=>have q:=hρ x a e' av e1 e2;(r av q.1 q.2).imp λu q=>⟨q.1,pi.v q.2⟩⟩
   | false=>exact p.cel rfl (lk (tc0 ht hc)) (Rb.cel x a e)
  celAll:=R.celAll
  tloc:=Fv (neC R.tloc) R.tloc
  tcel:=λx a e=>have ht:=R.tcel x a e;Fv (neC ht) ht
  obj:=λx o e=>have q:Fw X ci x o:=(Rc.obj x o e).en X.env;pi.obj (kt q.tag (λz=>nomatch z) FJ) (λo=>kC (nz q.tag FJ)) (λz=>⟨λo=>kC (nz z EY),kt z (λz=>nomatch z) EY⟩) q
  anc:=Rc.anc
  bsz:=hsb.1.symm▸Rc.bsz}⟩
end
noncomputable def Lo(ifs:List Expr)(env:Env):Sem Bool:=forIn ifs true λc r=>if r=true then do let ok<-isTrue c env (eval c env);pure (aP1 ok)else pure (aP1 r)
def Do(tg:Expr)(ifs:List Expr)(ip:Pos)(it:Value)(env:Env)(body:Sem Fin)(c:bO3):Sem Fin:=standAt ip >>= λ_=>aT1 it >>= λr=>match r with
 | none=>pure (.done .next)
 | some v=>aW2 tg it v >>= λ_=>assign tg env v >>= λ_=>Lo ifs env >>= λok=>if ok=true then body else again c
section
variable{elt Ĭ vx tg iter:Expr}{ifs:List Expr}{sc:Scope}{p:Pos}{it acc:Value}{D:aC1}{env:Env}{g:aF6}
noncomputable def TP(elt:Expr)(env:Env)(acc:Value):Sem Unit:=do let _<-call (.builtin "list.append") [acc,<-eval elt env]
noncomputable def VW(Ĭ vx:Expr)(env:Env)(D:aC1):Sem Unit:=do
 let kv<-eval Ĭ env
 let vv<-aS1 [kv] (eval vx env)
 standAt {Ĭ.pos with endLine:=vx.pos.endLine,endCol:=vx.pos.endCol}
 aS1 [kv,vv] (dictSet D kv vv)
def Ou:compTurn (.ListComp elt [⟨tg,iter,ifs,0⟩] sc p) 0 it acc env=Do tg ifs iter.pos it env (TP elt env acc >>= λ_=>again (.compLoop (.ListComp elt [⟨tg,iter,ifs,0⟩] sc p) 0 it acc env)) (.compLoop (.ListComp elt [⟨tg,iter,ifs,0⟩] sc p) 0 it acc env):=rfl
def ON:compTurn (.DictComp Ĭ vx [⟨tg,iter,ifs,0⟩] sc p) 0 it (.ref D) env=Do tg ifs iter.pos it env (VW Ĭ vx env D >>= λ_=>again (.compLoop (.DictComp Ĭ vx [⟨tg,iter,ifs,0⟩] sc p) 0 it (.ref D) env)) (.compLoop (.DictComp Ĭ vx [⟨tg,iter,ifs,0⟩] sc p) 0 it (.ref D) env):=rfl
variable{prog:aG3}{w:aB9}
def QW:(aD9 prog w).den (.compLoop (.ListComp elt [⟨tg,iter,ifs,0⟩] sc p) 0 it acc env)=(Do tg ifs iter.pos it env (TP elt env acc >>= λ_=>again (.compLoop (.ListComp elt [⟨tg,iter,ifs,0⟩] sc p) 0 it acc env)) (.compLoop (.ListComp elt [⟨tg,iter,ifs,0⟩] sc p) 0 it acc env)).onRaise (λx=>do noteFrame x env;theTreesLotGoes x):=by rw[<-Ou];rfl
def RL:(aD9 prog w).den (.compLoop (.DictComp Ĭ vx [⟨tg,iter,ifs,0⟩] sc p) 0 it (.ref D) env)=(Do tg ifs iter.pos it env (VW Ĭ vx env D >>= λ_=>again (.compLoop (.DictComp Ĭ vx [⟨tg,iter,ifs,0⟩] sc p) 0 it (.ref D) env)) (.compLoop (.DictComp Ĭ vx [⟨tg,iter,ifs,0⟩] sc p) 0 it (.ref D) env)).onRaise (λx=>do noteFrame x env;theTreesLotGoes x):=by rw[<-ON];rfl
end
section
variable{X:Cx}{R:bD7->aA7->Prop}{s:aA7}
def Lb{tg:Expr}{ifs:List Expr}{ip:Pos}{it:Value}{env:Env}{body:Sem Fin}{c:bO3}(hq:c.quiet=true)(hu:X.A.under c=X.A)
  (hd:(aD9 X.L.prog X.L.w).den c=(Do tg ifs ip it env body c).onRaise (λx=>do noteFrame x env;theTreesLotGoes x)) (I:Nat->aA7->Prop)
  (Eh :∀n s,I n s->ţ X (aT1 it) (λr s₁=>aD5 (R (.ok .next) s₁) (λv=>ţ X (aW2 tg it v) (λ_ s₁=>ţ X (assign tg env v) (λ_ s₂=>ţ X (Lo ifs env) (λok s₃=>
     aH3 (∃m,m<n/\I m s₃) (ţ X body (λfin s₅=>fin = .again c/\∃m,m<n/\I m s₅) s₃) ok) s₂) s₁) s₁) r) s)
  (n:Nat) (h:I n s):aM9 (aD9 X.L.prog X.L.w) X.A c R s:=by
 refine codeAny_loop hq I (λn s hI=>?_) n h
 rw[hu,hd]
 refine wpAny_noted ?_
 refine aA2 (aK0 (aA2 ((Eh n s hI).any λr s₁ h₁=>?_)))
 cases r with
 | none=>exact aA4 h₁
 | some v=>exact aA2 (ţ.any h₁ λ_ s₁' h₁'=>aA2 (ţ.any h₁' λ_ s₂ h₂=>aA2 (ţ.any h₂ λok s₃ h₃=>by
   cases ok with
   | false=>exact aA4 ⟨rfl,h₃⟩
   | true=>exact ţ.any h₃ λfin s₅ h₅=>by obtain⟨rfl,h₅⟩:=h₅;exact⟨rfl,h₅⟩)))
end
def Ux{env:Env}(names:List (Str×aP8)) :∀(acc:List (Str×aC1)),(∀p∈names,p.2 = .free->∃c,env.cells.lookup p.1=some c)->
  ∃cl:List (Str×aC1),(forIn names acc λ(x:Str×aP8) (r:List (Str×aC1))=>(match x with | (name,kind)=>if(kind==aF9)=true then do let a<-cellOf env name;pure (aP1 ((name,a)::r))else pure (aP1 r):Sem _))=pure cl/\
   (∀x c,cl.lookup x=some c->acc.lookup x=some c\/(x,aF9)∈names/\env.cells.lookup x=some c)/\∀x,(x,aF9)∈names\/acc.lookup x≠none->cl.lookup x≠none:=
 aB5 (motive:=λnames=>∀(acc:List (Str×aC1)),(∀p∈names,p.2 = .free->∃c,env.cells.lookup p.1=some c)->
  ∃cl:List (Str×aC1),(forIn names acc λ(x:Str×aP8) (r:List (Str×aC1))=>(match x with | (name,kind)=>if(kind==aF9)=true then do let a<-cellOf env name;pure (aP1 ((name,a)::r))else pure (aP1 r):Sem _))=pure cl/\
   (∀x c,cl.lookup x=some c->acc.lookup x=some c\/(x,aF9)∈names/\env.cells.lookup x=some c)/\∀x,(x,aF9)∈names\/acc.lookup x≠none->cl.lookup x≠none)
  (λacc _=>⟨acc,rfl,λx c e=>.inl e,λx h=>h.elim (λz=>nomatch z) id⟩) (λp r ih acc h=>by
   obtain⟨n,k⟩:=p
   rw[List.forIn_cons]
   have step :∀acc',(∀x c,acc'.lookup x=some c->acc.lookup x=some c\/(x,aF9)∈(n,k)::r/\env.cells.lookup x=some c)->(∀x,x=n/\k = .free\/acc.lookup x≠none->acc'.lookup x≠none)->∀{t:Sem (List (Str×aC1))},(t=forIn r acc' λ(x:Str×aP8) (r:List (Str×aC1))=>(match x with | (name,kind)=>if(kind==aF9)=true then do let a<-cellOf env name;pure (aP1 ((name,a)::r))else pure (aP1 r):Sem _))->∃cl:List (Str×aC1),t=pure cl/\(∀x c,cl.lookup x=some c->acc.lookup x=some c\/(x,aF9)∈(n,k)::r/\env.cells.lookup x=some c)/\∀x,(x,aF9)∈(n,k)::r\/acc.lookup x≠none->cl.lookup x≠none:=λacc' h1 h2 t ht=>
    (ih acc' λp hp=>h p (aC9 _ hp)).imp λcl q=>⟨ht.trans q.1,λx c e=>(q.2.1 x c e).elim (h1 x c) λz=>.inr ⟨aC9 _ z.1,z.2⟩,λx z=>q.2.2 x (z.elim (λz=>(aD7.mp z).elim (λe=>.inr (h2 x (.inl (by cases e;exact⟨rfl,rfl⟩)))) .inl) λz=>.inr (h2 x (.inr z)))⟩
   cases hk:k==aF9 with
   | false=>exact step acc (λx c=>.inl) (λx z=>z.elim (λz=>bO9 (beq_iff_eq.mpr z.2) (aZ3.mp hk)) id) (by dsimp only;rw[hk];rfl)
   | true=>
    have hk':=aF2 hk
    obtain⟨c,hc⟩:=h (n,k) (aC6 ..) hk'
    have e1 :∀x,bI2 x ((n,c)::acc)=bif x==n then some c else acc.lookup x:=λx=>AS x (n,c) acc
    refine step ((n,c)::acc) (λx c' e=>?_) (λx z=>?_) (by dsimp only;rw[hk,bO7 rfl];unfold cellOf;rw[hc];rfl)
    ·rw[e1]at e
     cases hx:x==n with
     | true=>rw[hx]at e;exact .inr ⟨by rw[aF2 hx,hk'];exact aC6 ..,by rw[aF2 hx];exact hc.trans e⟩
     | false=>rw[hx]at e;exact .inl e
    ·rw[e1]
     cases hx:x==n with
     | true=>exact λz=>nomatch z
     | false=>exact z.elim (λz=>bO9 z.1 (ne_of_beq_false hx)) id) names
def V6{env:Env}{cs:Scope}(h :∀p∈cs.names,p.2 = .free->∃c,env.cells.lookup p.1=some c) :∃cl:List (Str×aC1),closureFor cs env=pure cl/\(∀x c,cl.lookup x=some c->(x,aF9)∈cs.names/\env.cells.lookup x=some c)/\∀x,(x,aF9)∈cs.names->cl.lookup x≠none:=
 (Ux cs.names [] h).imp λcl q=>⟨(bO6 (λt:Sem (List (Str×aC1))=>t >>= λr=>pure r) q.1).trans rfl,λx c e=>(q.2.1 x c e).elim (λz=>nomatch z) id,λx z=>q.2.2 x (.inl z)⟩
def Kb{α:Type}{b:Bool}{o:Option α}{a:α}(e:(bif b then o else none)=some a):b=true/\o=some a:=by
 cases b with
 | true=>exact⟨rfl,e⟩
 | false=>exact AA e
section
variable{X:Cx}{P:Pm}{d:Nat}{fN st fM cm fI:aC1}{sc:Scope}{W:ŷ}(F:Ek X P d fN st fM cm fI sc)(S:IG X W)
def Iu{i:Expr}{b:Bi}(e:SZ P sc i=some b){R:Expr->List Expr->Prop}(f :∀x px as p,Am x=true->Bq as=true->sc.names.lookup x=some .globalImplicit->P.gl x=some (.fn b)->R (.Call (.Name x px) as [] p) as):R i (AU i).2.1:=by
 obtain⟨hc,e⟩:=Kb e
 obtain⟨hc,Ξ⟩:=AL hc
 obtain⟨hc,ō⟩:=AL hc
 obtain⟨hc,h3⟩:=AL hc
 obtain⟨h1,h2⟩:=AL hc
 obtain⟨k,e1,e⟩:=AF e
 obtain⟨e2,e⟩:=Kb e
 obtain⟨v,e3,e4⟩:=AF e
 have e5:P.gl (BD (AU i).1)=some (.fn b):=G8 (P:=λv=>P.gl (BD (AU i).1)=some v->P.gl (BD (AU i).1)=some (.fn b)) e4 id e3
 have e6:sc.names.lookup (BD (AU i).1)=some .globalImplicit:=aP8.globalImplicit.elim (motive:=λk=>sc.names.lookup (BD (AU i).1)=some k->sc.names.lookup (BD (AU i).1)=some .globalImplicit) k (aB4 e2) id e1
 clear e1 e2 e3 e4 e hc
 refine Expr.Call.elim (motive_1:=λi=>ix (AU i).1 23=true->Dj (AU i).2.2.1=true->Bq (AU i).2.1=true->Am (BD (AU i).1)=true->P.gl (BD (AU i).1)=some (.fn b)->sc.names.lookup (BD (AU i).1)=some .globalImplicit->R i (AU i).2.1) i (aB4 h1) (λg as ks p h2 h3 ō Ξ e5 e6=>?_) h2 h3 ō Ξ e5 e6
 refine DM (P:=λks=>R (.Call g as ks p) as) h3 ?_
 exact Expr.Name.elim (motive_1:=λg=>Am (BD g)=true->P.gl (BD g)=some (.fn b)->sc.names.lookup (BD g)=some .globalImplicit->R (.Call g as [] p) as) g (aB4 h2) (λx px Ξ e5 e6=>f x px as p Ξ ō e6 e5) Ξ e5 e6
include F S
theorem Mc{t i:Expr}{σ:St}{K:List AV->St->Prop}(h:Fk P sc W t i σ K){G:Ű}{s:aA7}(R:ŵ X ⟨G,σ,s⟩):ţ X (eval i X.env) (λv s₁=>ţ X (aQ6 v) (λiv s₂=>CX X t ⟨G,σ,s⟩ K iv s₂) s₁) s:=by
 have plain:Ym W i σ K->ţ X (eval i X.env) (λv s₁=>ţ X (aQ6 v) (λiv s₂=>CX X t ⟨G,σ,s⟩ K iv s₂) s₁) s:=λh=>(S.E i σ _ h).go (c:=⟨G,σ,s⟩) R λv c₁ vv h₁ x₁ r₁=>
  AC h₁ λvs e h=>(bW F.A.1 e h.1 h.2 t x₁.R r₁).mono λ_ _ q=>q.up x₁
 refine BM h plain λb e h=>?_
 cases h1:aD0 b.ctorIdx 1 with
 | true=>
  rw[h1]at h
  obtain rfl:b = .range:=Bi.range.elim (motive:=λb=>b = .range) b (aB4 h1) rfl
  exact Iu e (R:=λi as=>Lu W.E as σ (λvs σ=>GL vs σ K)->ţ X (eval i X.env) (λv s₁=>ţ X (aQ6 v) (λiv s₂=>CX X t ⟨G,σ,s⟩ K iv s₂) s₁) s) (λx px as p n1 n2 n3 n4 h=>N1 F (c:=⟨G,σ,s⟩) n1 n3 n4 n2 R ((Ik S as h).go (c:=⟨G,σ,s⟩) R λvs c₁ us h₁ x₁ r₁=>(Uy F.A.1 h₁.2 t x₁.R r₁).mono λ_ _ q=>q.mono λ_ _ q=>q.up x₁)) h
 | false=>
  rw[h1]at h
  cases h3:aD0 b.ctorIdx 3 with
  | true=>
   rw[h3]at h
   obtain rfl:b = .enumerate:=Bi.enumerate.elim (motive:=λb=>b = .enumerate) b (aB4 h3) rfl
   exact Iu e (R:=λi as=>Lu W.E as σ (λvs σ=>SS t vs σ K)->ţ X (eval i X.env) (λv s₁=>ţ X (aQ6 v) (λiv s₂=>CX X t ⟨G,σ,s⟩ K iv s₂) s₁) s) (λx px as p n1 n2 n3 n4 h=>N1 F (c:=⟨G,σ,s⟩) n1 n3 n4 n2 R ((Ik S as h).go (c:=⟨G,σ,s⟩) R λvs c₁ us h₁ x₁ r₁=>(YA F.A.1 h₁.2 x₁.R r₁).mono λ_ _ q=>q.mono λ_ _ q=>q.up x₁)) h
  | false=>rw[h3]at h;exact plain h
end
def NO{k k':aP8}:aD0 k.ctorIdx k'.ctorIdx=true->k=k':=by
 cases k<;>cases k'<;>first | exact λ_=>rfl | exact λh=>nomatch h
def JR{o:Option aP8}(k':aP8)(h:isK o k'.ctorIdx=true):o=some k':=by
 cases o with
 | none=>cases h
 | some k=>exact bO6 some (NO h)
def H8{α:Type}{x:Str}{k:α}{l:List (Str×α)}:l.lookup x=some k->(x,k)∈l:=
 aB5 (motive:=λl=>l.lookup x=some k->(x,k)∈l) AA (λp r ih e=>by
  rw[AS]at e
  cases h:x==p.1 with
  | true=>rw[h]at e;rw[aF2 h,<-aA1 e];exact aC6 ..
  | false=>rw[h]at e;exact aC9 _ (ih e)) l
def Pi{sc cs:Scope}{ps:List (Str×aP8)}:JT sc cs ps=true->∀p∈ps,p.2≠.cell/\(p.2 = .local->cs.names.lookup p.1=some .local)/\(p.2 = .free->cs.names.lookup p.1=some .free/\(sc.names.lookup p.1=some .cell\/sc.names.lookup p.1=some .free)):=
 aB5 (motive:=λps=>JT sc cs ps=true->∀p∈ps,p.2≠.cell/\(p.2 = .local->cs.names.lookup p.1=some .local)/\(p.2 = .free->cs.names.lookup p.1=some .free/\(sc.names.lookup p.1=some .cell\/sc.names.lookup p.1=some .free)))
  (λ_ p hp=>nomatch hp) (λp r ih h q hq=>(aD7.mp hq).elim (λz=>by
   subst z
   have h:=(AL h).1
   obtain⟨n,k⟩:=q
   cases k with
   | «local»=>exact⟨λz=>(nomatch z),λ_=>JR .local h,λz=>nomatch z⟩
   | cell=>cases h
   | free=>exact⟨λz=>(nomatch z),λz=>(nomatch z),λ_=>⟨JR .free (AL h).1,(bC5.mp (AL h).2).imp (JR .cell) (JR .free)⟩⟩
   | _=>exact⟨λz=>(nomatch z),λz=>(nomatch z),λz=>nomatch z⟩) λz=>ih (AL h).2 q z) ps
def FI{sc:Scope}{names:List (Str×aP8)}{x:Str}{k:aP8}:(names.map λ(n,k)=>if(k==aF9&&sc.kind == .function&&sc.names.lookup n==some .cell)then(n,aT0)else(n,k)).lookup x=some k->names.lookup x=some k\/k = .cell/\names.lookup x=some .free:=
 aB5 (motive:=λnames=>(names.map λ(n,k)=>if(k==aF9&&sc.kind == .function&&sc.names.lookup n==some .cell)then(n,aT0)else(n,k)).lookup x=some k->names.lookup x=some k\/k = .cell/\names.lookup x=some .free) .inl (λp r ih e=>by
  obtain⟨n,j⟩:=p
  rw[aM7]at e
  have go :∀j',(j'=j\/j' = .cell/\j = .free)->((n,j')::(r.map λ(n,k)=>if(k==aF9&&sc.kind == .function&&sc.names.lookup n==some .cell)then(n,aT0)else(n,k))).lookup x=some k->bI2 x ((n,j)::r)=some k\/k = .cell/\bI2 x ((n,j)::r)=some .free:=λj' hj e=>by
   rw[AS]at e
   rw[AS]
   cases h:x==n with
   | true=>
    rw[h]at e
    have e:some j'=some k:=e
    exact hj.imp (λz=>bO6 some (z.symm.trans (aA1 e))) λz=>⟨(aA1 e).symm.trans z.1,bO6 some z.2⟩
   | false=>rw[h]at e;exact ih e
  cases hc:(j==aF9&&sc.kind == .function&&sc.names.lookup n==some .cell)with
  | true=>exact go .cell (.inr ⟨rfl,aF2 (AL (AL hc).1).1⟩) (by dsimp only at e;rw[hc]at e;exact e)
  | false=>exact go j (.inl rfl) (by dsimp only at e;rw[hc]at e;exact e)) names
def UA{ρ:List (Str×AV)}{x:Str}{v:AV}{xs:List Str}:(pick ρ xs).lookup x=some v->x∈xs/\ρ.lookup x=some v:=
 aB5 (motive:=λxs=>(pick ρ xs).lookup x=some v->x∈xs/\ρ.lookup x=some v) AA (λy r ih e=>by
  have e:bI2 x (aD5 (pick ρ r) (λv=>(y,v)::pick ρ r) (ρ.lookup y))=some v:=e
  have mo:x∈r/\ρ.lookup x=some v->x∈y::r/\ρ.lookup x=some v:=λq=>⟨aC9 _ q.1,q.2⟩
  cases h:ρ.lookup y with
  | none=>rw[h]at e;exact mo (ih e)
  | some u=>
   rw[h]at e
   have e:=(AS x (y,u) _).symm.trans e
   cases hx:x==y with
   | true=>rw[hx]at e;rw[aF2 hx];exact⟨aC6 ..,h.trans e⟩
   | false=>rw[hx]at e;exact mo (ih e)) xs
def IX{x:Str}{ns:List (Str×aP8)}:(x,aF9)∈ns↔x∈(aB5 [] (λp _ ih=>bif aD0 p.2.ctorIdx 2 then p.1::ih else ih) ns:List Str):=
 aB5 (motive:=λns=>(x,aF9)∈ns↔x∈(aB5 [] (λp _ ih=>bif aD0 p.2.ctorIdx 2 then p.1::ih else ih) ns:List Str)) ⟨λh=>(nomatch h),λh=>(nomatch h)⟩ (λp r ih=>by
  obtain⟨n,k⟩:=p
  show _↔x∈(bif aD0 k.ctorIdx aF9.ctorIdx then n::_ else _)
  cases h:aD0 k.ctorIdx aF9.ctorIdx with
  | true=>rw[NO h];exact⟨λz=>(aD7.mp z).elim (λz=>by cases z;exact aC6 ..) λz=>aC9 _ (ih.mp z),λz=>(aD7.mp z).elim (λz=>by rw[z];exact aC6 ..) λz=>aC9 _ (ih.mpr z)⟩
  | false=>exact⟨λz=>(aD7.mp z).elim (λz=>by cases z;cases h) ih.mp,λz=>aC9 _ (ih.mpr z)⟩) ns
def O6{τ σ:St}{x:Str}{xs:List Str}:ER τ σ xs->x∈xs->τ.ρ.lookup x=σ.ρ.lookup x:=
 aB5 (motive:=λxs=>ER τ σ xs->x∈xs->τ.ρ.lookup x=σ.ρ.lookup x) (λ_ h=>nomatch h) (λy r ih h q=>(aD7.mp q).elim (λz=>z▸h.1) (ih h.2)) xs
def Ek.comp{X:Cx}{P:Pm}{d:Nat}{fN st fM cm fI:aC1}{sc cs:Scope}{cl:List (Str×aC1)}{C:aC1}(F:Ek X P d fN st fM cm fI sc)(h:cs.kind = .function):Ek (X.en (compEnvC cs cl C X.env)) P d fN st fM cm fI (CQ cs sc):=
 ⟨F.w,F.A,F.glb,F.bui,F.hsc▸rfl,h⟩
inductive wU(X:Cx)(c c₃:Ž)(env':Env)(cl:List (Str×aC1))(N:Nat)(J:Nat->St->Prop)(It:Nat->Ű->aF0->Prop)(m:Nat)(s':aA7):Prop
 | mk (i:Nat) (G:Ű) (σ:St) (hi:i+m=N) (R:ŵ (X.en env') ⟨G,σ,s'⟩) (j:J i σ) (st:It i G s'.heap) (k:Ŀ c.G c.s.heap G s'.heap) (nm:Į c₃.σ.n c₃.G G) (n:c₃.σ.n<=σ.n)
  (lk :∀a,(c₃.G.cmp c₃.s.heap.objs.size cl).tag a=some .lock->G.tag a=some .lock) (kp :∀a o,c.s.heap.get? a=some o->(c₃.G.cmp c₃.s.heap.objs.size cl).tag a=some .lock->s'.heap.get? a=some o)
def Cb.letC{X:Cx}{c c':Ž}{C:aC1}(x:Cb X c c')(t:c'.G.tag C=some .lock)(h1:X.hs.objs.size<=C)(h2:c.s.heap.objs.size<=C){h':aF0}(hb:aF7 C c'.s.heap h'):Cb X c (c'.hp c'.σ h' c'.s.toks)/\Dy c' (c'.hp c'.σ h' c'.s.toks):=by
 have k :∀a o,a∉[C]->c'.s.heap.get? a=some o->h'.get? a=some o:=λa o n e=>hb.extBut a o (SP n) e
 have q:=x.R.lockAt (t:=c'.s.toks) (wr:=[C]) (λb hb=>aB6.mp hb▸⟨t,h1⟩) k (aB7 hb.1.symm)
 exact⟨⟨⟨λa o e z=>k a o (λhm=>Ce e (aB6.mp hm▸h2)) (x.kp.keep a o e z),x.kp.own,x.kp.mt,hb.1.symm▸x.kp.size,x.kp.lock⟩,x.pre.trans q.1,q.2⟩,q.1⟩
def ZD{X:Cx}{W:ŷ}(S:IG X W){ifs:List Expr}{c:Ž}{K:Bool->St->Prop}(h:Vm W.B ifs c.σ K)(R:ŵ X c):ţ X (Lo ifs X.env) (A1 X Ks c K) c.s:=by
 cases ifs with
 | nil=>exact wpAny_tests_nil (.here (b:=true) R rfl h)
 | cons e r=>
  cases r with
  | nil=>exact wpAny_tests_one (S.B e c.σ K h c.G c.s R)
  | cons=>exact h.elim
section
variable{X:Cx}{P:Pm}{d:Nat}{fN st fM cm fI:aC1}{sc:Scope}{Wc:Scope->ŷ}(F:Ek X P d fN st fM cm fI sc)(H :∀X' sc',Ek X' P d fN st fM cm fI sc'->IG X' (Wc sc'))
include F H
theorem WI{e:Expr}{tg iter:Expr}{ifs:List Expr}{asy:Int}{r:List aF6}{cs:Scope}{p:Pos}{o:AO}{ob:Obj}{newAcc:Sem Value}{rest:Nat->St->(St->Prop)->Prop}{bodyF:Env->Value->Value->Sem Fin}
  {σ:St} {Q:AV->St->Prop} {Qf:Value->aA7->Prop} {use:Option (Value->Sem Unit)} {G:Ű} {s:aA7}
  (h:Dp (Jk sc cs ⟨tg,iter,ifs,asy⟩) (Fk P sc (Wc sc) tg iter σ λitems σ=>BC o items (DV (Wc (CQ cs sc)) ⟨tg,iter,ifs,asy⟩ (rest σ.n)) (Bh cs) σ Q)) (R:ŵ X ⟨G,σ,s⟩)
  (hcl:clausesOf e=⟨tg,iter,ifs,asy⟩::r)
  (hnew :∀{Q:Value->aA7->Prop} {s:aA7},Q (.ref s.heap.objs.size) {s with heap:=s.heap.push ob}->ţ X newAcc Q s)
  (hal :∀c,ŵ X c->Cb X c (c.add o ob c.s.toks))
  (hq :∀env it acc,(bO3.compLoop e 0 it acc env).quiet=true/\X.A.under (.compLoop e 0 it acc env)=X.A)
  (hd:asy=0->∀env it D,(aD9 X.L.prog X.L.w).den (.compLoop e 0 it (.ref D) env)=(Do tg ifs iter.pos it env (bodyF env it (.ref D)) (.compLoop e 0 it (.ref D) env)).onRaise (λx=>do noteFrame x env;theTreesLotGoes x))
  (hst:asy=0->∀{env it acc} {R:bD7->aA7->Prop} {s:aA7},aM9 (aD9 X.L.prog X.L.w) X.A (.compLoop e 0 it acc env) R s->ţ X (aQ6 it) (λit' s'=>aM9 (aD9 X.L.prog X.L.w) X.A (.compLoop e 0 it' acc env) R s') s->aM9 (aD9 X.L.prog X.L.w) X.A (.compStart e 0 it acc env) R s)
  (hb :∀cl C it (c':Ž) n D K,cs.kind = .function->rest n c'.σ K->ŵ (X.en (compEnvC cs cl C X.env)) c'->c'.G.μ n=D->n<c'.σ.n->ţ (X.en (compEnvC cs cl C X.env)) (bodyF (compEnvC cs cl C X.env) it (.ref D)) (λfin s₅=>fin = .again (.compLoop e 0 it (.ref D) (compEnvC cs cl C X.env))/\A1 (X.en (compEnvC cs cl C X.env)) (α:=Unit) (β:=Unit) JW c' (λ_=>K) () s₅) c'.s)
  (fin :∀c a v C mc,Cb X ⟨G,σ,s⟩ c->VR X c a v->Q a c.σ->c.G.tag C=some .lock->X.hs.objs.size<=C->s.heap.objs.size<=C->c.s.heap.Ns C mc->compPost (aD9 X.L.prog X.L.w) X.A (λ_ _=>False) use Qf v C (.ok .next) c.s) :
  ţ X (comprehension e cs X.env p newAcc false (eval iter X.env) use) Qf s:=by
 obtain⟨hc,h⟩:=A4 h
 obtain⟨hc,c5⟩:=AL hc
 obtain⟨hc,c3⟩:=AL hc
 obtain⟨c1,c2⟩:=AL hc
 obtain rfl:asy=0:=aF2 c5
 have hk:cs.kind = .function:=aF2 c1
 have hn:=Pi c2
 have hset :∀x,foldedSetIterable iter X.env x=pure x:=by
  clear h hd hb hst
  have c3:=EU c3
  cases iter with
  | Set=>cases c3
  | _=>exact λ_=>rfl
 have hko:=De F
 have hcells :∀q∈cs.names,q.2 = .free->∃c,X.env.cells.lookup q.1=some c:=λq hq e=>by
  cases hl:X.env.cells.lookup q.1 with
  | some c=>exact⟨c,rfl⟩
  | none=>exact(R.celAll q.1 (hko q.1▸((hn q hq).2.2 e).2) hl).elim
 obtain⟨cl,e1,e2,e3⟩:=V6 hcells
 refine wpAny_comprehension_free (use:=use) hcl hset e1 hk (λq hq=>(hn q hq).2.1) ((Mc F (H X sc F) h R).mono λv s₁ h₁=>ţ.mono h₁ λit s₂ hit=>?_)
 cases hit with
 | mk c₁ x I wr items It G₂ e okA self st0 hwr y up hcl=>
 subst e
 obtain⟨J,j0,jt,je⟩:=hcl
 refine hnew ?_
 have x₃:Cb X ⟨G₂,c₁.σ,s₂⟩ (Ž.add ⟨G₂,c₁.σ,s₂⟩ o ob s₂.toks):=hal _ y.R
 generalize hc3:Ž.add ⟨G₂,c₁.σ,s₂⟩ o ob s₂.toks=c₃ at x₃
 have hs3:({s₂ with heap:=s₂.heap.push ob}:aA7)=c₃.s:=hc3▸rfl
 have hn3:c₃.σ.n=c₁.σ.n+1:=hc3▸rfl
 have hm3:c₃.G.μ c₁.σ.n=s₂.heap.objs.size:=hc3▸Ű.name_mu
 have hσ3:c₃.σ=c₁.σ.new o:=hc3▸rfl
 have up3 :∀a o,s₂.heap.get? a=some o->c₃.s.heap.get? a=some o:=λa o e=>hc3▸aB1 _ e
 show aD2 _ _ _ _ _ {s₂ with heap:=s₂.heap.push ob}
 rw[hs3]
 refine wpAny_newFunctionEnv (λq hq=>(hn q hq).1) (λ_ h=>nomatch h) (λh' hns hsb=>?_) hk
 have kk :∀a o,c₃.s.heap.get? a=some o->h'.get? a=some o:=λa o e=>hsb.extBut a o (aE5 (aI8 e)) (aB1 _ e)
 have sz:c₃.s.heap.objs.size<h'.objs.size:=hsb.1.symm▸aE3 ..▸aC2 _
 have hkl :∀x,(compEnvC cs cl c₃.s.heap.objs.size X.env).kindOf x=(CQ cs sc).names.lookup x:=λx=>F.hsc▸rfl
 have hcf :∀x,(x,aF9)∈cs.names->(compEnvC cs cl c₃.s.heap.objs.size X.env).kindOf x≠some .local/\X.env.kindOf x≠some .local:=λx hx=>by
  have q:=(hn _ hx).2.2 rfl
  exact⟨λz=>(FI ((hkl x).symm.trans z)).elim (λz=>nomatch z.symm.trans q.1) (λz=>nomatch z.1),λz=>q.2.elim (λw=>nomatch w.symm.trans ((hko x).symm.trans z)) λw=>nomatch w.symm.trans ((hko x).symm.trans z)⟩
 obtain⟨R₄,k₄,p₄⟩:=x₃.R.enter (env':=compEnvC cs cl c₃.s.heap.objs.size X.env) (cl:=cl) (t:=c₃.s.toks) (ρc:=pick c₁.σ.ρ (Bh cs)) rfl rfl hns kk sz (λx a e=>(e2 x a e).2) (λx hx hl=>by
  have:(x,aF9)∈cs.names:=hx.elim (λz=>(FI ((hkl x).symm.trans z)).elim (λz=>bO9 rfl (hn _ (H8 z)).1) λz=>H8 z.2) λz=>(FI ((hkl x).symm.trans z)).elim H8 λz=>nomatch z.1
  exact e3 x this hl) (λx av e=>have q:=UA e;have z:=hcf x (IX.mpr q.1);⟨hσ3▸q.2,z.2,z.1⟩)
 have yk:=y.kp.trans x₃.kp
 have okC:=okA (compEnvC cs cl c₃.s.heap.objs.size X.env)
 have SC:=H _ _ (F.comp (cl:=cl) (C:=c₃.s.heap.objs.size) hk)
 have loop:aM9 (aD9 X.L.prog X.L.w) X.A (.compLoop e 0 (.ref I) (.ref s₂.heap.objs.size) (compEnvC cs cl c₃.s.heap.objs.size X.env))
   (compPost (aD9 X.L.prog X.L.w) X.A (λ_ _=>False) use Qf (.ref s₂.heap.objs.size) c₃.s.heap.objs.size) {c₃.s with heap:=h',toks:=c₃.s.toks}:=by
  refine Lb (hq _ _ _).1 (hq _ _ _).2 (hd rfl _ _ _) (wU X c₁ c₃ (compEnvC cs cl c₃.s.heap.objs.size X.env) cl items.length J It) (λm s' hI=>?_) items.length
   ⟨0,_,_,aF3 _,R₄,hσ3▸j0,(okA X.env).frame _ _ _ _ _ ((okA X.env).frame _ _ _ _ _ st0 x₃.kp) k₄,yk.trans k₄,λ_ _=>⟨rfl,rfl⟩,aA9 _,λ_ e=>e,λa o e _=>kk a o (up3 a o (up a o e))⟩
  cases hI with
  | mk i G' σ' hi R' hj hst k nm hn' lk kp=>
  have nw :∀{a o},c₁.s.heap.get? a=some o->a∉wr:=λe hm=>Ce e (hwr _ hm)
  have stepK :∀{s'':aA7},m8 wr s'.heap s''.heap->Ŀ c₁.G c₁.s.heap G' s''.heap:=λhs=>⟨λa o e q=>hs.1 a o (nw e) (k.keep a o e q),k.own,k.mt,aA3 k.size hs.2,k.lock⟩
  have hlt:c₁.σ.n<σ'.n:=aB3 (aB7 hn3.symm) hn'
  cases m with
  | zero=>
   obtain rfl:i=items.length:=hi
   refine ţ.mono (X:=X) (okC.done ⟨G',σ',s'⟩ R' hst) λr s₅ hr=>?_
   obtain⟨rfl,R₅,hs⟩:=hr
   refine R₅.loc.casesOn λmc hmc _=>?_
   have q:=je σ' hj
   have nm1:Į c₁.σ.n c₁.G G':=λz hz=>have w:=nm z (hn3.symm▸aG5 hz);have Ł:=(y.pre.trans x₃.pre).nm z hz;⟨w.1.trans Ł.1,w.2.trans Ł.2⟩
   have lv:=ŵ.leave (X:=X) (c:=c₃) (cb:=c₁) (ci:=⟨G',σ',s₅⟩) (cl:=cl) (t:=s₅.toks) x.R x₃.R yk R₅ (stepK hs) lk (λa o e z=>hs.1 a o (nw e) (kp a o e z)) rfl rfl nm1 (aE4 hlt) (λx a e av h1 h2=>have z:=(e2 x a e).1;⟨(O6 q.1 (IX.mp z)).trans h1,(hcf x z).1⟩) ⟨rfl,λ_ _=>rfl⟩
   exact fin _ (.ref c₁.σ.n) _ c₃.s.heap.objs.size mc (x.trans lv) (And.intro (bO6 _ (hm3.symm.trans (nm c₁.σ.n (hn3.symm▸aC2 _)).1.symm)) hlt) q.2 (bO6 (cond · (some AT.lock) _) (bP3 _)) x₃.R.size (aA3 x.kp.size yk.size) hmc
  | succ m=>
   refine ţ.mono (X:=X) (okC.item i ⟨G',σ',s'⟩ R' (hi▸aM5 (aV3 m)) hst) λr s₃ hr=>?_
   obtain⟨u,rfl,hgo⟩:=hr
   refine ţ.mono (X:=X) hgo λ_ s₄ hx=>?_
   cases hx with
   | mk av hav hvr R₄' st₄ hs=>
   have turned :∀c₇:Ž,Cb (X.en (compEnvC cs cl c₃.s.heap.objs.size X.env)) ⟨G',σ',s₄⟩ c₇->J (i+1) c₇.σ->∃m',m'<m+1/\wU X c₁ c₃ (compEnvC cs cl c₃.s.heap.objs.size X.env) cl items.length J It m' c₇.s:=λc₇ z q₇=>
    ⟨m,aC2 m,i+1,c₇.G,c₇.σ,(aW4 i 1 m).trans hi,z.R,q₇,(okA X.env).frame _ _ _ _ _ st₄ z.kp,(stepK hs).trans z.kp,λw hw=>have a:=z.pre.nm w (aB3 hw hn');have b:=nm w hw;⟨a.1.trans b.1,a.2.trans b.2⟩,aA3 hn' z.pre.n,λa e=>z.kp.lock a (lk a e),λa o e q=>z.kp.lk (lk a q) o (hs.1 a o (nw e) (kp a o e q))⟩
   refine ţ.mono (X:=X) (SC.A tg av ⟨G',σ',s₄⟩ _ (jt i av σ' hav hj) R₄' hvr) λ_ s₅ q=>?_
   cases q with
   | mk G₅ σ₅ _ x₅ _ q₅=>
   refine ţ.mono (X:=X) (ZD SC (c:=⟨G₅,σ₅,s₅⟩) q₅ x₅.R) λb s₆ q=>?_
   cases q with
   | mk G₆ σ₆ b' x₆ e₆ q₆=>
   cases e₆
   have x56:=x₅.trans x₆
   cases b with
   | false=>exact turned ⟨G₆,σ₆,s₆⟩ x56 q₆
   | true=>
    have hμ:G₆.μ c₁.σ.n=s₂.heap.objs.size:=(x56.pre.nm c₁.σ.n hlt).1.trans ((nm c₁.σ.n (hn3.symm▸aC2 _)).1.trans hm3)
    refine ţ.mono (X:=X) (hb cl c₃.s.heap.objs.size (.ref I) ⟨G₆,σ₆,s₆⟩ c₁.σ.n _ _ hk q₆ x₆.R hμ (aB3 hlt x56.pre.n)) λfin s₇ q=>?_
    obtain⟨e₇,q⟩:=q
    cases q with
    | mk G₇ σ₇ _ x₇ _ q₇=>exact⟨e₇,turned ⟨G₇,σ₇,s₇⟩ (x56.trans x₇) q₇⟩
 exact hst rfl loop (ţ.any (self 0 _ {c₃.s with heap:=h',toks:=c₃.s.toks} (λv s'=>v = .ref I/\s' = {c₃.s with heap:=h',toks:=c₃.s.toks}) ((okA X.env).frame _ _ _ _ _ ((okA X.env).frame _ _ _ _ _ st0 x₃.kp) k₄) ⟨rfl,rfl⟩) λv s' q=>by obtain⟨rfl,rfl⟩:=q;exact loop)
end
abbrev HJ(X:Cx)(c':Ž)(K:St->Prop)(c:bO3):Fin->aA7->Prop:=λfin s₅=>fin = .again c/\A1 X (α:=Unit) (β:=Unit) JW c' (λ_=>K) () s₅
section
variable{X:Cx}{W:ŷ}(S:IG X W){n:Nat}{D:aC1}{c':Ž}{K:St->Prop}{c:bO3}
include S
theorem eJ{elt:Expr}(h:XJ elt W n c'.σ K)(R:ŵ X c')(hμ:c'.G.μ n=D)(hlt:n<c'.σ.n):ţ X (TP elt X.env (.ref D) >>= λ_=>again c) (HJ X c' K c) c'.s:=by
 refine ţ.bind (ţ.bind ((S.E elt c'.σ _ h).go R λu c₆ vu h₆ x₆ r₆=>?_))
 have hμ':c₆.G.μ n=D:=(x₆.pre.nm n hlt).1.trans hμ
 refine ţ.bind (ţ.mono (MI (b:=.append) h₆ x₆.R (vas:=[.ref D,vu]) ⟨_,_,rfl,⟨bO6 _ hμ'.symm,aB3 hlt x₆.pre.n⟩,_,_,rfl,r₆,rfl⟩) λ_ s₇ q=>?_)
 cases q with
 | mk G₇ σ₇ _ x₇ _ q₇=>exact ţ.pure (ţ.pure ⟨rfl,.to (c':=⟨G₇,σ₇,s₇⟩) (b:=()) (x₆.trans x₇) trivial q₇⟩)
theorem dU{Ĭ vx:Expr}(h:YD Ĭ vx W n c'.σ K)(R:ŵ X c')(hμ:c'.G.μ n=D)(hlt:n<c'.σ.n):ţ X (VW Ĭ vx X.env D >>= λ_=>again c) (HJ X c' K c) c'.s:=by
 refine ţ.bind (ţ.bind ((S.E Ĭ c'.σ _ h).go R λa c₁ va h₁ x₁ r₁=>ţ.bind (ţ.hold ((S.E vx c₁.σ _ h₁).go x₁.R λv c₂ vv h₂ x₂ r₂=>ţ.bind (aK0 (ţ.hold ?_))))))
 have x:=x₁.trans x₂
 have hμ':c₂.G.μ n=D:=(x.pre.nm n hlt).1.trans hμ
 have rD:VR X c₂ (.ref n) (.ref D):=⟨bO6 _ hμ'.symm,aB3 hlt x.pre.n⟩
 refine F2 (P:=λu=>u = .ref D->ţ X (dictSet D va vv) (λ_ s=>ţ X (again c) (HJ X c' K c) s) c₂.s) h₂ x₂.R rD (λy es kvs hx p1 p2 hz h e=>?_) rfl
 cases e
 exact AC h λk e h=>wpAny_dictSet_pairs (BS e (x₂.pre.v r₁)) p1.1 (λh' hd hs=>ţ.pure ⟨rfl,have z:=x₂.R.setDict _ hx hs ⟨hd,p1.2⟩ (p2.dset k r₂);.to (b:=()) (x.trans z) trivial h⟩) hz
end
section
variable{X:Cx}{P:Pm}{d:Nat}{fN st fM cm fI:aC1}{sc:Scope}{Wc:Scope->ŷ}(F:Ek X P d fN st fM cm fI sc)(H :∀X' sc',Ek X' P d fN st fM cm fI sc'->IG X' (Wc sc'))
include F H
theorem Yt(c:Ž)(R:ŵ X c):Cb X c (c.add (.list []) (Ad [] 0) c.s.toks):=R.alloc λp e=>⟨[],⟨(0,none),(bO6 _ e).trans (aC4 _ rfl)⟩,rfl⟩
theorem Sh{elt:Expr}{gens:List aF6}{cs:Scope}{p:Pos}{σ:St}{Q:AV->St->Prop}{Qf:Value->aA7->Prop}{use:Option (Value->Sem Unit)}{G:Ű}{s:aA7}(h:m4 P Wc sc elt gens cs σ Q)(R:ŵ X ⟨G,σ,s⟩)
  (fin :∀c a v C mc,Cb X ⟨G,σ,s⟩ c->VR X c a v->Q a c.σ->c.G.tag C=some .lock->X.hs.objs.size<=C->s.heap.objs.size<=C->c.s.heap.Ns C mc->compPost (aD9 X.L.prog X.L.w) X.A (λ_ _=>False) use Qf v C (.ok .next) c.s) :
  ţ X (comprehension (.ListComp elt gens cs p) cs X.env (firstIterPos gens p) (newList []) (firstAsync gens) (firstIter gens X.env) use) Qf s:=by
 obtain⟨hr,h⟩:=A4 h
 cases gens with
 | nil=>exact h.elim
 | cons g r=>
  cases r with
  | cons=>cases hr
  | nil=>
  obtain⟨tg,iter,ifs,asy⟩:=g
  have h:Dp (Jk sc cs ⟨tg,iter,ifs,asy⟩) (Fk P sc (Wc sc) tg iter σ λitems σ=>BC (.list []) items (DV (Wc (CQ cs sc)) ⟨tg,iter,ifs,asy⟩ (XJ elt (Wc (CQ cs sc)) σ.n)) (Bh cs) σ Q):=h
  obtain rfl:asy=0:=aF2 (AL (A4 h).1).2
  exact WI F H (e:=.ListComp elt [⟨tg,iter,ifs,0⟩] cs p) (rest:=λn=>XJ elt (Wc (CQ cs sc)) n) (bodyF:=λenv it acc=>TP elt env acc >>= λ_=>again (.compLoop (.ListComp elt [⟨tg,iter,ifs,0⟩] cs p) 0 it acc env)) h R rfl
   (λq=>aH8 q) (Yt F H) (λ_ _ _=>⟨rfl,rfl⟩) (λ_ env it D=>QW) (λ_ {env it acc R s} h0 h1=>codeAny_compStart_list h0 (ţ.any h1 λ_ _ q=>q))
   (λcl C it c' n D K hk q R hμ hlt=>eJ (H _ _ (F.comp (cl:=cl) (C:=C) hk)) q R hμ hlt) fin
theorem XD(c:Ž)(R:ŵ X c):Cb X c (c.add (.dict []) {cls:=.type "dict",data:=.dict #[] 0} c.s.toks):=R.alloc λq e=>⟨[],e▸⟨aF0.DictOf.new c.s.heap,beq_eq_false_iff_ne.mpr λz=>bO9 F.w.sys (aM3.mpr (z▸Fb R))⟩,rfl⟩
theorem Qr{Ĭ vx:Expr}{gens:List aF6}{cs:Scope}{p:Pos}{σ:St}{Q:AV->St->Prop}{Qf:Value->aA7->Prop}{use:Option (Value->Sem Unit)}{G:Ű}{s:aA7}(h:mX P Wc sc Ĭ vx gens cs σ Q)(R:ŵ X ⟨G,σ,s⟩)
  (fin :∀c a v C mc,Cb X ⟨G,σ,s⟩ c->VR X c a v->Q a c.σ->c.G.tag C=some .lock->X.hs.objs.size<=C->s.heap.objs.size<=C->c.s.heap.Ns C mc->compPost (aD9 X.L.prog X.L.w) X.A (λ_ _=>False) use Qf v C (.ok .next) c.s) :
  ţ X (comprehension (.DictComp Ĭ vx gens cs p) cs X.env (firstIterPos gens p) newDict (firstAsync gens) (firstIter gens X.env) use) Qf s:=by
 obtain⟨hr,h⟩:=A4 h
 cases gens with
 | nil=>exact h.elim
 | cons g r=>
  cases r with
  | cons=>cases hr
  | nil=>
  obtain⟨tg,iter,ifs,asy⟩:=g
  have h:Dp (Jk sc cs ⟨tg,iter,ifs,asy⟩) (Fk P sc (Wc sc) tg iter σ λitems σ=>BC (.dict []) items (DV (Wc (CQ cs sc)) ⟨tg,iter,ifs,asy⟩ (YD Ĭ vx (Wc (CQ cs sc)) σ.n)) (Bh cs) σ Q):=h
  obtain rfl:asy=0:=aF2 (AL (A4 h).1).2
  exact WI F H (e:=.DictComp Ĭ vx [⟨tg,iter,ifs,0⟩] cs p) (rest:=λn=>YD Ĭ vx (Wc (CQ cs sc)) n) (bodyF:=λenv it acc=>match acc with | .ref D=>VW Ĭ vx env D >>= λ_=>again (.compLoop (.DictComp Ĭ vx [⟨tg,iter,ifs,0⟩] cs p) 0 it acc env) | _=>pure (.done .next)) h R rfl
    (ob:={cls:=.type "dict",data:=.dict #[] 0}) (λq=>aH8 q) (XD F H) (λ_ _ _=>⟨rfl,rfl⟩) (λ_ env it D=>RL) (λ_ {env it acc R s} h0 h1=>codeAny_compStart_dict h0 (ţ.any h1 λ_ _ q=>q))
    (λcl C it c' n D K hk q R hμ hlt=>dU (H _ _ (F.comp (cl:=cl) (C:=C) hk)) q R hμ hlt) fin
theorem iU{elt:Expr}{gens:List aF6}{cs:Scope}{p:Pos}{σ:St}{Q:AV->St->Prop}(h:m4 P Wc sc elt gens cs σ Q):TV X (eval (.ListComp elt gens cs p) X.env) σ Q:=λG s R=>by
 rw[eval_ListComp]
 exact Sh F H h R λc a v C mc x r q t h1 h2 hm=>⟨mc,hm,λh' hb=>have y:=x.letC t h1 h2 hb;.to (b:=a) y.1 (y.2.v r) q⟩
theorem bG{Ĭ vx:Expr}{gens:List aF6}{cs:Scope}{p:Pos}{σ:St}{Q:AV->St->Prop}(h:mX P Wc sc Ĭ vx gens cs σ Q):TV X (eval (.DictComp Ĭ vx gens cs p) X.env) σ Q:=λG s R=>by
 show ţ X (comprehension (.DictComp Ĭ vx gens cs p) cs X.env (firstIterPos gens p) newDict (firstAsync gens) (firstIter gens X.env)) _ _
 exact Qr F H h R λc a v C mc x r q t h1 h2 hm=>⟨mc,hm,λh' hb=>have y:=x.letC t h1 h2 hb;.to (b:=a) y.1 (y.2.v r) q⟩
theorem eT{t:Sem Value}{u:Value->Sem Unit}{σ:St}{Q:AV->St->Prop}{Q':St->Prop}{G:Ű}{s:aA7}(hu :∀c a v,ŵ X c->VR X c a v->Q a c.σ->FZ X c Q' (u v))
  (core :∀Qf:Value->aA7->Prop,(∀c a v C mc,Cb X ⟨G,σ,s⟩ c->VR X c a v->Q a c.σ->c.G.tag C=some .lock->X.hs.objs.size<=C->s.heap.objs.size<=C->c.s.heap.Ns C mc->compPost (aD9 X.L.prog X.L.w) X.A (λ_ _=>False) (some u) Qf v C (.ok .next) c.s)->ţ X t Qf s) :
  FZ X ⟨G,σ,s⟩ Q' (t >>= λ_=>pure ()):=by
 refine ţ.bind (core (λ_ s'=>ţ X (pure ()) (A1 X JW ⟨G,σ,s⟩ λ_=>Q') s') λc a v C mc x r q t h1 h2 hm=>ţ.mono (hu c a v x.R r q) λ_ s₂ z=>?_)
 cases z with
 | mk G₂ σ₂ b x₂ _ q₂=>exact⟨mc,hm.at' λo e=>x₂.kp.lk t o e,λh' hb=>have y:=(x.trans x₂).letC (x₂.kp.lock C t) h1 h2 hb;ţ.pure (.to (b:=()) y.1 trivial q₂)⟩
theorem SX{elt:Expr}{gens:List aF6}{cs:Scope}{p:Pos}{u:Value->Sem Unit}{σ:St}{Q:AV->St->Prop}{Q':St->Prop}(h:m4 P Wc sc elt gens cs σ Q)(hu :∀c a v,ŵ X c->VR X c a v->Q a c.σ->FZ X c Q' (u v))(G:Ű)(s:aA7)(R:ŵ X ⟨G,σ,s⟩) :
  FZ X ⟨G,σ,s⟩ Q' (bB7 (.ListComp elt gens cs p) X.env u):=eT F H hu λQf=>Sh (Qf:=Qf) F H h R
theorem N3{Ĭ vx:Expr}{gens:List aF6}{cs:Scope}{p:Pos}{u:Value->Sem Unit}{σ:St}{Q:AV->St->Prop}{Q':St->Prop}(h:mX P Wc sc Ĭ vx gens cs σ Q)(hu :∀c a v,ŵ X c->VR X c a v->Q a c.σ->FZ X c Q' (u v))(G:Ű)(s:aA7)(R:ŵ X ⟨G,σ,s⟩) :
  FZ X ⟨G,σ,s⟩ Q' (bB7 (.DictComp Ĭ vx gens cs p) X.env u):=eT F H hu λQf=>Qr (Qf:=Qf) F H h R
end
section
variable{X:Cx}{P:Pm}{d:Nat}{fN st fM cm fI:aC1}{sc:Scope}{W:ŷ}(F:Ek X P d fN st fM cm fI sc)(S:IG X W)
include F S
theorem kZ{Wc:Scope->ŷ}(H :∀X' sc',Ek X' P d fN st fM cm fI sc'->IG X' (Wc sc'))(e:Expr)(σ:St)(Q:AV->St->Prop)(h:NH P sc Wc W e σ Q):TV X (eval e X.env) σ Q:=
 Expr.casesOn (motive_1:=λe=>NH P sc Wc W e σ Q->TV X (eval e X.env) σ Q) e (λop es p h=>j8 S es σ Q h) (λ_ _ _=>aA8) (λl op r p h G s R=>wpAny_BinOp ((S.E l σ _ h).go (c:=⟨G,σ,s⟩) R λa c₁ va h₁ x₁ r₁=>(S.E r _ _ h₁).go x₁.R λb c₂ vb h₂ x₂ r₂=>A1.up (iT h₂ x₂.R (x₂.pre.v r₁) r₂) (x₁.trans x₂))) (λ_ _ _=>cZ F S) (λ_ _ _ _=>aA8) (λ_ _ _ _=>Q9 S) (λ_ _ _=>U9 F) (λ_ _ _=>aA8) (λ_ _ _ _=>iU F H) (λ_ _ _ _=>aA8) (λ_ _ _ _ _=>bG F H) (λ_ _ _ _=>aA8) (λ_ _=>aA8) (λ_ _=>aA8) (λ_ _=>aA8) (λ_ _ _ _=>MA F S) (λ_ _ _ _=>UD F S (bI F)) (λ_ _ _ _=>aA8) (λ_ _=>aA8) (λ_ _ _=>QC F) (λ_ _ _=>Uz F S) (λ_ _ _=>WZ S) (λ_ _=>aA8) (λ_ _ h=>Kc F (A4 h).1 (A4 h).2) (λ_ _=>UN S) (λ_ _ _=>RJ S) (λ_ _ _ _=>aA8) h
theorem FT{e:Expr}{σ:St}{Q:Bool->St->Prop}(he:isTrue e X.env (eval e X.env)=(do let v<-eval e X.env;standAt e.pos;aS1 [v] (truthy v)))(h:W.E e σ λv σ=>CV v σ Q):Ħ X (isTrue e X.env (eval e X.env)) σ Q:=λG s R=>
 isTrue_plain ((S.E e σ _ h).go (c:=⟨G,σ,s⟩) R λa c₁ va h₁ x₁ r₁=>A1.up (QU h₁ x₁.R r₁) x₁) he
theorem Jn{l:Expr}{ops:List bF6}{rs:List Expr}{p:Pos}{ł:Sem Value}{σ:St}{Q:Bool->St->Prop}(h:F8 W l ops rs σ λv σ=>CV v σ Q):Ħ X (isTrue (.Compare l ops rs p) X.env ł) σ Q:=λG s R=>
 AC h λop e1 h=>AC h λr e2 h=>Hs (P:=λops=>ţ X (isTrue (.Compare l ops rs p) X.env ł) (A1 X Ks ⟨G,σ,s⟩ Q) s) e1 (Hs (P:=λrs=>ţ X (isTrue (.Compare l [op] rs p) X.env ł) (A1 X Ks ⟨G,σ,s⟩ Q) s) e2
  (wpAny_isTrue_Compare1 ((S.E l σ _ (A4 h).2).go (c:=⟨G,σ,s⟩) R λa c₁ va h₁ x₁ r₁=>(S.E r _ _ h₁).go x₁.R λb c₂ vb h₂ x₂ r₂=>
   ţ.mono (R8 (aD1 (aA3 (aK2 (by decide:10<=40) _) (aQ4 (aE1 _ _) 40)) F.A.2.2) h₂ x₂.R (x₂.pre.v r₁) r₂) λv s₃ q=>q.casesOn λG₃ σ₃ c y e q=>
    A1.up (QU (c:=⟨G₃,σ₃,s₃⟩) q y.R e) ((x₁.trans x₂).trans y)) (EU (A4 h).1)))
theorem kU(e:Expr)(σ:St)(Q:Bool->St->Prop)(h:NQ W e σ Q):Ħ X (isTrue e X.env (eval e X.env)) σ Q:=
 Expr.casesOn (motive_1:=λe=>NQ W e σ Q->Ħ X (isTrue e X.env (eval e X.env)) σ Q) e (λop vs p h G s R=>wpAny_isTrue_BoolOp (bP S vs h G s R)) (λ_ _ _=>aA8) (λ_ _ _ _=>aA8) (λop x p h G s R=>K4 (A4 h).1▸wpAny_isTrue_Not ((S.B x σ _ (A4 h).2).go (c:=⟨G,σ,s⟩) R λc c₁ vc h₁ x₁ r₁=>.to (b:=!c) x₁ (bO6 not r₁) h₁)) (λ_ _ _ _=>aA8) (λ_ _ _ _=>aA8) (λ_ _ _=>aA8) (λ_ _ _=>aA8) (λ_ _ _ _=>aA8) (λ_ _ _ _=>aA8) (λ_ _ _ _ _=>aA8) (λ_ _ _ _=>aA8) (λ_ _=>aA8) (λ_ _=>aA8) (λ_ _=>aA8) (λ_ _ _ _=>Jn F S) (λ_ _ _ _=>FT F S rfl) (λ_ _ _ _=>aA8) (λ_ _=>aA8) (λ_ _ _=>FT F S rfl) (λ_ _ _=>FT F S rfl) (λ_ _ _=>aA8) (λ_ _=>aA8) (λ_ _=>FT F S rfl) (λ_ _=>aA8) (λ_ _ _=>aA8) (λ_ _ _ _=>aA8) h
theorem OE{es:List Expr}{k:Nat}{p:Pos}{v:AV}{c:Ž}{Q:St->Prop}{u:Value}(h:Dp (Bq es) (PO v es.length c.σ λvs σ=>mT W.A es vs σ Q))(R:ŵ X c)(r:VR X c v u):FZ X c Q (assign (.Tuple es k p) X.env u):=by
 obtain⟨h1,h⟩:=A4 h
 show ţ X _ _ _
 rw[arm_assign_Tuple]
 refine ţ.bind (aK0 ?_)
 unfold unpack
 rw[Da X.env es h1]
 have e1:(es.map λe=>(false,assign e X.env)).findIdx? (·.1)=none:=List.findIdx?_eq_none_iff.mpr λx hx=>(aM8.mp hx).elim λy e=>e.2▸rfl
 rw[e1,aB0,aO2]
 exact ţ.bind (ţ.hold (ţ.mono (Vk F.A.1 F.w.N.toMatC h R r) λvs s₁ q=>q.casesOn λG₁ σ₁ avs x₁ r₁ q₁=>A1.up (i6 S (c:=⟨G₁,σ₁,s₁⟩) q₁ x₁.R r₁) x₁))
theorem bK(t:Expr)(v:AV)(c:Ž)(Q:St->Prop)(h:Nk P sc W t v c.σ Q){u:Value}(R:ŵ X c)(r:VR X c v u):FZ X c Q (assign t X.env u):=
 Expr.casesOn (motive_1:=λt=>Nk P sc W t v c.σ Q->FZ X c Q (assign t X.env u)) t (λ_ _ _=>aA8) (λ_ _ _=>aA8) (λ_ _ _ _=>aA8) (λ_ _ _=>aA8) (λ_ _ _ _=>aA8) (λ_ _ _ _=>aA8) (λ_ _ _=>aA8) (λ_ _ _=>aA8) (λ_ _ _ _=>aA8) (λ_ _ _ _=>aA8) (λ_ _ _ _ _=>aA8) (λ_ _ _ _=>aA8) (λ_ _=>aA8) (λ_ _=>aA8) (λ_ _=>aA8) (λ_ _ _ _=>aA8) (λ_ _ _ _=>aA8) (λ_ _ _ _=>aA8) (λ_ _=>aA8) (λ_ _ _=>aA8) (λo a p h=>arm_assign_Attribute ..▸ţ.bind (ţ.hold ((S.E o c.σ _ h).go R λov c₁ vo h₁ x₁ r₁=>ţ.bind (aK0 (ţ.bind (ţ.hold (ţ.mono (A1.up (Xp F.w.K h₁ x₁.R r₁ (x₁.pre.v r)) x₁) λ_ s₂ h₂=>bJ3 h₂))))))) (λo i p h=>arm_assign_Subscript ..▸ţ.bind (ţ.hold ((S.E o c.σ _ h).go R λov c₁ vo h₁ x₁ r₁=>ţ.bind (ţ.hold ((S.E i c₁.σ _ h₁).go x₁.R λiv c₂ vi h₂ x₂ r₂=>ţ.bind (aK0 (ţ.bind (ţ.hold (ţ.mono (A1.up (d9 h₂ x₂.R (x₂.pre.v r₁) r₂ ((x₁.trans x₂).pre.v r)) (x₁.trans x₂)) λ_ s₃ h₃=>bJ3 h₃))))))))) (λ_ _=>aA8) (λx p h=>wpAny_assign_Name (J3 F (A4 h).1 R r (A4 h).2)) (λ_ _=>aA8) (λes k p h=>OE F S h R r) (λ_ _ _ _=>aA8) h
end
def Mz{P:Pm}{d:Nat}{fN st fM cm fI:aC1}(f:Nat) :∀X sc,Ek X P d fN st fM cm fI sc->IG X (Li P f sc):=
 aT3 (λ_ _ _=>⟨λ_ _ _=>aA8,λ_ _ _=>aA8,λ_ _ _ _=>aA8,λ_ _ _ _ _ _ _ _=>aA8,λ_ _ _ _ _ _ _ _ _=>aA8⟩) (λf H X sc F=>have S:=H X sc F;⟨kZ F S H,kU F S,λt v c Q h _ R r=>bK F S t v c Q h R r,λelt gens cs p u σ Q Q' h=>SX F H h,λĬ vx gens cs p u σ Q Q' h=>N3 F H h⟩) f
def snd{X:Cx}{P:Pm}{d:Nat}{fN st fM cm fI:aC1}{sc:Scope}(F:Ek X P d fN st fM cm fI sc)(f:Nat):IG X (ws P sc f):=Mz f X sc F
inductive Bn where
 | next | brk | cont
 | ret (v:AV)
abbrev ſ:=Bn->St->Prop
abbrev ĥ:=aE7->St->ſ->Prop
def Ac(σ τ:St):Prop:=∀X G s,ŵ X ⟨G,σ,s⟩->∃G',Ŀ G s.heap G' s.heap/\ŵ X ⟨G',τ,s⟩
theorem Ac.refl(σ:St):Ac σ σ:=λ_ G s R=>⟨G,.refl _ _,R⟩
theorem Ac.trans{σ τ υ:St}(a:Ac σ τ)(b:Ac τ υ):Ac σ υ:=λX G s R=>(a X G s R).elim λG' p=>(b X G' s p.2).imp λG'' q=>⟨p.1.trans q.1,q.2⟩
def Rr(e:Expr):Bool:=ix e 8||ix e 9||ix e 10
noncomputable def IQ(sc:Scope):Env:={scope:=sc,locals:=0,globals:=0,cells:=[]}
noncomputable def ans{α:Type}(t:Sem α):Option α:=Sem.casesOn (motive:=λ_=>Option α) t (λa=>some a) (λ_=>none) (λ_=>none) (λ_=>none) (λ_ _=>none) (λ_ _=>none) (λ_ _ _=>none) (λ_ _ _ _=>none) (λ_ _=>none) (λ_ _=>none) (λ_ _=>none) (λ_ _=>none) (λ_=>none) (λ_=>none) (λ_ _ _=>none) (λ_ _ _=>none) (λ_ _ _ _ _=>none) (λ_ _=>none) (λ_ _=>none) (λ_ _=>none) (λ_ _ _ _=>none) (λ_ _ _ _=>none) (λ_=>none) (λ_ _=>none) (λ_=>none) (λ_ _ _ _ _=>none)
def RR{α:Type}{t:Sem α}{a:α}(e:ans t=some a):t=pure a:=Sem.casesOn (motive:=λt=>ans t=some a->t=pure a) t (λ_ e=>bO6 _ (aA1 e)) (λ_=>AA) (λ_=>AA) (λ_=>AA) (λ_ _=>AA) (λ_ _=>AA) (λ_ _ _=>AA) (λ_ _ _ _=>AA) (λ_ _=>AA) (λ_ _=>AA) (λ_ _=>AA) (λ_ _=>AA) (λ_=>AA) (λ_=>AA) (λ_ _ _=>AA) (λ_ _ _=>AA) (λ_ _ _ _ _=>AA) (λ_ _=>AA) (λ_ _=>AA) (λ_ _=>AA) (λ_ _ _ _=>AA) (λ_ _ _ _=>AA) (λ_=>AA) (λ_ _=>AA) (λ_=>AA) (λ_ _ _ _ _=>AA) e
def BG(A:WA)(ts:List Expr):AV->St->(St->Prop)->Prop:=aB5 (λ_ σ Q=>Q σ) (λt _ ih v σ Q=>A t v σ λσ=>ih v σ Q) ts
def Ze(sc:Scope)(xs:List Str):List AV->St->(St->Prop)->Prop:=aB5 (λvs σ Q=>nil vs (Q σ)) (λx _ ih vs σ Q=>Ap vs λv vs=>Dp (Df sc x) (ih vs (σ.put x v) Q)) xs
def Fl(sc:Scope)(W:ŷ)(ts:List Expr)(e:Expr)(line:Nat)(σ:St)(Q:ſ):Prop:=Dp (Bq ts) (Ab (ans (swapsWithSole ts e line (IQ sc))) λb=>aH3 (Ab (ans (aV8 ts e (IQ sc))) λo=>W.E e σ λv σ=>
 aD5 (BG W.A ts v σ λσ=>Q .next σ) (λxs=>PO v xs.length σ λvs σ=>Ze sc xs.reverse vs.reverse σ λσ=>Q .next σ) o) (Dp (ix e 8||ix e 10) (W.E e σ λv σ=>BG W.A ts v σ λσ=>Q .next σ)) b)
def Xy(b:Bool)(σ:St)(K:St->Prop):Prop:=aH3 (K σ) (∃τ,Ac σ τ/\K τ) b
def wL(P:Pm)(S:ĥ)(ss:List aE7):St->ſ->Prop:=aB5 (λσ Q=>Q .next σ) (λs _ ih σ Q=>Xy (P.wk s.pos) σ λτ=>S s τ λfl υ=>Bn.rec (ih υ Q) (Q .brk υ) (Q .cont υ) (λv=>Q (.ret v) υ) fl) ss
def Eh(on:St->Prop)(Q:ſ)(fl:Bn)(σ:St):Prop:=Bn.rec (on σ) (∃τ,Ac σ τ/\Q .next τ) (on σ) (λr=>Q (.ret r) σ) fl
def Cc(items:List AV)(tn:AV->St->ſ->Prop)(els:St->ſ->Prop)(σ:St)(Q:ſ):Prop:=
 ∃I:Nat->St->Prop,(∃τ,Ac σ τ/\I 0 τ)/\(∀k σ v,items[k]?=some v->I k σ->tn v σ (Eh (λσ=>∃τ,Ac σ τ/\I (k+1) τ) Q))/\∀σ,I items.length σ->els σ Q
def Fr(test:St->(Bool->St->Prop)->Prop)(body els:St->ſ->Prop)(σ:St)(Q:ſ):Prop:=
 ∃(I:Nat->St->Prop) (m:Nat),(∃τ,Ac σ τ/\I m τ)/\∀m σ,I m σ->test σ λc σ=>An c (body σ (Eh (λσ=>∃m' τ,m'<m/\Ac σ τ/\I m' τ) Q)) (els σ Q)
def lD(P:Pm)(sc:Scope)(W:ŷ)(t:Expr)(op:bF5)(e:Expr)(σ:St)(Q:ſ):Prop:=Dp (ix t 23&&Am (BD t)&&Df sc (BD t)) (H9 P sc (BD t) σ λa σ=>W.E e σ λb σ=>XV op a b σ λr σ=>Q .next (σ.put (BD t) r))
def Il(x:Nat)(H:List (Nat×AO)):List (Nat×AO):=aB5 [] (λp _ ih=>bif aD0 p.1 x then ih else p::ih) H
def St.hid(σ:St)(x:Nat):St:=⟨σ.ρ,Il x σ.H,σ.n,σ.n⟩
def MS(σ:St)(x:Nat)(o:AO)(τ:St):St:=⟨τ.ρ,Al τ.H x o,τ.n,σ.anc⟩
def FO(x:Nat)(o:AO)(items:List AV)(tn:AV->St->ſ->Prop)(σ:St)(Q:ſ):Prop:=Cc items tn (λσ K=>K .next σ) (σ.hid x) λfl τ=>Bn.rec (Q .next (MS σ x o τ)) False False (λ_=>False) fl
def Yj(i:Expr):Bool:=Dj (AU i).2.1&&Dj (AU i).2.2.1&&ix (AU i).1 20&&(CO (AU i).1).2.1==("keys":Str)&&FA (CO (AU i).1).1&&aD0 (CO (AU i).1).2.2.endLine (AU i).2.2.2.line
def QJ(W:ŷ)(tn:AV->St->ſ->Prop)(i:Expr)(o:List aE7)(σ:St)(Q:ſ):Prop:=Dp (Dj o) (aH3 (Dp (ix i 23) (W.E i σ λv σ=>Ab (CW σ v) λp=>Ab p.2.fs λks=>∀ks':List AB,ks'.Perm ks->FO p.1 (.set ks) (ks'.map .key) tn σ Q))
 (Dp (Yj i) (W.E (CO (AU i).1).1 σ λv σ=>Ab (CW σ v) λp=>Ab p.2.dct λes=>FO p.1 (.dict es) (D3 es) tn σ Q)) (ix i 16))
noncomputable def N2(e:Expr):Expr×Expr:=Expr.casesOn (motive_1:=λ_=>Expr×Expr) e (λ_ _ _=>(e,e)) (λ_ _ _=>(e,e)) (λ_ _ _ _=>(e,e)) (λ_ _ _=>(e,e)) (λ_ _ _ _=>(e,e)) (λ_ _ _ _=>(e,e)) (λ_ _ _=>(e,e)) (λ_ _ _=>(e,e)) (λ_ _ _ _=>(e,e)) (λ_ _ _ _=>(e,e)) (λ_ _ _ _ _=>(e,e)) (λ_ _ _ _=>(e,e)) (λ_ _=>(e,e)) (λ_ _=>(e,e)) (λ_ _=>(e,e)) (λ_ _ _ _=>(e,e)) (λ_ _ _ _=>(e,e)) (λ_ _ _ _=>(e,e)) (λ_ _=>(e,e)) (λ_ _ _=>(e,e)) (λ_ _ _=>(e,e)) (λo i _=>(o,i)) (λ_ _=>(e,e)) (λ_ _=>(e,e)) (λ_ _=>(e,e)) (λ_ _ _=>(e,e)) (λ_ _ _ _=>(e,e))
noncomputable def Fz(es:List (AB×AV))(k:AB):List (AB×AV):=es.filter λp=>decide (p.1≠k)
def eM(W:ŷ)(ts:List Expr)(σ:St)(Q:St->Prop):Prop:=Ab (one ts) λt=>Dp (ix t 21) (W.E (N2 t).1 σ λv σ=>W.E (N2 t).2 σ λk σ=>GT σ v λx es=>Ab (BL k) λk=>(es.lookup k).isSome=true/\Q (σ.set x (.dict (Fz es k))))
def Rh(P:Pm)(sc:Scope)(W:ŷ)(S:ĥ):ĥ:=λst σ Q=>bK8 (motive_2:=λ_=>Prop) st (λ_ _ _ _ _ _ _ _ _ _=>False) (λ_ _ _ _ _ _ _ _ _ _=>False) (λ_ _ _ _ _ _ _ _ _ _ _=>False) (λo _=>aD5 (Q (.ret .none) σ) (λe=>W.E e σ λv σ=>Q (.ret v) σ) o) (λts _=>eM W ts σ λσ=>Q .next σ) (λts e p=>Fl sc W ts e p.line σ Q) (λ_ _ _ _ _ _ _=>False) (λt op e _=>lD P sc W t op e σ Q) (λ_ _ _ _ _=>False) (λt i b o p=>aH3 (Dp (!ix i 7) (Fk P sc W t i σ λitems σ=>Cc items (λv σ K=>W.A t v σ λσ=>wL P S b σ K) (wL P S o) σ Q)) (QJ W (λv σ K=>W.A t v σ λσ=>wL P S b σ K) i o σ Q) (P.lk p)) (λ_ _ _ _ _=>False) (λt b o _=>Fr (W.B t) (wL P S b) (wL P S o) σ Q) (λt b o _=>W.B t σ λc σ=>An c (wL P S b σ Q) (wL P S o σ Q)) (λ_ _ _=>False) (λ_ _ _=>False) (λ_ _ _=>False) (λ_ _ _=>False) (λ_ _ _ _ _=>False) (λ_ _ _ _ _=>False) (λ_ _ _=>False) (λ_ _=>False) (λ_ _ _ _=>False) (λ_ _=>False) (λ_ _=>False) (λe _=>Dp (!Rr e) (W.E e σ λ_ σ=>Q .next σ)) (λ_=>Q .next σ) (λ_=>Q .brk σ) (λ_=>Q .cont σ)
def EI(P:Pm)(sc:Scope)(f:Nat):ĥ:=aT3 (λ_ _ _=>False) (λf S=>Rh P sc (ws P sc f) S) f
def Qc(X:Cx)(c:Ž)(a:Bn)(f:bJ9):Prop:=Bn.rec (f = .next) (f = .brk) (f = .cont) (λa=>∃v,f = .ret v/\VR X c a v) a
inductive Ax(X:Cx)(G:Ű)(h:aF0)(Q:ſ)(f:bJ9)(s':aA7):Prop
 | mk (G':Ű) (σ':St) (af:Bn) (k:Ŀ G h G' s'.heap) (R:ŵ X ⟨G',σ',s'⟩) (r:Qc X ⟨G',σ',s'⟩ af f) (q:Q af σ')
def TS(X:Cx)(t:Sem bJ9)(σ:St)(Q:ſ):Prop:=∀G s,ŵ X ⟨G,σ,s⟩->ţ X t (Ax X G s.heap Q) s
section
variable{X:Cx}{G G':Ű}{h h':aF0}{Q:ſ}{f:bJ9}{s s':aA7}{σ:St}
def Ax.lift(k:Ŀ G h G' h')(p:Ax X G' h' Q f s'):Ax X G h Q f s':=p.casesOn λG₂ σ₂ a k₂ R r q=>⟨G₂,σ₂,a,k.trans k₂,R,r,q⟩
def Ax.up{t:Sem bJ9}(x:ţ X t (Ax X G' h' Q) s)(k:Ŀ G h G' h'):ţ X t (Ax X G h Q) s:=x.mono λ_ _ p=>p.lift k
def Ax.to{c c':Ž}{af:Bn}(x:Cb X c c')(r:Qc X c' af f)(q:Q af c'.σ):Ax X c.G c.s.heap Q f c'.s:=⟨c'.G,c'.σ,af,x.kp,x.R,r,q⟩
def Ax.weak{τ:St}{af:Bn}(k:Ŀ G h G' s'.heap)(R:ŵ X ⟨G',σ,s'⟩)(w:Ac σ τ)(r :∀c,Qc X c af f)(q:Q af τ):Ax X G h Q f s':=(w X G' s' R).elim λG₂ p=>⟨G₂,τ,af,k.trans p.1,p.2,r _,q⟩
@[elab_as_elim] theorem OA{on:St->Prop}{P:bJ9->Prop}{af:Bn}(k:Ŀ G h G' s'.heap)(R:ŵ X ⟨G',σ,s'⟩)(r:Qc X ⟨G',σ,s'⟩ af f)(q:Eh on Q af σ)(h1:on σ->P .next)(h2:on σ->P .cont)(h3:Ax X G h Q .next s'->P .brk)(ō :∀v,Ax X G h Q (.ret v) s'->P (.ret v)):P f:=by
 cases af with
 | next=>exact(show f = .next from r)▸h1 q
 | cont=>exact(show f = .cont from r)▸h2 q
 | brk=>exact(show f = .brk from r)▸h3 (q.elim λτ q=>.weak (af:=.next) k R q.1 (λ_=>rfl) q.2)
 | ret a=>exact r.elim λv r=>r.1▸ō v ⟨G',σ,.ret a,k,R,⟨v,rfl,r.2⟩,q⟩
inductive m6(X:Cx)(G:Ű)(h:aF0)(J:Nat->St->Prop)(m:Nat)(s':aA7):Prop
 | mk (G':Ű) (σ':St) (R:ŵ X ⟨G',σ',s'⟩) (j:J m σ') (k:Ŀ G h G' s'.heap)
def m6.of{J:Nat->St->Prop}{m:Nat}{τ:St}(k:Ŀ G h G' s'.heap)(R:ŵ X ⟨G',σ,s'⟩)(w:Ac σ τ)(j:J m τ):m6 X G h J m s':=(w X G' s' R).elim λG₂ p=>⟨G₂,τ,p.2,j,k.trans p.1⟩
def Te{t:Expr}{body orelse:List aE7}{p:Pos}{test:St->(Bool->St->Prop)->Prop}{bd els:St->ſ->Prop}
  (ht :∀σ K,test σ K->Ħ X (isTrue t X.env (eval t X.env)) σ K) (hb :∀σ K,bd σ K->TS X (execs body X.env) σ K) (he :∀σ K,els σ K->TS X (execs orelse X.env) σ K)
  (h:Fr test bd els σ Q):TS X (exec (.While t body orelse p) X.env) σ Q:=λG s R=>by
 obtain⟨J,m,⟨τ,hw,j0⟩,jt⟩:=h
 refine wpAny_While (codeAny_whileLoop (m6 X G s.heap J) (λm s' hI=>?_) m (.of (.refl _ _) R hw j0))
 cases hI with
 | mk G' σ' R' hJ kk=>
 refine ţ.any (ht σ' _ (jt m σ' hJ) G' s' R') λb s₁ hx=>?_
 cases hx with
 | mk G₁ σ₁ c x₁ e q=>
 cases e
 cases b with
 | false=>exact ţ.any (he σ₁ Q q G₁ s₁ x₁.R) λfl s₂ hp=>hp.lift (kk.trans x₁.kp)
 | true=>
  refine ţ.any (hb σ₁ _ q G₁ s₁ x₁.R) λfl s₂ hp=>?_
  cases hp with
  | mk G₂ σ₂ af k₂ R₂ fr q=>
  have k₀:=(kk.trans x₁.kp).trans k₂
  have next:(∃m' τ,m'<m/\Ac σ₂ τ/\J m' τ)->∃m',m'<m/\m6 X G s.heap J m' s₂:=λq=>q.imp λm' q=>q.elim λτ q=>⟨q.1,.of k₀ R₂ q.2.1 q.2.2⟩
  exact OA k₀ R₂ fr q next next id λ_=>id
inductive w7(X:Cx)(G:Ű)(h:aF0)(J:Nat->St->Prop)(It:Nat->Ű->aF0->Prop)(n m:Nat)(s':aA7):Prop
 | mk (i:Nat) (G':Ű) (σ':St) (hi:i+m=n) (R:ŵ X ⟨G',σ',s'⟩) (j:J i σ') (st:It i G' s'.heap) (k:Ŀ G h G' s'.heap)
def fV(P:bJ9->aA7->Prop)(r:bD7)(s':aA7):Prop:=∃f,r = .ok f/\P f s'
def RC{tg:Expr}{body orelse:List aE7}{tn:AV->St->ſ->Prop}{els:St->ſ->Prop}
  (hturn :∀v c K,tn v c.σ K->∀{u},ŵ X c->VR X c v u->ţ X (assign tg X.env u) (λ_ s₁=>ţ X (execs body X.env) (Ax X c.G c.s.heap K) s₁) c.s)
  (hels :∀σ K,els σ K->TS X (execs orelse X.env) σ K) {G:Ű} {s s₂:aA7} {itv:Value} (hit:CX X tg ⟨G,σ,s⟩ (λitems σ₂=>Cc items tn els σ₂ Q) itv s₂) :
  aM9 (aD9 X.L.prog X.L.w) X.A (.forLoop tg itv body orelse X.env) (fV (Ax X G s.heap Q)) s₂:=by
 cases hit with
 | mk c₁ x₁ I wr items It G₂ e okA self st0 hwr y₁ up₁ hcl=>
 subst e
 obtain⟨J,⟨τ,hw,j0⟩,jt,je⟩:=hcl
 have ok:=okA X.env
 have k₂:=x₁.kp.trans y₁.kp
 have hwr :∀b∈wr,s.heap.objs.size<=b:=λb hb=>aA3 x₁.kp.size (hwr b hb)
 obtain⟨G₃,k₃,R₃⟩:=hw X G₂ s₂ y₁.R
 have stepK :∀{G':Ű} {s' s'':aA7},Ŀ G s.heap G' s'.heap->m8 wr s'.heap s''.heap->Ŀ G s.heap G' s''.heap:=λ{G' s' s''} kk hs=>⟨λa o e q=>hs.1 a o (λhm=>Ce e (hwr a hm)) (kk.keep a o e q),kk.own,kk.mt,aA3 kk.size hs.2,kk.lock⟩
 refine codeAny_forLoop_any (w7 X G s.heap J It items.length) (λm s' hI=>?_) items.length ⟨0,G₃,τ,aF3 _,R₃,j0,ok.frame _ _ _ _ _ st0 k₃,k₂.trans k₃⟩
 cases hI with
 | mk i G' σ' him R' hJ hst kk=>
 cases m with
 | zero=>
  obtain rfl:i=items.length:=him
  refine ţ.any (ok.done ⟨G',σ',s'⟩ R' hst) λr s₃ hr=>?_
  rw[hr.1]
  exact ţ.any (hels σ' Q (je σ' hJ) G' s₃ hr.2.1) λfl s₄ hp=>⟨fl,rfl,hp.lift (stepK kk hr.2.2)⟩
 | succ m=>
  refine ţ.any (ok.item i ⟨G',σ',s'⟩ R' (him▸aM5 (aV3 m)) hst) λr s₃ hr=>?_
  obtain⟨u,rfl,hgo⟩:=hr
  refine ţ.any hgo λ_ s₄ hx=>?_
  cases hx with
  | mk av hav hvr R₄ st₄ hstp=>
  have k₄:=stepK kk hstp
  refine ţ.any (hturn av ⟨G',σ',s₄⟩ _ (jt i σ' av hav hJ) R₄ hvr) λ_ s₅ hb=>ţ.any hb λfl s₆ hp=>?_
  cases hp with
  | mk G₆ σ₆ af k₆ R₆ fr q=>
  have next:(∃τ,Ac σ₆ τ/\J (i+1) τ)->∃m',m'<m+1/\w7 X G s.heap J It items.length m' s₆:=λq=>q.elim λτ q=>(q.1 X G₆ s₆ R₆).elim λG₇ p=>
   have k67:=k₆.trans p.1
   ⟨m,aC2 m,i+1,G₇,τ,(aW4 i 1 m).trans him,p.2,q.2,ok.frame _ _ _ _ _ st₄ k67,k₄.trans k67⟩
  exact OA (k₄.trans k₆) R₆ fr q next next (λq=>⟨_,rfl,q⟩) λ_ q=>⟨_,rfl,q⟩
def j9{tg it:Expr}{body orelse:List aE7}{p:Pos}{tn:AV->St->ſ->Prop}{els:St->ſ->Prop}(hset :∀x,foldedSetIterable it X.env x=pure x)
  (hturn :∀v c K,tn v c.σ K->∀{u},ŵ X c->VR X c v u->ţ X (assign tg X.env u) (λ_ s₁=>ţ X (execs body X.env) (Ax X c.G c.s.heap K) s₁) c.s)
  (hels :∀σ K,els σ K->TS X (execs orelse X.env) σ K) {G:Ű} {s:aA7}
  (h:ţ X (eval it X.env) (λv s₁=>ţ X (aQ6 v) (λiv s₂=>CX X tg ⟨G,σ,s⟩ (λitems σ₂=>Cc items tn els σ₂ Q) iv s₂) s₁) s):ţ X (exec (.For tg it body orelse p) X.env) (Ax X G s.heap Q) s:=
 bN7 (h.mono λv s₁ h₁=>ţ.any h₁ λitv s₂ hit=>aK6 (RC hturn hels hit) λr s' z=>z.elim λf z=>z.1▸z.2) hset
end
def A2.rev{L:CU}{G:Ű}{h:aF0}{n:Nat}{as:List AV} :∀{vs:List Value},A2 L G h n as vs->A2 L G h n as.reverse vs.reverse:=
 aB5 (motive:=λas=>∀{vs:List Value},A2 L G h n as vs->A2 L G h n as.reverse vs.reverse) (λ{vs} q=>(show vs=[]from q)▸rfl) (λa r ih vs q=>by
  obtain⟨v,u,rfl,q1,Ľ⟩:=q
  rw[aT7,aT7]
  exact(ih Ľ).append ⟨v,[],rfl,q1,rfl⟩) as
def Kh{ts:List Expr}{e:Expr}{env env':Env}(h:env.scope=env'.scope):aV8 ts e env=aV8 ts e env':=by
 unfold aV8 Env.blockKind Env.kindOf
 rw[h]
def OO{ts:List Expr}{e:Expr}{line:Nat}{env env':Env}(h:env.scope=env'.scope):swapsWithSole ts e line env=swapsWithSole ts e line env':=by
 cases ts with
 | nil=>rfl
 | cons t r=>
  cases r with
  | nil=>
   show swapsWith e (some t) line env=swapsWith e (some t) line env'
   unfold swapsWith Env.blockKind Env.kindOf
   rw[h]
  | cons=>rfl
section
variable{X:Cx}{P:Pm}{d:Nat}{fN st fM cm fI:aC1}{sc:Scope}{W:ŷ}(F:Ek X P d fN st fM cm fI sc)(S:IG X W)
include F
theorem lL{xs:List Str} :∀{vs:List AV} {c:Ž} {Q:St->Prop} {us:List Value},Ze sc xs vs c.σ Q->ŵ X c->Ŧ X c vs us->FZ X c Q (aO3 (xs.map λx=>bindName X.env x) us):=
 aB5 (motive:=λxs=>∀{vs:List AV} {c:Ž} {Q:St->Prop} {us:List Value},Ze sc xs vs c.σ Q->ŵ X c->Ŧ X c vs us->FZ X c Q (aO3 (xs.map λx=>bindName X.env x) us)) (λ{vs c Q us} h R q=>BU (P:=λus=>FZ X c Q (aO3 [] us)) h q λh=>ţ.pure (A1.here (b:=()) R trivial h))
  (λt ts ih vs c Q us h R q=>AX (P:=λus=>FZ X c Q (aO3 ((t::ts).map λx=>bindName X.env x) us)) h q λa r v vr r1 r2 h=>by
   show ţ X (do aS1 vr (bindName X.env t v);aO3 (ts.map λx=>bindName X.env x) vr) _ _
   exact ţ.bind (ţ.hold (wpAny_bindName (ţ.mono (J3 F (Q:=λσ=>Ze sc ts r σ Q) (A4 h).1 R r1 (A4 h).2) λ_ s₁ q=>q.casesOn λG₁ σ₁ _ x₁ _ q₁=>A1.up (ih (c:=⟨G₁,σ₁,s₁⟩) q₁ x₁.R (x₁.pre.va r2)) x₁)))) xs
include S
theorem RT{ts:List Expr} :∀{v:AV} {c:Ž} {Q:St->Prop} {u:Value},BG W.A ts v c.σ Q->ŵ X c->VR X c v u->FZ X c Q (assignAll u (ts.map λt=>assign t X.env)):=
 aB5 (motive:=λts=>∀{v:AV} {c:Ž} {Q:St->Prop} {u:Value},BG W.A ts v c.σ Q->ŵ X c->VR X c v u->FZ X c Q (assignAll u (ts.map λt=>assign t X.env))) (λh R r=>ţ.pure (A1.here (b:=()) R trivial h))
  (λt ts ih v c Q u h R r=>by
   have one:=S.A t v c _ h R r
   cases ts with
   | nil=>exact one
   | cons t' ts=>
    show ţ X (do aS1 [u] (assign t X.env u);assignAll u ((t'::ts).map λt=>assign t X.env)) _ _
    exact ţ.bind (ţ.hold (ţ.mono one λ_ s₁ q=>q.casesOn λG₁ σ₁ _ x₁ _ q₁=>A1.up (ih (c:=⟨G₁,σ₁,s₁⟩) q₁ x₁.R (x₁.pre.v r)) x₁))) ts
theorem Iq{ts:List Expr}{e:Expr}{p:Pos}{σ:St}{Q:ſ}(h:Fl sc W ts e p.line σ Q):TS X (exec (.Assign ts e p) X.env) σ Q:=λG s R=>by
 obtain⟨h2,h⟩:=A4 h
 refine AC h λb eb h=>?_
 rw[exec_Assign_arm,OO (env':=IQ sc) F.hsc,RR eb,Da X.env ts h2,aO2,Kh (env':=IQ sc) F.hsc]
 refine ţ.bind (aK0 (ţ.bind (ţ.pure ?_)))
 cases b with
 | true=>
  obtain⟨h1,h⟩:=A4 h
  rw[bO7 rfl]
  refine(bC5.mp h1).elim (λh1=>?_) λh1=>?_
  ·refine Expr.ListComp.elim (motive_1:=λe=>W.E e σ (λv σ=>BG W.A ts v σ λσ=>Q .next σ)->ţ X (do bB7 e X.env λv=>assignAll v (ts.map ((λx=>x.2)∘λe=>(false,assign e X.env)));pure bJ9.next) (Ax X G s.heap Q) s) e (aB4 h1) (λelt gens cs p h=>?_) h
   exact ţ.bind (ţ.mono (S.U elt gens cs p _ σ _ (λσ=>Q .next σ) h (λc a v R r q=>RT F S q R r) G s R) λ_ s₂ q=>q.casesOn λG₂ σ₂ _ x₂ _ q₂=>ţ.pure (.to (c':=⟨G₂,σ₂,s₂⟩) (af:=.next) x₂ rfl q₂))
  ·refine Expr.DictComp.elim (motive_1:=λe=>W.E e σ (λv σ=>BG W.A ts v σ λσ=>Q .next σ)->ţ X (do bB7 e X.env λv=>assignAll v (ts.map ((λx=>x.2)∘λe=>(false,assign e X.env)));pure bJ9.next) (Ax X G s.heap Q) s) e (aB4 h1) (λĬ vx gens cs p h=>?_) h
   exact ţ.bind (ţ.mono (S.V Ĭ vx gens cs p _ σ _ (λσ=>Q .next σ) h (λc a v R r q=>RT F S q R r) G s R) λ_ s₂ q=>q.casesOn λG₂ σ₂ _ x₂ _ q₂=>ţ.pure (.to (c':=⟨G₂,σ₂,s₂⟩) (af:=.next) x₂ rfl q₂))
 | false=>
  rw[bO8 (by decide)]
  refine AC h λo eo h=>?_
  rw[RR eo]
  refine ţ.bind ((S.E e σ _ h).go (c:=⟨G,σ,s⟩) R λv c₁ vv h₁ x₁ r₁=>ţ.bind (ţ.pure ?_))
  cases o with
  | none=>exact ţ.bind (ţ.mono (RT F S h₁ x₁.R r₁) λ_ s₂ q=>q.casesOn λG₂ σ₂ _ x₂ _ q₂=>ţ.pure (.to (c':=⟨G₂,σ₂,s₂⟩) (af:=.next) (x₁.trans x₂) rfl q₂))
  | some xs=>
   refine ţ.bind (bD6 (ţ.bind (ţ.mono (Vk F.A.1 F.w.N.toMatC h₁ x₁.R r₁) λus s₂ q=>q.casesOn λG₂ σ₂ vs x₂ r₂ q₂=>ţ.bind (ţ.mono (lL F (c:=⟨G₂,σ₂,s₂⟩) q₂ x₂.R r₂.rev) λ_ s₃ q=>q.casesOn λG₃ σ₃ _ x₃ _ q₃=>ţ.pure (.to (c':=⟨G₃,σ₃,s₃⟩) (af:=.next) (x₁.trans (x₂.trans x₃)) rfl q₃)))))
end
section
variable{X:Cx}{P:Pm}{d:Nat}{fN st fM cm fI:aC1}{sc:Scope}{W:ŷ}(F:Ek X P d fN st fM cm fI sc)(S:IG X W)
include F S
theorem We{t:Expr}{op:bF5}{e:Expr}{p:Pos}{σ:St}{Q:ſ}(h:lD P sc W t op e σ Q):TS X (exec (.AugAssign t op e p) X.env) σ Q:=λG s R=>by
 obtain⟨hc,h⟩:=A4 h
 obtain⟨hc,h3⟩:=AL hc
 obtain⟨h1,h2⟩:=AL hc
 refine Expr.Name.elim (motive_1:=λt=>Am (BD t)=true->Df sc (BD t)=true->H9 P sc (BD t) σ (λa σ=>W.E e σ λb σ=>XV op a b σ λr σ=>Q .next (σ.put (BD t) r))->ţ X (exec (.AugAssign t op e p) X.env) (Ax X G s.heap Q) s) t (aB4 h1) (λx q h2 h3 h=>?_) h2 h3 h
 exact wpAny_AugAssign_Name ((Ic F h2 h).go (c:=⟨G,σ,s⟩) R λa c₁ va h₁ x₁ r₁=>(S.E e _ _ h₁).go x₁.R λb c₂ vb h₂ x₂ r₂=>ţ.mono (i9 h₂ x₂.R (x₂.pre.v r₁) r₂) λv s₃ q=>q.casesOn λG₃ σ₃ r x₃ r₃ q₃=>
  ţ.mono (J3 F (Q:=λσ=>Q .next σ) (c:=⟨G₃,σ₃,s₃⟩) h3 x₃.R r₃ q₃) λ_ s₄ q=>q.casesOn λG₄ σ₄ _ x₄ _ q₄=>.to (c':=⟨G₄,σ₄,s₄⟩) (af:=.next) (x₁.trans (x₂.trans (x₃.trans x₄))) rfl q₄)
end
def IB(X:Cx)(S:ĥ):Prop:=∀st σ Q,S st σ Q->TS X (exec st X.env) σ Q
def Ju{X:Cx}{P:Pm}{S:ĥ}(H:IB X S)(ss:List aE7) :∀{σ:St} {Q:ſ},wL P S ss σ Q->TS X (execs ss X.env) σ Q:=
 aB5 (motive:=λss=>∀{σ:St} {Q:ſ},wL P S ss σ Q->TS X (execs ss X.env) σ Q) (λ{σ Q} h G s R=>aA4 (.to (c':=⟨G,σ,s⟩) (af:=.next) (.refl R) rfl h)) (λst r ih σ Q h G s R=>by
  have go :∀{τ:St} {G':Ű},Ŀ G s.heap G' s.heap->ŵ X ⟨G',τ,s⟩->S st τ (λfl υ=>Bn.rec (wL P S r υ Q) (Q .brk υ) (Q .cont υ) (λv=>Q (.ret v) υ) fl)->ţ X (execs (st::r) X.env) (Ax X G s.heap Q) s:=λ{τ G'} k R h=>by
   refine wpAny_execs_cons (ţ.any (H st τ _ h G' s R) λfl s₁ q=>?_)
   cases q with
   | mk G₁ σ₁ af k₁ R₁ fr q=>
   have k₁:=k.trans k₁
   cases af with
   | next=>exact(show fl = .next from fr)▸Ax.up (ih q G₁ s₁ R₁) k₁
   | brk=>exact(show fl = .brk from fr)▸⟨G₁,σ₁,.brk,k₁,R₁,rfl,q⟩
   | cont=>exact(show fl = .cont from fr)▸⟨G₁,σ₁,.cont,k₁,R₁,rfl,q⟩
   | ret a=>exact fr.elim λv r=>r.1▸⟨G₁,σ₁,.ret a,k₁,R₁,⟨v,rfl,r.2⟩,q⟩
  have h:Xy (P.wk st.pos) σ λτ=>S st τ (λfl υ=>Bn.rec (wL P S r υ Q) (Q .brk υ) (Q .cont υ) (λv=>Q (.ret v) υ) fl):=h
  unfold Xy at h
  cases hw:P.wk st.pos with
  | false=>rw[hw]at h;exact go (.refl _ _) R h
  | true=>rw[hw]at h;exact h.elim λτ h=>(h.1 X G s R).elim λG' q=>go q.1 q.2 h.2) ss
end Mine
end
namespace Mine
@[elab_as_elim] theorem Aj{α:Sort u}{b:α}{m:α->Prop}{a:α}(h:a=b)(q:m b):m a:=h▸q
end Mine
section
open PySem PySem.W PyProof.Rows PySem.Spec PySem.Calls
namespace Mine
def Br:bO5 "set_iterator" "__next__" "set_iterator.__next__":=
 .of (owner:="set_iterator") (n:="__next__") (by rw[aH0];refine Aj aE9 ?_;rfl') (by decide +kernel) (by decide +kernel) (by decide +kernel)
  (by first | exact .inl (by decide +kernel) | exact .inr (by decide +kernel)) (by rw[aL2];rfl')
def FQ:bO5 "set_iterator" "__iter__" "set_iterator.__iter__":=
 .of (owner:="set_iterator") (n:="__iter__") (by rw[aH0];refine Aj aE9 ?_;rfl') (by decide +kernel) (by decide +kernel) (by decide +kernel)
  (by first | exact .inl (by decide +kernel) | exact .inr (by decide +kernel)) (by rw[aL2];rfl')
def Ep:bB6 table "set_iterator.__next__" = some aE0.«set_iterator.__next__»:=aV1 (by rfl')
def K2:Manifest.owners.lookup (String.ofList ['r','o','t','a','r','e','t','i','_','t','e','s'].reverse)=some Manifest.sig_set_iterator:=by rfl'
def F9(a:Value):aW7 "set_iterator.__next__" ⟨[a],[]⟩:=by
 unfold aW7;refine Aj (bE7 (id:="set_iterator.__next__") (n:=['_','_','t','x','e','n','_','_']) (o:=['r','o','t','a','r','e','t','i','_','t','e','s']) (by rfl') K2) ?_;rfl'
def HU:bB6 table "set.__iter__" = some aE0.«frozenset.__iter__»:=bI0 (id':="frozenset.__iter__") (by rfl') rfl (by decide +kernel) (by rfl')
theorem FK{α:Type} :∀(l:List α) (i:Nat) (h:i<l.length),(l[i]::l.eraseIdx i).Perm l
 | x::xs,0,h=>.refl _
 | x::xs,i+1,h=>have h':i<xs.length:=aS2 h;(bI7.swap x xs[i] (xs.eraseIdx i)).trans (.cons x (FK xs i h'))
theorem N9{α:Type}(f:Nat->Nat) :∀(n k:Nat) (l:List α) (out:Array α),l.length=n->((bK9 f n k l out).toList).Perm (out.toList++l)
 | 0,k,l,out,h=>by
  obtain rfl:=aF5 h
  unfold bK9
  rw[aF8]
 | n+1,k,l,out,h=>by
  unfold bK9
  have hl:f k%l.length<l.length:=Nat.mod_lt _ (by exists 2,0x81181a028,h)
  refine Aj (aA6 hl) ?_
  dsimp only
  refine(N9 f n (k+1) _ _ (by refine Aj (List.length_eraseIdx_of_lt hl) ?_;refine Aj h ?_;rfl)).trans ?_
  refine Aj Array.toList_push ?_;rw[aL8]
  refine aZ9 _ ?_
  exact FK l _ hl
section
variable{prog:aG3}{w:aB9}{A:aH7}{E:Value->aA7->Prop}{s:aA7}{a I:aC1}{o:Obj}{es:Array (Int×Value)}{ep:Nat}{t:aI1}
def PR{src:Source}{n:Nat}{M:bE3}{Q:Nat->aA7->Prop}(hn:n≠0)(h :∀i d,i<n->Q i {s with drawn:=d}):aD2 M A (choose src n) Q E s:=λΓ p hΓ=>by
 unfold choose
 rw[Sem.wp_choose]
 exact⟨hn,h _ _ (Nat.mod_lt _ (aI6 hn))⟩
theorem Na{M:bE3}{α:Type} :∀(n:Nat) (l:List α) {s:aA7} {Q:List α->aA7->Prop},l.length=n->(∀l' d,l'.Perm l->Q l' {s with drawn:=d})->aD2 M A (drawOrder n l) Q E s
 | 0,l,s,Q,e,h=>by
  obtain rfl:=aF5 e
  exact aA4 (h [] s.drawn (.refl _))
 | n+1,[],s,Q,e,h=>by cases e
 | n+1,x::xs,s,Q,e,h=>by
  unfold drawOrder
  refine aA2 (PR (λz=>nomatch z) λi d hi=>?_)
  refine Aj (aA6 hi) ?_
  refine aA2 (Na n _ (by refine Aj (List.length_eraseIdx_of_lt hi) ?_;refine Aj e ?_;rfl) λl' d' p=>aA4 ?_)
  exact h _ d' ((bI7.cons _ p).trans (FK _ i hi))
noncomputable abbrev SJ(w:aB9):Bool:=w.params.followText "set-order"
def EC{Q:Bool->aA7->Prop}(h:Q (SJ w) s):aD2 (aD9 prog w) A aU5 Q E s:=by
 unfold aU5
 exact aA2 (aP3 (aA4 h))
inductive EJ(w:aB9)(h:aF0)(I a:aC1)(es:Array (Int×Value))(ep:Nat)(t:aI1)(ord:List (Int×Value))(i:Nat)(first:Value):Prop
 | text (ht:SJ w=true) (hf:first = .int 0 0) (ho:ord=(pickOrder (w.params.setOrder a ep) es).toList)
 | plain (ht:SJ w=false) (hp:(!t.plain&&decide (es.size>1))=false) (slot:Nat) (hf:first = .int slot 0) (ho:ord=es.toList) (hb:X6 t.place slot i)
 | drawn (ht:SJ w=false) (hp:(!t.plain&&decide (es.size>1))=true) (tup:aC1) (ps:List Nat) (n:Nat) (hf:first = .ref tup) (hne:tup≠I) (hg:h.get? tup=some (Ao (ps.map λp:Nat=>.int (p:Int) 0) n)) (hq:ps.Perm (aC8 es.size)) (ho:ord=ps.filterMap (es[·]?))
noncomputable def HS(first:Value)(i:Nat)(a:aC1)(n ep:Nat):Obj:={cls:=.type "set_iterator",data:=.fields #[first,.int i 0,.ref a,.int n 0,.int ep 0]}
def EJ.perm{h:aF0}{ord:List (Int×Value)}{i:Nat}{first:Value}(m:EJ w h I a es ep t ord i first):ord.Perm es.toList:=by
 cases m with
 | text ht hf ho=>subst ho;exact(N9 _ _ 0 es.toList #[] (by refine Aj aH4 ?_;rfl)).trans (by simp)
 | plain ht hp slot hf ho hb=>exact ho▸.refl _
 | drawn ht hp tup ps n hf hne hg hq ho=>
  subst ho
  refine(hq.filterMap _).trans ?_
  rw[filterMap_getElem?_range]
def EJ.keep{h h':aF0}{ord:List (Int×Value)}{i:Nat}{first:Value}(m:EJ w h I a es ep t ord i first)(hk :∀b o,b≠I->h.get? b=some o->h'.get? b=some o):EJ w h' I a es ep t ord i first:=by
 cases m with
 | text ht hf ho=>exact .text ht hf ho
 | plain ht hp slot hf ho hb=>exact .plain ht hp slot hf ho hb
 | drawn ht hp tup ps n hf hne hg hq ho=>exact .drawn ht hp tup ps n hf hne (hk _ _ hne hg) hq ho
structure Gp(w:aB9)(h:aF0)(a:aC1)(es:Array (Int×Value))(ep:Nat)(t:aI1):Prop where
 ex :∃o,h.get? a=some o/\o.ExactSet/\o.data = .set es ep t
 fit:t.fits es.size=true
 tab:TA w t
 small:es.size<scanBound
def CG{Q:Array (Int×Value)×Nat×aI1->aA7->Prop}(H:Gp w s.heap a es ep t)(h:Q (es,ep,t) s):aD2 (aD9 prog w) A (bB8 a) Q E s:=H.ex.elim λo q=>wpAny_setState_of q.1 q.2.2 H.fit h
def ET{Q:Array (Int×Value)->aA7->Prop}(H:Gp w s.heap a es ep t)(h:Q es s):aD2 (aD9 prog w) A (setEntries a) Q E s:=H.ex.elim λo q=>wpAny_setEntries_of q.1 q.2.2 H.fit h
def OP{Q:Nat->aA7->Prop}(H:Gp w s.heap a es ep t)(h:Q ep s):aD2 (aD9 prog w) A (setEpoch a) Q E s:=H.ex.elim λo q=>wpAny_setEpoch_of q.1 q.2.2 H.fit h
def Gp.keep{h h':aF0}(H:Gp w h a es ep t)(hk :∀o,h.get? a=some o->h'.get? a=some o):Gp w h' a es ep t:=⟨H.ex.imp λo q=>⟨hk o q.1,q.2⟩,H.fit,H.tab,H.small⟩
def Qy{Q:Value->aA7->Prop}(H:Gp w s.heap a es ep t)(h :∀h' d I ord first,(∀b o,s.heap.get? b=some o->h'.get? b=some o)->s.heap.objs.size<=I->I+1=h'.objs.size->h'.get? I=some (HS first 0 a es.size ep)->EJ w h' I a es ep t ord 0 first->(∀tup,first = .ref tup->s.heap.objs.size<=tup/\tup<I)->Q (.ref I) {s with heap:=h',drawn:=d}) :
  aD2 (aD9 prog w) A (aQ6 (.ref a)) Q E s:=by
 obtain⟨o,ho,hex,hd⟩:=H.ex
 have hT:s.TypeIs (.ref a) "set":=⟨o,ho,hex.1⟩
 refine bE5 hT F.slot_set_iter (aG7 F.slot_set_iter hT HU ?_ (F.args_set_iter_1 _))
 unfold aE0.«frozenset.__iter__»
 refine aA2 (m:=aE0.Frozenset.slot0 _ _) (aA4 ?_)
 refine aA2 (m:=aE0.Frozenset.sizeOf a) ?_
 unfold aE0.Frozenset.sizeOf
 refine aA2 (m:=setEntries a) (ET H (aA4 ?_))
 refine aA2 (m:=setDrawn a) ?_
 unfold setDrawn
 refine aA2 (m:=bB8 a) (CG H ?_)
 refine aA2 (m:=aU5) (EC (aA4 ?_))
 have fin :∀{s':aA7} {first:Value} {ord:List (Int×Value)},(∀b o,s.heap.get? b=some o->s'.heap.get? b=some o)->s.heap.objs.size<=s'.heap.objs.size->s'.gens=s.gens->s'.toks=s.toks->s'.os=s.os->(∀h',(∀b o,s'.heap.get? b=some o->h'.get? b=some o)->EJ w h' s'.heap.objs.size a es ep t ord 0 first)->(∀tup,first = .ref tup->s.heap.objs.size<=tup/\tup<s'.heap.objs.size)->
   aD2 (aD9 prog w) A.in1 (do
    let e<-setEpoch a
    let v<-newFields "set_iterator" [first,bA8 0,.ref a,bA8 es.size,bA8 e]
    ret v) (λfin s'=>∃v,fin = .done (.ret v)/\∃T' r,s'.TypeIs v T'/\aI2 (.type T') (aA0 "__next__")=pure (some r)/\Q v s') E s':=λ{s' first ord} ľ k2 e1 e2 e3 hm ht=>by
  refine aA2 (m:=setEpoch a) (OP (H.keep (ľ a)) (aA2 (aH8 ?_ (by size_fits))))
  refine aA4 ⟨_,rfl,"set_iterator",_,⟨_,aC4 _ rfl,rfl⟩,Br.lookup,?_⟩
  have:=h (s'.heap.push (HS first 0 a es.size ep)) s'.drawn s'.heap.objs.size ord first (λb o e=>aB1 _ (ľ b o e)) k2 (by rw[aE3]) (aC4 _ rfl) (hm _ λb o e=>aB1 _ e) ht
  obtain⟨h1,g1,d1,t1,o1⟩:=s'
  dsimp only at e1 e2 e3 this ⊢
  subst e1;subst e2;subst e3
  exact this
 have z0:X6 t.place 0 0:=⟨aC7 _,λi x h=>bO9 h (aE6 i),λi x _ _=>aC7 x⟩
 cases hb:SJ w with
 | true=>exact aA2 (m:=pure (bA8 0)) (aA4 (fin (s':=s) (first:=.int 0 0) (λ_ _ e=>e) (aA9 _) rfl rfl rfl (λh' _=>.text hb rfl rfl) λtup e=>nomatch e))
 | false=>
  cases hd2:(!t.plain&&decide (es.size>1))with
  | false=>
   change aD2 _ _ (if(!false&&(!t.plain&&decide (es.size>1)))=true then _ else _) _ _ _
   refine Aj hd2 ?_
   exact aA2 (m:=pure (bA8 0)) (aA4 (fin (s':=s) (first:=.int 0 0) (λ_ _ e=>e) (aA9 _) rfl rfl rfl (λh' _=>.plain hb hd2 0 rfl rfl z0) λtup e=>nomatch e))
  | true=>
   change aD2 _ _ (if(!false&&(!t.plain&&decide (es.size>1)))=true then _ else _) _ _ _
   refine Aj hd2 ?_
   refine aA2 (m:=drawOrder es.size (aC8 es.size)) (Na _ _ aG6 λps d hp=>?_)
   have hl:ps.length<=bB5:=by refine Aj hp.length_eq ?_;refine Aj aG6 ?_;exact fits_of_scanBound H.small
   refine aA2 (wpAny_newTuple ?_ (by rw[aB0];exact hl))
   refine fin (s':={s with heap:=s.heap.push (Ao (ps.map λp:Nat=>.int (p:Int) 0) 0),drawn:=d}) (first:=.ref s.heap.objs.size) (ord:=ps.filterMap (es[·]?)) (λb o e=>aB1 _ e) (by show _<=(s.heap.push _).objs.size;rw[aE3];exact aK1 _) rfl rfl rfl (λh' k=>.drawn hb hd2 _ ps 0 rfl ?_ (k _ _ (aC4 _ rfl)) hp rfl) λtup e=>?_
   ·show s.heap.objs.size≠(s.heap.push _).objs.size
    rw[aE3];exact aE5 (aC2 _)
   ·cases e
    refine⟨aA9 _,?_⟩
    show _<(s.heap.push _).objs.size
    rw[aE3];exact aC2 _
def SN{h:aF0}{o₁ o₂:Obj}{b:aC1}(e1:h.get? b=some o₁)(e2:h.get? b=some o₂):o₁=o₂:=aA1 (e1.symm.trans e2)
def J2{h:aF0}{vs:Array Value}(j:Nat)(x:Value)(e:h.get? I=some {cls:=.type "set_iterator",data:=.fields vs}):(h.update I (bF0 (·.setIfInBounds j x))).get? I=some {cls:=.type "set_iterator",data:=.fields (vs.setIfInBounds j x)}:=
 aI7 _ e rfl
def wG(prog:aG3)(w:aB9)(A:aH7)(Q:Option Value->aA7->Prop)(E:Value->aA7->Prop)(x:Except Value (Option Value))(s':aA7):Prop:=aD2 (aD9 prog w) A (match x with
  | .ok (some v)=>pure (some v)
  | .ok none=>unsupported "iter:the-iterator's-class-has-lost-its-__next__-amid-the-walk"
  | .error e=>do if<-aW6 e (.type "StopIteration")then pure none else throw e) Q E s'
def zE(prog:aG3)(w:aB9)(A:aH7)(Q:Option Value->aA7->Prop)(E:Value->aA7->Prop)(fin:Fin)(s':aA7):Prop:=∃r,fin = .done (.ret r)/\wG prog w A Q E (.ok (some r)) s'
def UL{Q:Option Value->aA7->Prop}{ord:List (Int×Value)}{i:Nat}{first:Value}{e:Int×Value}(hI:s.heap.get? I=some (HS first i a es.size ep))(m:EJ w s.heap I a es ep t ord i first)(H:Gp w s.heap a es ep t)(hx:ord[i]?=some e)
  (h :∀h' first',h'.get? I=some (HS first' (i+1) a es.size ep)->EJ w h' I a es ep t ord (i+1) first'->(∀tup,first' = .ref tup->first = .ref tup)->aF7 I s.heap h'->Q (some e.2) {s with heap:=h'}):aD2 (aD9 prog w) A (aT1 (.ref I)) Q E s:=by
 have hT:s.TypeIs (.ref I) "set_iterator":=⟨_,hI,rfl⟩
 unfold aT1
 refine aA2 (aV7 (aJ0 (name:=aA0 "__next__") hT Br (aG7 Br hT Ep ?_ (F9 _))))
 unfold aE0.«set_iterator.__next__»
 refine aA2 (m:=slotArgs _ _ _) (aA4 ?_)
 refine aA2 (m:=fieldsOf _) (wpAny_fieldsOf hI rfl ?_)
 refine aA2 (m:=setEntries a) (ET H ?_)
 show aD2 _ _ (if((es.size:Int) != (es.size:Int))=true then _ else _) _ _ _
 refine Aj (bO8 (by simp)) ?_
 have two :∀{x:Value} {nx:Value},EJ w ((s.heap.update I (bF0 (·.setIfInBounds 0 nx))).update I (bF0 (·.setIfInBounds 1 (bA8 ((i:Int)+1))))) I a es ep t ord (i+1) nx->(∀tup,nx = .ref tup->first = .ref tup)->aD2 (aD9 prog w) A.in1 (do
    setField (.ref I) 0 nx
    setField (.ref I) 1 (bA8 ((i:Int)+1))
    ret e.2) (zE prog w A Q E) (λe s'=>wG prog w A Q E (.error e) s') s:=λ{x nx} q1 Ľ=>by
  have g1:=J2 0 nx hI
  refine aA2 (aL9 hI rfl (by simp) ?_)
  refine aA2 (aL9 (s:={s with heap:=_}) g1 rfl (by simp) ?_)
  exact aA4 ⟨_,rfl,aA4 (h _ nx (J2 1 _ g1) q1 Ľ ((aH5 ..).trans (aH5 ..)))⟩
 cases m with
 | text ht hf ho=>
  subst hf
  refine aA2 (m:=setNext _ _ _ _) ?_
  unfold setNext
  refine aA2 (m:=bB8 a) (CG H ?_)
  refine aA2 (m:=aU5) (EC ?_)
  refine Aj ht ?_
  show aD2 _ _ (if(ep != (ep:Int).toNat)=true then _ else _) _ _ _
  refine Aj (bO8 (by simp)) ?_
  refine aA2 (m:=setWalk a) ?_
  unfold setWalk
  refine aA2 (m:=bB8 a) (CG H ?_)
  refine aA2 (m:=aU5) (EC ?_)
  refine Aj ht ?_
  refine aA2 (m:=ask) (aP3 (aA4 (aA4 ?_)))
  have hx':(pickOrder (w.params.setOrder a ep) es)[(i:Int).toNat]?=some e:=by
   rw[aH9];refine Aj (aK3).symm ?_;refine Aj ho.symm ?_;exact hx
  show aD2 _ _ (match((pickOrder (w.params.setOrder a ep) es)[(i:Int).toNat]?).map λe=>(e.2,(0:Int).toNat)with | some (x,next)=>_ | none=>_) _ _ _
  refine Aj hx' ?_
  exact two (x:=e.2) (.text ht rfl ho) λtup z=>nomatch z
 | plain ht hp slot hf ho hb=>
  subst hf;subst ho
  have hz:t.place.size=es.size:=by
   have:=H.fit
   unfold aI1.fits at this
   exact aF2 (aE8.mp this).1
  have hi:i<es.size:=by refine Aj aH4.symm ?_;exact(aA5.mp hx).1
  have hpl:t.place[i]?=some (t.place[i]'(hz.symm▸hi)):=aJ5 _
  generalize t.place[i]'(hz.symm▸hi)=j at hpl
  refine aA2 (m:=setNext _ _ _ _) ?_
  unfold setNext
  refine aA2 (m:=bB8 a) (CG H ?_)
  refine aA2 (m:=aU5) (EC ?_)
  refine Aj ht ?_
  show aD2 _ _ (if(!t.plain&&decide (es.size>1))=true then _ else _) _ _ _
  refine Aj hp ?_
  show aD2 _ _ ((if(!t.led && !es.isEmpty)=true then _ else _) >>= _) _ _ _
  refine Aj (show t.led=true from H.tab.2.trans (bO6 not ht)) ?_
  refine aA2 (aA4 ?_)
  have hbel:aG1 t.place (slot:Int).toNat=i:=by rw[aH9];exact(Hp H.tab.1 slot).one hb
  show aD2 _ _ (pure (match es[aG1 t.place (slot:Int).toNat]?,t.place[aG1 t.place (slot:Int).toNat]? with | some (_,x),some j=>some (x,j+1) | _,_=>none)) _ _ _
  refine Aj hbel ?_;refine Aj hpl ?_;refine Aj (show es[i]?=some e by rw[<-aK3];exact hx) ?_
  refine aA4 ?_
  refine two (x:=e.2) (nx:=.int ((j+1:Nat):Int) 0) (.plain ht hp (j+1) rfl rfl ⟨hz.symm▸hi,λb x hb' hx'=>?_,λb x hb' hx'=>H.tab.1.at hpl hx' hb'⟩) λtup z=>nomatch z
  rcases aY2 b i with q | q
  ·exact aG5 (H.tab.1.at hx' hpl q)
  ·obtain rfl:b=i:=bH1 (aJ3 hb') q
   rw[hpl]at hx';cases hx';exact aC2 _
 | drawn ht hp tup ps n hf hne hg hq ho=>
  subst hf;subst ho
  have fm :∀(l:List Nat),(∀p∈l,p<es.size)->∀i:Nat,(l.filterMap (es[·]?))[i]?=(l[i]?).bind (es[·]?):=λl=>by
   induction l with
   | nil=>intro _ i;rfl
   | cons p r ih=>
    intro hl i
    have hp:p<es.size:=hl p (aC6 ..)
    refine Aj List.filterMap_cons ?_;refine Aj (aJ5 hp) ?_
    cases i with
    | zero=>exact(aJ5 hp).symm
    | succ i=>exact ih (λq hq=>hl q (aC9 _ hq)) i
  have hx:=(fm ps (λp hp=>aR0.mp (hq.mem_iff.mp hp)) i).symm.trans hx
  obtain⟨p,hp1,hp2⟩:=aQ8.mp hx
  have gp:((ps.map λp:Nat=>bA4 (p:Int) 0).toArray)[(i:Int).toNat]?=some (.int (p:Int) 0):=by
   rw[aH9];refine Aj (aF1) ?_;refine Aj (aC5) ?_;refine Aj hp1 ?_;rfl
  refine aA2 (m:=seqItems? _) (aR2 hg rfl ?_)
  show aD2 _ _ (match((ps.map λp:Nat=>bA4 (p:Int) 0).toArray)[(i:Int).toNat]? with | some (.int place _)=>_ | some _=>_ | none=>_) _ _ _
  refine Aj gp ?_
  refine aA2 (m:=setNextDrawn _ _ _) ?_
  unfold setNextDrawn
  refine aA2 (m:=bB8 a) (CG H ?_)
  show aD2 _ _ (if(ep != (ep:Int).toNat)=true then _ else _) _ _ _
  refine Aj (bO8 (by simp)) ?_
  show aD2 _ _ (match es[(p:Int).toNat]? with | some (_,x)=>_ | _=>_) _ _ _
  rw[aH9];refine Aj hp2 ?_
  refine aA4 ?_
  refine aA2 (aL9 hI rfl (by simp) ?_)
  exact aA4 ⟨_,rfl,aA4 (h _ (.ref tup) (J2 1 _ hI) (.drawn ht hp tup ps n rfl hne ((aJ7 _ _ hne.symm).trans hg) hq rfl) (λ_ z=>z) (aH5 ..))⟩
def KJ{β:Type}{P:β->aA7->Prop}{Q:Option Value->aA7->Prop}{h₁:aF0}(hh:A.handled=none)(hx:aU1 I s.heap h₁)(h :∀h',aU1 I s.heap h'->Q none {s with heap:=h'}) :
  aD2 (aD9 prog w) A.in1 (do let e<-newExc (.type "StopIteration") [];raiseNew e) P (λe s'=>aD2 (aD9 prog w) A (match(Except.error e:Except Value (Option Value))with
  | .ok (some v)=>pure (some v)
  | .ok none=>unsupported "iter:the-iterator's-class-has-lost-its-__next__-amid-the-walk"
  | .error e=>do if<-aW6 e (.type "StopIteration")then pure none else throw e) Q E s') {s with heap:=h₁}:=by
 refine aA2 ?_
 simp only[newExc,newTuple]
 refine aA2 (aH8 ?_ (by size_fits))
 refine aA2 (m:=aU2 _ _) (aT9 (a:=aI9) (by first | rfl | (simp only[aU2];rfl)) ?_)
 refine aH8 ?_ (by size_fits)
 simp only[raiseNew]
 refine aA2 (bJ1 ?_)
 refine Aj (show A.in1.handled=none from hh) ?_
 refine aA2 (aA4 (bL5 ?_))
 refine aA2 (aV0 (T:="StopIteration") (b:=true) ⟨_,aC4 _ rfl,rfl⟩ bH6 ?_)
 exact aA4 (h _ ((hx.push _).push _))
def WP{Q:Option Value->aA7->Prop}{ord:List (Int×Value)}{first:Value}(hh:A.handled=none)(hI:s.heap.get? I=some (HS first es.size a es.size ep))(m:EJ w s.heap I a es ep t ord es.size first)(H:Gp w s.heap a es ep t)
  (h :∀h',aU1 I s.heap h'->Q none {s with heap:=h'}):aD2 (aD9 prog w) A (aT1 (.ref I)) Q E s:=by
 have hT:s.TypeIs (.ref I) "set_iterator":=⟨_,hI,rfl⟩
 have hl:=m.perm.length_eq
 rw[aH4]at hl
 unfold aT1
 refine aA2 (aV7 (aJ0 (name:=aA0 "__next__") hT Br (aG7 Br hT Ep ?_ (F9 _))))
 unfold aE0.«set_iterator.__next__»
 refine aA2 (m:=slotArgs _ _ _) (aA4 ?_)
 refine aA2 (m:=fieldsOf _) (wpAny_fieldsOf hI rfl ?_)
 refine aA2 (m:=setEntries a) (ET H ?_)
 show aD2 _ _ (if((es.size:Int) != (es.size:Int))=true then _ else _) _ _ _
 refine Aj (bO8 (by simp)) ?_
 have up :∀(j:Nat) (x:Value),aU1 I s.heap (s.heap.update I (bF0 (·.setIfInBounds j x))):=λj x=>(aH5 ..).extBut
 cases m with
 | text ht hf ho=>
  subst hf
  refine aA2 (m:=setNext _ _ _ _) ?_
  unfold setNext
  refine aA2 (m:=bB8 a) (CG H ?_)
  refine aA2 (m:=aU5) (EC ?_)
  refine Aj ht ?_
  show aD2 _ _ (if(ep != (ep:Int).toNat)=true then _ else _) _ _ _
  refine Aj (bO8 (by simp)) ?_
  refine aA2 (m:=setWalk a) ?_
  unfold setWalk
  refine aA2 (m:=bB8 a) (CG H ?_)
  refine aA2 (m:=aU5) (EC ?_)
  refine Aj ht ?_
  refine aA2 (m:=ask) (aP3 (aA4 (aA4 ?_)))
  have hx':(pickOrder (w.params.setOrder a ep) es)[(es.size:Int).toNat]?=none:=by
   rw[aH9];refine Aj (aK3).symm ?_;refine Aj ho.symm ?_;exact aG9 (aB7 hl)
  show aD2 _ _ (match((pickOrder (w.params.setOrder a ep) es)[(es.size:Int).toNat]?).map λe=>(e.2,(0:Int).toNat)with | some (x,next)=>_ | none=>_) _ _ _
  refine Aj hx' ?_
  exact aA2 (aL9 hI rfl (by simp) (KJ (s:=s) hh (up 2 .none) h))
 | plain ht hp slot hf ho hb=>
  subst hf;subst ho
  refine aA2 (m:=setNext _ _ _ _) ?_
  unfold setNext
  refine aA2 (m:=bB8 a) (CG H ?_)
  refine aA2 (m:=aU5) (EC ?_)
  refine Aj ht ?_
  show aD2 _ _ (if(!t.plain&&decide (es.size>1))=true then _ else _) _ _ _
  refine Aj hp ?_
  show aD2 _ _ ((if(!t.led && !es.isEmpty)=true then _ else _) >>= _) _ _ _
  refine Aj (show t.led=true from H.tab.2.trans (bO6 not ht)) ?_
  refine aA2 (aA4 ?_)
  have hbel:aG1 t.place (slot:Int).toNat=es.size:=by rw[aH9];exact(Hp H.tab.1 slot).one hb
  show aD2 _ _ (pure (match es[aG1 t.place (slot:Int).toNat]?,t.place[aG1 t.place (slot:Int).toNat]? with | some (_,x),some j=>some (x,j+1) | _,_=>none)) _ _ _
  refine Aj hbel ?_;refine Aj (Array.getElem?_eq_none (aA9 es.size)) ?_
  refine aA4 ?_
  exact aA2 (aL9 hI rfl (by simp) (KJ (s:=s) hh (up 2 .none) h))
 | drawn ht hp tup ps n hf hne hg hq ho=>
  subst hf
  have gp:((ps.map λp:Nat=>bA4 (p:Int) 0).toArray)[(es.size:Int).toNat]?=none:=by
   rw[aH9];refine Aj (aF1) ?_
   exact aG9 (aB7 ((aB0 ..).trans (hq.length_eq.trans aG6)))
  refine aA2 (m:=seqItems? _) (aR2 hg rfl ?_)
  show aD2 _ _ (match((ps.map λp:Nat=>bA4 (p:Int) 0).toArray)[(es.size:Int).toNat]? with | some (.int place _)=>_ | some _=>_ | none=>_) _ _ _
  refine Aj gp ?_
  have g1:=J2 0 (bA8 0) hI
  refine aA2 (aL9 hI rfl (by simp) ?_)
  refine aA2 (aL9 (s:={s with heap:=_}) g1 rfl (by simp) ?_)
  exact KJ (s:=s) hh (((aH5 ..).trans (aH5 ..)).extBut) h
end
end Mine
end
section
open PySem PySem.W PyProof.Rows PySem.Spec PySem.Calls PySem.SeqAt
namespace Mine
def MF{x y:Nat}{o:AO}{H:List (Nat×AO)}:(Il x H).lookup y=some o->y≠x/\H.lookup y=some o:=by
 refine aB5 (motive:=λH=>(Il x H).lookup y=some o->y≠x/\H.lookup y=some o) AA (λp r ih e=>?_) H
 have e:(bif aD0 p.1 x then Il x r else p::Il x r).lookup y=some o:=e
 cases hp:aD0 p.1 x with
 | true=>
  rw[hp]at e
  have q:=ih e
  refine⟨q.1,?_⟩
  rw[AS,show(y==p.1)=false from beq_eq_false_iff_ne.mpr λz=>q.1 (z.trans (aB4 hp))]
  exact q.2
 | false=>
  rw[hp]at e
  have e:(p::Il x r).lookup y=some o:=e
  rw[AS]at e ⊢
  cases hy:y==p.1 with
  | true=>
   rw[hy]at e
   exact⟨λz=>by rw[<-aF2 hy,z]at hp;exact aN7 (hp.symm.trans (Nat.beq_refl x)),e⟩
  | false=>rw[hy]at e;exact ih e
def Cx.lk(X:Cx)(c:Ž)(x:Nat):Cx:=⟨X.L,X.A,X.env,c.s.heap,X.h₀,c.G.put (c.G.μ x) .lock,c.σ.n,X.gens,X.os⟩
def Ž.lk(c:Ž)(x:Nat):Ž:=⟨c.G.put (c.G.μ x) .lock,c.σ.hid x,c.s⟩
section
variable{X:Cx}{c:Ž}{x:Nat}{o:AO}
def Y5(R:ŵ X c)(hx:c.σ.H.lookup x=some o):Dy c (c.lk x):=
 ⟨λa b e q=>⟨e,λz=>(Ű.put_own z).elim (λz=>q (z▸A3 (R.obj x o hx).tag)) q⟩,λ_ _=>⟨rfl,rfl⟩,aA9 _⟩
theorem ŵ.lk(R:ŵ X c)(hx:c.σ.H.lookup x=some o):ŵ (X.lk c x) (c.lk x):=
 have p:=Y5 R hx
 have tx:=(R.obj x o hx).tag
 have ne :∀{a q},c.G.tag a=some q->q≠.obj x->(c.G.put (c.G.μ x) .lock).tag a=some q:=λe h=>(Ű.put_ne (E6 e tx h)).trans e
 {base:=R.base
  keep:=λb o e _=>e
  size:=aA9 _
  mutHs:=λa e=>.inl e
  ownB:=λa e=>(Ű.put_own e).elim (λz=>z▸R.ownB _ (A3 tx)) (R.ownB a)
  ownLt:=λa e=>(Ű.put_own e).elim (λz=>z▸R.ownLt _ (A3 tx)) (R.ownLt a)
  gens:=R.gens
  os:=R.os
  loc:=R.loc.casesOn λm hm r=>⟨m,hm,λx av e1 e2=>(r x av e1 e2).imp λv q=>⟨q.1,p.v q.2⟩⟩
  cel:=λx a e=>(R.cel x a e).casesOn λv hv r=>⟨v,hv,λav e1 e2=>(r av e1 e2).imp λu q=>⟨q.1,p.v q.2⟩⟩
  celAll:=R.celAll
  tloc:=ne R.tloc λz=>nomatch z
  tcel:=λx a e=>ne (R.tcel x a e) λz=>nomatch z
  obj:=λy o' e=>by
   obtain⟨h1,h2⟩:=MF e
   have q:=p.obj (X:=X) (ne (R.obj y o' h2).tag λz=>h1 (by cases z;rfl)) (λ_ e=>e) (λz=>⟨λ_ e=>e,ne z λz=>nomatch z⟩) (R.obj y o' h2)
   exact⟨q.1,q.2,q.3⟩
  anc:=⟨aA9 _,aA9 _,λ_ _=>⟨rfl,rfl⟩⟩
  bsz:=R.bsz}
def C6.keep1{L:CU}{G G':Ű}{h h':aF0}{n n':Nat}(k:Cj G h G' h')(hg :∀z,z<n->A8 L G' h' n' (.ref z) (.ref (G.μ z)))(e1:G'.μ x=G.μ x)(h1 :∀o,h.get? (G.μ x)=some o->h'.get? (G.μ x)=some o)(ho:o.two=false)(q:C6 L G h n x o):C6 L G' h' n' x o:=by
 have hg' :∀z w,(λz=>some (AV.ref z)) z=some w->z<n->A8 L G' h' n' w (.ref (G.μ z)):=λz w e hz=>by cases e;exact hg z hz
 cases o with
 | list vs=>exact ID.imp (λb p=>e1.symm▸(JE .lst b).keep h1 p) (λb r=>A2.sub k hg' (Dh vs) r) q
 | dict vs=>exact ID.imp (λb p=>e1.symm▸(Fe b).keep h1 p) (λb r=>Ai.sub k hg' (FE vs) r) q
 | set ks=>exact(e1.symm▸(HZ ks).keep h1 q:L.set h' (G'.μ x) ks)
 | tab b=>exact(e1.symm▸q.imp λo q=>⟨h1 o q.1,q.2⟩ :∃o,h'.get? (G'.μ x)=some o/\∃ps:Array Value,o = {cls:=.none,data:=.fields ps}/\(b=false->ps = #[]))
 | inst C at_=>cases ho
def ŵ.unlk(R:ŵ X c)(hx:c.σ.H.lookup x=some o)(ho:o.two=false){G':Ű}{τ:St}{s':aA7}(k:Ŀ (c.lk x).G c.s.heap G' s'.heap)(R':ŵ (X.lk c x) ⟨G',τ,s'⟩) :
  Ŀ c.G c.s.heap (G'.put (c.G.μ x) (.obj x)) s'.heap/\ŵ X ⟨G'.put (c.G.μ x) (.obj x),⟨τ.ρ,Al τ.H x o,τ.n,c.σ.anc⟩,s'⟩:=by
 have tx:=(R.obj x o hx).tag
 have lx:(c.lk x).G.tag (c.G.μ x)=some .lock:=Ű.put_at
 have tl:G'.tag (c.G.μ x)=some .lock:=k.lock _ lx
 have ltx:=(R.obj x o hx).lt
 have pin :∀i,i<c.σ.n->G'.μ i=c.G.μ i/\G'.δ i=c.G.δ i:=λi hi=>R'.anc.2.2 i hi
 have hn:c.σ.n<=τ.n:=aA3 R'.anc.1 R'.anc.2.1
 have mtl :∀{a},(c.lk x).G.mt a->c.G.mt a:=λ{a} z=>z.elim λp q=>by
  by_cases e:a=c.G.μ x
  ·subst e;exact bO9 (aA1 (q.1.symm.trans lx)) q.2
  ·exact⟨p,(Ű.put_ne e).symm.trans q.1,q.2⟩
 have ownl :∀{a},(c.lk x).G.own a->c.G.own a:=λ{a} z=>(Ű.put_own z).elim (λe=>by rw[e];exact A3 tx) id
 have ne :∀{a q},G'.tag a=some q->q≠.lock->(G'.put (c.G.μ x) (.obj x)).tag a=some q:=λe h=>(Ű.put_ne (E6 e tl h)).trans e
 have hk :∀b o,c.s.heap.get? b=some o->¬ c.G.mt b\/b=c.G.μ x->s'.heap.get? b=some o:=λb o e q=>k.keep b o e λz=>q.elim (λq=>q (mtl z)) λq=>by
  subst q
  exact z.elim λp z=>z.2 (aA1 (z.1.symm.trans lx))
 have mtu :∀{a},(G'.put (c.G.μ x) (.obj x)).mt a->a=c.G.μ x\/G'.mt a:=λ{a} z=>(aO1 (a=c.G.μ x)).imp id λe=>z.imp λp q=>⟨(Ű.put_ne e).symm.trans q.1,q.2⟩
 have p:Dy ⟨G',τ,s'⟩ ⟨G'.put (c.G.μ x) (.obj x),⟨τ.ρ,Al τ.H x o,τ.n,c.σ.anc⟩,s'⟩:=⟨λa b e q=>⟨e,λz=>(Ű.put_own z).elim (λz=>q (z▸A3 tl)) q⟩,λ_ _=>⟨rfl,rfl⟩,aA9 _⟩
 have kp:Ŀ c.G c.s.heap (G'.put (c.G.μ x) (.obj x)) s'.heap:=⟨λb o e q=>hk b o e (.inl q),λa e=>(Ű.put_own e).elim (λe=>.inl (by rw[e];exact A3 tx)) λz=>(k.own a z).imp ownl id,
  λa e=>(mtu e).elim (λe=>.inl (by rw[e];exact ED tx λz=>nomatch z)) λz=>(k.mt a z).imp mtl id,k.size,λa e=>
   have na:a≠c.G.μ x:=E6 e tx λz=>nomatch z
   (Ű.put_ne na).trans (k.lock a ((Ű.put_ne na).trans e))⟩
 refine⟨kp,{
  base:=R'.base
  keep:=λb o e q=>kp.keep b o (R.keep b o e q) λz=>(R.mutHs b z).elim q (Ce e)
  size:=aA3 R.size kp.size
  mutHs:=λa z=>(kp.mt a z).elim (R.mutHs a) λw=>.inr (aA3 R.size w)
  ownB:=λa e=>(Ű.put_own e).elim (λe=>by rw[e];exact R.ownB _ (A3 tx)) (R'.ownB a)
  ownLt:=λa e=>(Ű.put_own e).elim (λe=>by rw[e];exact aB3 (R.ownLt _ (A3 tx)) kp.size) (R'.ownLt a)
  gens:=R'.gens
  os:=R'.os
  loc:=R'.loc.casesOn λm hm r=>⟨m,hm,λx av e1 e2=>(r x av e1 e2).imp λv q=>⟨q.1,p.v (X:=X) q.2⟩⟩
  cel:=λx a e=>(R'.cel x a e).casesOn λv hv r=>⟨v,hv,λav e1 e2=>(r av e1 e2).imp λu q=>⟨q.1,p.v (X:=X) q.2⟩⟩
  celAll:=R'.celAll
  tloc:=ne R'.tloc λz=>nomatch z
  tcel:=λx a e=>ne (R'.tcel x a e) λz=>nomatch z
  obj:=λy o' e=>CC e (λhy hw=>?_) λhy e=>?_
  anc:=⟨aA3 R.anc.1 (aA9 _),aA3 R.anc.2.1 hn,λi hi=>
   have hi':i<c.σ.n:=aB3 hi (aA3 R.anc.1 R.anc.2.1)
   ⟨(pin i hi').1.trans (R.anc.2.2 i hi).1,(pin i hi').2.trans (R.anc.2.2 i hi).2⟩⟩
  bsz:=R'.bsz}⟩
 ·subst hy;subst hw
  refine⟨aB3 ltx hn,(bO6 _ (pin y ltx).1).trans Ű.put_at,C6.keep1 (λa b e q=>?_) (λz hz=>⟨bO6 aN2 (pin z hz).1.symm,aB3 hz hn⟩) (pin y ltx).1 (λo e=>hk _ o e (.inr rfl)) ho (R.obj y o hx).rel⟩
  exact⟨hk a b e (.inl λz=>q (Ű.mt_own z)),λz=>(kp.own a z).elim q (Ce e)⟩
 ·have q:=R'.obj y o' e
  have q':=p.obj (X:=X) (c:=⟨G',τ,s'⟩) (ne q.tag λz=>nomatch z) (λ_ e=>e) (λz=>⟨λ_ e=>e,ne z λz=>nomatch z⟩) ⟨q.1,q.2,q.3⟩
  exact⟨q'.1,q'.2,q'.3⟩
end
def IL:bB6 table "set_iterator.__iter__" = some aE0.«dict_keyiterator.__iter__»:=bI0 (id':="dict_keyiterator.__iter__") (by rfl') rfl (by decide +kernel) (by rfl')
def Iv(a:Value):aW7 "set_iterator.__iter__" ⟨[a],[]⟩:=by
 unfold aW7;rw[bE7 (id:="set_iterator.__iter__") (n:=['_','_','r','e','t','i','_','_']) (o:=['r','o','t','a','r','e','t','i','_','t','e','s']) (by rfl') K2];rfl'
def TD{prog:aG3}{w:aB9}{A:aH7}{E:Value->aA7->Prop}{s:aA7}{I a:aC1}{first:Value}{i n ep:Nat}{Q:Value->aA7->Prop}(ho:s.heap.get? I=some (HS first i a n ep))(hQ:Q (.ref I) s):aD2 (aD9 prog w) A (aQ6 (.ref I)) Q E s:=by
 have hT:s.TypeIs (.ref I) "set_iterator":=⟨_,ho,rfl⟩
 refine bE5 hT FQ (aG7 FQ hT IL ?_ (Iv _))
 show aD2 _ _ (ret (.ref I)) _ _ s
 exact aA4 ⟨_,rfl,"set_iterator",_,hT,Br.lookup,hQ⟩
noncomputable def Ű.news(G:Ű)(lo hi:Nat):Ű:=⟨λb=>bif aV2 lo b&&bL0 b hi then some .lock else G.tag b,G.μ,G.δ⟩
def LL{G:Ű}{lo hi b:Nat}(h:b<lo):(G.news lo hi).tag b=G.tag b:=by
 show(bif aV2 lo b&&bL0 b hi then some AT.lock else G.tag b)=_
 rw[show aV2 lo b=false from by rw[aZ3];exact λz=>bO9 (aK5 z) (bG6.mpr h)];rfl
def Nh{G:Ű}{lo hi b:Nat}(h1:lo<=b)(h2:b<hi):(G.news lo hi).tag b=some .lock:=by
 show(bif aV2 lo b&&bL0 b hi then some AT.lock else G.tag b)=_
 rw[show aV2 lo b=true from Nat.ble_eq_true_of_le h1,show bL0 b hi=true from Nat.ble_eq_true_of_le h2];rfl
def QD{G:Ű}{lo hi b:Nat}(h:(G.news lo hi).own b):b<hi\/G.own b:=by
 by_cases z:lo<=b/\b<hi
 ·exact .inl z.2
 ·refine .inr λq=>h ?_
  show(bif aV2 lo b&&bL0 b hi then some AT.lock else G.tag b)=_
  cases h1:aV2 lo b&&bL0 b hi with
  | false=>exact q
  | true=>exact bO9 ⟨aK5 (AL h1).1,aK5 (AL h1).2⟩ z
section
variable{X:Cx}{c:Ž}
structure jJ(w:aB9)(hs:aF0)(I a:aC1)(es:Array (Int×Value))(ep:Nat)(t:aI1)(ord:List (Int×Value))(i:Nat)(G:Ű)(h:aF0):Prop where
 lk:H7 hs G [I]
 la:G.tag a=some .lock
 has:Gp w h a es ep t
 it :∃first,h.get? I=some (HS first i a es.size ep)/\EJ w h I a es ep t ord i first/\∀tup,first = .ref tup->G.tag tup=some .lock
 ne:a≠I
def fJ{I a:aC1}{es:Array (Int×Value)}{ep:Nat}{t:aI1}{ord:List (Int×Value)}{ks:List AB}(hh:X.A.handled=none)(hp:ord.length=es.size)(hk:ks.length=ord.length/\∀(i:Nat) k e,ks[i]?=some k->ord[i]?=some e->Aa k e.2=true)(target:Expr) :
  LJ X target I [I] (ks.map .key) (jJ X.L.w X.hs I a es ep t ord) where
 frame:=λi G h G' h' x kp=>by
  obtain⟨first,q1,Ľ,q3⟩:=x.it
  have kk :∀b o,G.tag b=some .lock->h.get? b=some o->h'.get? b=some o:=λb o e=>kp.lk e o
  refine⟨x.lk.frame kp,kp.lock _ x.la,x.has.keep λo=>kk _ o x.la,⟨first,kk _ _ (x.lk I (aB6.mpr rfl)).1 q1,?_,λtup e=>kp.lock _ (q3 tup e)⟩,x.ne⟩
  cases Ľ with
  | text ht hf ho=>exact .text ht hf ho
  | plain ht hp slot hf ho hb=>exact .plain ht hp slot hf ho hb
  | drawn ht hp tup ps n hf hne hg hq ho=>exact .drawn ht hp tup ps n hf hne (kk _ _ (q3 tup hf) hg) hq ho
 item:=λi c R hi x=>by
  rw[aB0]at hi
  obtain⟨first,q1,Ľ,q3⟩:=x.it
  have e1:ord[i]?=some (ord[i]'(hk.1▸hi)):=aA6 _
  refine UL (s:=c.s) q1 Ľ x.has e1 λh' first' y1 y2 y3 y4=>⟨_,rfl,?_⟩
  have kk :∀a o,a∉[I]->c.s.heap.get? a=some o->h'.get? a=some o:=λa o ha e=>(y4.2 a (SP ha)).trans e
  have q:=R.lockAt x.lk (t:=c.s.toks) kk (aB7 y4.1.symm)
  have na:a∉[I]:=λz=>x.ne (aB6.mp z)
  exact DP (s:={c.s with heap:=h'}) (T:="set_iterator") y1 rfl rfl (by decide) ⟨.key (ks[i]'hi),by rw[aC5,aA6 hi];rfl,hk.2 i _ _ (aA6 hi) e1,q.2,⟨x.lk,x.la,x.has.keep λo=>kk a o na,⟨first',y1,y2,λtup e=>q3 tup (y3 tup e)⟩,x.ne⟩,kk,aB7 y4.1.symm⟩
 done:=λc R x=>by
  obtain⟨first,q1,Ľ,q3⟩:=x.it
  rw[aB0,hk.1,hp]at q1 Ľ
  exact EX (WP (s:=c.s) hh q1 Ľ x.has λh' y1 sz=>
   have kk :∀a o,a∉[I]->c.s.heap.get? a=some o->h'.get? a=some o:=λa o ha e=>y1 a o (SP ha) e
   ⟨rfl,(R.lockAt x.lk (t:=c.s.toks) kk sz).2,kk,sz⟩)
theorem K9 :∀(ks ks':List AB),ks.Nodup->ks ⊆ ks'->ks'.length<=ks.length->ks'.Perm ks
 | [],ks',_,_,h=>by rw[aF5 (bI3.mp h)]
 | k::r,ks',hn,hs,hl=>by
  have hk:=hs (aC6 ..)
  have hn:=aW3.mp hn
  refine(List.perm_cons_erase hk).trans (.cons k (K9 r _ hn.2 (λx hx=>(List.mem_erase_of_ne λe:x=k=>hn.1 (e▸hx)).mpr (hs (aC9 _ hx))) ?_))
  rw[List.length_erase_of_mem hk]
  exact Nat.sub_le_of_le_add hl
def Uc{prog:aG3}{w:aB9}{es:Array (Int×Value)}{ord:List (Int×Value)}{ks:List AB}(hel:bO1 (Af prog w) es.toList)(hm :∀k,decide (k∈ks)=true↔∃e∈es.toList,Aa k e.2=true)(hn:ks.Nodup)(hl:es.size=ks.length)(hp:ord.Perm es.toList) :
  ∃ks':List AB,ks'.Perm ks/\ks'.length=ord.length/\∀(i:Nat) k e,ks'[i]?=some k->ord[i]?=some e->Aa k e.2=true:=by
 have all :∀l:List (Int×Value),(∀e∈l,∃k,Aa k e.2=true)->∃ks':List AB,ks'.length=l.length/\∀(i:Nat) k e,ks'[i]?=some k->l[i]?=some e->Aa k e.2=true:=λl=>by
  induction l with
  | nil=>exact λ_=>⟨[],rfl,λi k e h=>nomatch h⟩
  | cons e r ih=>
   intro h
   obtain⟨k,hk⟩:=h e (aC6 ..)
   obtain⟨ks',h1,h2⟩:=ih λe he=>h e (aC9 _ he)
   refine⟨k::ks',bO6 aQ9 h1,λi k' e' q1 Ľ=>?_⟩
   cases i with
   | zero=>cases q1;cases Ľ;exact hk
   | succ i=>exact h2 i k' e' q1 Ľ
 obtain⟨ks',h1,h2⟩:=all ord λe he=>hel.keys e (hp.mem_iff.mp he)
 refine⟨ks',?_,h1,h2⟩
 have sub:ks ⊆ ks':=λk hk=>by
  obtain⟨e,he,hke⟩:=(hm k).mp (bP0 hk)
  obtain⟨i,hi⟩:=aJ4 (hp.mem_iff.mpr he)
  have hki:=aA6 (h1.symm▸(aA5.mp hi).1:i<ks'.length)
  rw[D9 hke (h2 i _ e hki hi)]
  exact bA9 _
 exact K9 ks ks' hn sub (by rw[h1,hp.length_eq,aH4,hl];exact aA9 _)
def Yd{a:aC1}{ks:List AB}{K:List AV->St->Prop}(hh:X.A.handled=none)(la:c.G.tag a=some .lock)(h:X.L.set c.s.heap a ks)(q :∀ks':List AB,ks'.Perm ks->K (ks'.map .key) c.σ)(target:Expr)(R:ŵ X c):ţ X (aQ6 (.ref a)) (λit s'=>CX X target c K it s') c.s:=by
 obtain⟨⟨o,es,ep,t,ho,hex,hd,hel,hm,hb,hf,hn⟩,hnd,o',es',ep',t',ho',hd',ht⟩:=h
 cases SN ho ho'
 cases hd.symm.trans hd'
 have H:Gp X.L.w c.s.heap a es ep t:=⟨⟨o,ho,hex,hd⟩,hf,ht,hb⟩
 refine Qy H λh' d I ord first ľ k2 k3 g m ht=>?_
 obtain⟨ks',p1,p2,p3⟩:=Uc hel hm hnd hn m.perm
 have hz:c.s.heap.objs.size<=h'.objs.size:=k3▸aI0 k2
 have x:Cb X c ⟨c.G.news c.s.heap.objs.size h'.objs.size,c.σ,{c.s with heap:=h',drawn:=d}⟩:=R.more ľ hz (λa l=>LL l) (λa e=>(QD e).elim id λe=>aB3 (R.ownLt a e) hz) (λ_ _=>⟨rfl,rfl⟩) (aA9 _) rfl rfl rfl rfl λ_ _=>.inl
 have hI:I<h'.objs.size:=k3▸aC2 _
 exact⟨c,.refl R,I,[I],ks'.map .key,jJ X.L.w X.hs I a es ep t ord,_,rfl,λe=>fJ (X:=X.en e) hh (m.perm.length_eq.trans (aH4 ..)) ⟨p2,p3⟩ target,λi G s Q st hQ=>st.it.elim λf z=>TD z.1 hQ,
  ⟨λb hb=>(aB6.mp hb)▸⟨Nh k2 hI,aA3 R.size k2⟩,(LL (aI8 ho)).trans la,H.keep (ľ a),⟨first,g,m,λtup e=>Nh (ht tup e).1 (aY3 (ht tup e).2 hI)⟩,aE5 (aB3 (aI8 ho) k2)⟩,
  λb hb=>(aB6.mp hb)▸k2,x,ľ,q ks' p1⟩
structure kQ(L:CU)(hs:aF0)(I d:aC1)(kvs:List (AB×Value))(ep:Nat)(i:Nat)(G:Ű)(h:aF0):Prop where
 lk:H7 hs G [I]
 ld:G.tag d=some .lock
 it:h.IsKeyIter I d i kvs.length ep
 at_:h.DictAt (Af L.prog L.w) d kvs ep
 ne:d≠I
def cO{I d:aC1}{kvs:List (AB×Value)}{es:List (AB×AV)}{ep:Nat}(hh:X.A.handled=none)(hl:kvs.map (·.1)=es.map (·.1))(target:Expr):LJ X target I [I] (D3 es) (kQ X.L X.hs I d kvs ep):=by
 have hn:es.length=kvs.length:=by have:=bO6 aU6 hl;rw[aB0,aB0]at this;exact this.symm
 exact{
 frame:=λi G h G' h' x kp=>⟨x.lk.frame kp,kp.lock _ x.ld,x.it.at λo e=>kp.lk (x.lk I (aB6.mpr rfl)).1 o e,x.at_.at' λo e=>kp.lk x.ld o e,x.ne⟩
 item:=λi c R hi x=>by
  have hi':i<kvs.length:=hn▸(show i<es.length from(aB0 ..)▸hi)
  refine wpAny_pyNext_dict_item x.it x.at_ (aA6 hi') λkey h' y1 y2 y3=>⟨key,rfl,?_⟩
  have kk :∀a o,a∉[I]->c.s.heap.get? a=some o->h'.get? a=some o:=λa o ha e=>(y3.2 a (SP ha)).trans e
  have q:=R.lockAt x.lk (t:=c.s.toks) kk (aB7 y3.1.symm)
  have nd:d∉[I]:=λz=>x.ne (aB6.mp z)
  have ek:(D3 es)[i]?=some (.key kvs[i].1):=by
   have:=bO6 (λl:List AB=>l[i]?) hl
   simp only[aC5,aA6 hi',Option.map_some]at this
   show(es.map λp=>AV.key p.1)[i]?=_
   rw[aC5]
   cases h:es[i]? with
   | none=>rw[h]at this;cases this
   | some p=>rw[h]at this;exact bO6 (λk=>some (AV.key k)) (aA1 this).symm
  exact letGo_keyiter (s':={c.s with heap:=h'}) y2 ⟨_,ek,y1,q.2,⟨x.lk,x.ld,y2,x.at_.at' λo e=>kk d o nd e,x.ne⟩,kk,aB7 y3.1.symm⟩
 done:=λc R x=>by
  have q1:=x.it
  rw[show(D3 es).length=kvs.length from(aB0 ..).trans hn]at q1
  exact EX (wpAny_pyNext_dict_end hh q1 x.at_ (aG9 (aA9 _)) λh' y1 sz=>
   have kk :∀a o,a∉[I]->c.s.heap.get? a=some o->h'.get? a=some o:=λa o ha e=>y1 a o (SP ha) e
   ⟨rfl,(R.lockAt x.lk (t:=c.s.toks) kk sz).2,kk,sz⟩)}
def Ue{v d:aC1}{kvs:List (AB×Value)}{es:List (AB×AV)}{K:List AV->St->Prop}(hh:X.A.handled=none)(ld:c.G.tag d=some .lock)(h:X.L.dct c.s.heap d kvs)(hv:KdlKeysView c.s.heap v d)(hl:kvs.map (·.1)=es.map (·.1))(q:K (D3 es) c.σ)(target:Expr)(R:ŵ X c):ţ X (aQ6 (.ref v)) (λit s'=>CX X target c K it s') c.s:=by
 obtain⟨ep,o,es',z⟩:=h.1.dictAt
 refine kdl_pyIter_keys hv ⟨o,es',z⟩ ?_
 have x:=R.lck {cls:=.type "dict_keyiterator",data:=.fields #[.ref d,.int 0 0,.int kvs.length 0,.int ep 0]} c.s.toks
 have lt:=aI8 z.1
 exact⟨c,.refl R,_,[c.s.heap.objs.size],D3 es,kQ X.L X.hs c.s.heap.objs.size d kvs ep,_,rfl,λe=>cO (X:=X.en e) hh hl target,λi G s Q st hQ=>wpAny_pyIter_keyiter st.it hQ,
  ⟨λb hb=>⟨aB6.mp hb▸Ű.put_at,aB6.mp hb▸R.size⟩,(Ű.put_ne (aE5 lt)).trans ld,⟨_,aC4 _ rfl,rfl,rfl⟩,⟨o,es',aB1 _ z.1,z.2⟩,aE5 lt⟩,λb hb=>aB7 (aB6.mp hb).symm,x,λa o e=>aB1 _ e,q⟩
end
def QT{L:CU}{G:Ű}{h:aF0}{n:Nat}{es:List (AB×AV)}{kvs:List (AB×Value)}(q:Ai L G h n es kvs)(k:AB):Ai L G h n (Fz es k) (without kvs k):=by
 refine Ai.cases (M:=λes kvs=>Ai L G h n (Fz es k) (without kvs k)) rfl (λk' a v r u hv ih=>?_) q
 unfold Fz without
 rw[List.filter_cons,List.filter_cons]
 cases decide (k'≠k)with
 | true=>exact ih.cons hv
 | false=>exact ih
section
variable{X:Cx}{P:Pm}{d:Nat}{fN st fM cm fI:aC1}{sc:Scope}{W:ŷ}{S:ĥ}(F:Ek X P d fN st fM cm fI sc)(E:IG X W)(H:IB X S){σ:St}{Q:ſ}
include E
theorem XK{o:Option Expr}{p:Pos}(h:aD5 (Q (.ret .none) σ) (λe=>W.E e σ λv σ=>Q (.ret v) σ) o):TS X (exec (.Return o p) X.env) σ Q:=λG s R=>by
 cases o with
 | none=>
  show ţ X (do standAt p;return bJ9.ret aI9) _ _
  exact ţ.bind (aK0 (aA4 (.to (c':=⟨G,σ,s⟩) (af:=.ret .none) (.refl R) ⟨.none,rfl,rfl⟩ h)))
 | some e=>exact wpAny_Return_some ((E.E e σ _ h).go (c:=⟨G,σ,s⟩) R λv c₁ vv h₁ x₁ r₁=>.to (af:=.ret v) x₁ ⟨vv,rfl,r₁⟩ h₁)
include F
theorem VL{e:Expr}{p:Pos}(h:Dp (!Rr e) (W.E e σ λ_ σ=>Q .next σ)):TS X (exec (.Expr e p) X.env) σ Q:=λG s R=>by
 obtain⟨h1,h⟩:=A4 h
 have h1:=EU h1
 refine wpAny_Expr_any ((E.E e σ _ h).go (c:=⟨G,σ,s⟩) R λv c₁ vv h₁ x₁ r₁=>.to (af:=.next) x₁ rfl h₁) ?_ ?_
 ·unfold interactive;rw[FH F];rfl
 ·clear h
  cases e with
  | ListComp=>cases h1
  | SetComp=>cases h1
  | DictComp=>cases h1
  | _=>rfl
include H
theorem eI{t:Expr}{b o:List aE7}{p:Pos}(h:W.B t σ λc σ=>An c (wL P S b σ Q) (wL P S o σ Q)):TS X (exec (.If t b o p) X.env) σ Q:=λG s R=>
 wpAny_If ((E.B t σ _ h).go (c:=⟨G,σ,s⟩) R λc c₁ vc h₁ x₁ r₁=>by
  cases r₁
  cases c with
  | true=>exact Ax.up (Ju H b h₁ _ _ x₁.R) x₁.kp
  | false=>exact Ax.up (Ju H o h₁ _ _ x₁.R) x₁.kp)
theorem Xr{t i:Expr}{b o:List aE7}{p:Pos}(h:Dp (!ix i 7) (Fk P sc W t i σ λitems σ=>Cc items (λv σ K=>W.A t v σ λσ=>wL P S b σ K) (wL P S o) σ Q)):TS X (exec (.For t i b o p) X.env) σ Q:=λG s R=>by
 obtain⟨h1,h⟩:=A4 h
 have h1:=EU h1
 refine j9 (σ:=σ) ?_ (λv c K x {u} R hv=>ţ.mono (E.A t v c _ x R hv) λ_ s₁ q=>q.casesOn λG₁ σ₁ _ x₁ _ q₁=>Ax.up (Ju H b q₁ G₁ s₁ x₁.R) x₁.kp) (λσ K x=>Ju H o x) (Mc F E h R)
 clear h
 cases i with
 | Set=>cases h1
 | _=>exact λ_=>rfl
theorem YE{ts:List Expr}{p:Pos}(h:eM W ts σ λσ=>Q .next σ):TS X (exec (.Delete ts p) X.env) σ Q:=λG s R=>
 AC h λt e1 h=>Hs (P:=λts=>ţ X (exec (.Delete ts p) X.env) (Ax X G s.heap Q) s) e1 (by
  obtain⟨h1,h⟩:=A4 h
  refine wpAny_Delete (wpAny_deleteEach_cons ?_)
  refine Expr.Subscript.elim (motive_1:=λt=>(W.E (N2 t).1 σ λv σ=>W.E (N2 t).2 σ λk σ=>GT σ v λx es=>Ab (BL k) λk=>(es.lookup k).isSome=true/\Q .next (σ.set x (.dict (Fz es k))))->ţ X (delete t X.env) (λ_ s₁=>ţ X (deleteEach [] X.env) (λ_ s₁=>Ax X G s.heap Q .next s₁) s₁) s) t (aB4 h1) (λo i q h=>?_) h
  show ţ X (do
   let ov<-eval o X.env
   let iv<-aS1 [ov] (eval i X.env)
   standAt q
   aS1 [ov,iv] (delItem ov iv)
   release [ov,iv] []) _ _
  refine ţ.bind ((E.E o σ _ h).go (c:=⟨G,σ,s⟩) R λa c₁ va h₁ x₁ r₁=>ţ.bind (ţ.hold ((E.E i _ _ h₁).go x₁.R λb c₂ vb h₂ x₂ r₂=>ţ.bind (aK0 (ţ.bind (ţ.hold ?_))))))
  refine F2 h₂ x₂.R (x₂.pre.v r₁) λx es kvs hx p1 p2 hz h=>AC h λk ek h=>?_
  have hs:(valueAt kvs k).isSome=true:=p2.look k (P:=λa b=>a.isSome=true->b.isSome=true) id (λ_ _ _ _=>rfl) h.1
  refine wpAny_delItem_slot p1.1.typeIs (by decide) PySem.F.slot_dict_delitem (bG5 PySem.F.slot_dict_delitem p1.1.typeIs PySem.F.entry_dict_delitem (PySem.F.args_dict_delitem_2 _ _) (meets_dict_delitem_pairs (Af X.L.prog X.L.w) (k:=k) (c₂.G.μ x) (BS ek r₂)) ⟨kvs,p1.1,hz,hs,λh' hd hb=>?_⟩)
  have y:=x₂.R.setDict (c₂.s.toks+1) hx hb ⟨hd,p1.2⟩ (QT p2 k)
  have z:=(x₁.trans x₂).trans y
  exact bJ3 (wpAny_deleteEach_nil ⟨_,_,.next,z.kp,z.R,rfl,h.2⟩))
end
theorem Ek.lk{X:Cx}{P:Pm}{d:Nat}{fN st fM cm fI:aC1}{sc:Scope}{c:Ž}{x:Nat}(F:Ek X P d fN st fM cm fI sc):Ek (X.lk c x) P d fN st fM cm fI sc:=⟨F.w,F.A,F.glb,F.bui,F.hsc,F.fun_⟩
section
variable{X:Cx}{P:Pm}{d:Nat}{fN st fM cm fI:aC1}{sc:Scope}{W:ŷ}{S:ĥ}(EA :∀X,Ek X P d fN st fM cm fI sc->IG X W)(HA :∀X,Ek X P d fN st fM cm fI sc->IB X S)(F:Ek X P d fN st fM cm fI sc){σ:St}{Q:ſ}
include EA HA F
theorem Vn{tg:Expr}{b:List aE7}{c:Ž}{x:Nat}{o:AO}{itv:Value}{s₂:aA7}(R:ŵ X c)(hx:c.σ.H.lookup x=some o)(ho:o.two=false)
  (hit:CX (X.lk c x) tg (c.lk x) (λitems τ=>Cc items (λv σ K=>W.A tg v σ λσ=>wL P S b σ K) (λσ K=>K .next σ) τ λfl τ=>Bn.rec (Q .next (MS c.σ x o τ)) False False (λ_=>False) fl) itv s₂) :
  aM9 (aD9 X.L.prog X.L.w) X.A (.forLoop tg itv b [] X.env) (fV (Ax X c.G c.s.heap Q)) s₂:=by
 have F':Ek (X.lk c x) P d fN st fM cm fI sc:=Ek.lk F
 refine aK6 (RC (X:=X.lk c x) (orelse:=[]) (els:=λσ K=>K .next σ) (λv c' K h {u} R' hv=>ţ.mono ((EA _ F').A tg v c' _ h R' hv) λ_ s₁ q=>q.casesOn λG₁ σ₁ _ x₁ _ q₁=>Ax.up (Ju (HA _ F') b q₁ G₁ s₁ x₁.R) x₁.kp)
  (λσ K h G s R=>aA4 (.to (c':=⟨G,σ,s⟩) (af:=.next) (.refl R) rfl h)) hit) λr s' z=>z.elim λf z=>⟨f,z.1,?_⟩
 obtain⟨G',τ,af,k,R',fr,q⟩:=z.2
 cases af with
 | next=>
  obtain⟨kp,R₂⟩:=R.unlk hx ho k R'
  exact⟨_,_,.next,kp,R₂,fr,q⟩
 | brk=>exact q.elim
 | cont=>exact q.elim
 | ret v=>exact q.elim
theorem Tf{t i:Expr}{b o:List aE7}{p:Pos}(h:QJ W (λv σ K=>W.A t v σ λσ=>wL P S b σ K) i o σ Q):TS X (exec (.For t i b o p) X.env) σ Q:=λG s R=>by
 obtain⟨h0,h⟩:=A4 h
 refine DM (P:=λo=>ţ X (exec (.For t i b o p) X.env) (Ax X G s.heap Q) s) h0 ?_
 clear h0
 have E:=EA X F
 cases hi:ix i 16 with
 | false=>
  rw[hi]at h
  obtain⟨h2,h⟩:=A4 h
  refine bN7 ((E.E i σ _ h).go (c:=⟨G,σ,s⟩) R λv c₁ vv h₁ x₁ r₁=>AC h₁ λp e h₁=>AC h₁ λks e2 h₁=>?_) ?_
  ·obtain⟨q1,Ľ⟩:=Ca e r₁
   subst q1
   rw[AO.fs_eq e2]at Ľ
   exact ţ.any (Yd (X:=X.lk c₁ p.1) (c:=c₁.lk p.1) F.A.1 Ű.put_at (x₁.R.obj _ _ Ľ).rel h₁ t (x₁.R.lk Ľ)) λitv s₂ hit=>aK6 (Vn EA HA F x₁.R Ľ rfl hit) λr s' z=>z.elim λf z=>z.1▸z.2.lift x₁.kp
  ·clear h
   cases i with
   | Set=>cases h2
   | _=>exact λ_=>rfl
 | true=>
  rw[hi]at h
  obtain⟨h2,h⟩:=A4 h
  obtain⟨h2,k6⟩:=AL h2
  obtain⟨h2,k5⟩:=AL h2
  obtain⟨h2,k4⟩:=AL h2
  obtain⟨h2,k3⟩:=AL h2
  obtain⟨ľ,k2⟩:=AL h2
  clear h2
  refine Expr.Call.elim (motive_1:=λi=>Dj (AU i).2.1=true->Dj (AU i).2.2.1=true->ix (AU i).1 20=true->((CO (AU i).1).2.1==("keys":Str))=true->FA (CO (AU i).1).1=true->aD0 (CO (AU i).1).2.2.endLine (AU i).2.2.2.line=true->
   (W.E (CO (AU i).1).1 σ λv σ=>Ab (CW σ v) λp=>Ab p.2.dct λes=>FO p.1 (.dict es) (D3 es) (λv σ K=>W.A t v σ λσ=>wL P S b σ K) σ Q)->ţ X (exec (.For t i b [] p) X.env) (Ax X G s.heap Q) s) i (aB4 hi) (λg as ks q ľ k2 k3 k4 k5 k6 h=>?_) ľ k2 k3 k4 k5 k6 h
  refine DM (P:=λas=>ţ X (exec (.For t (.Call g as ks q) b [] p) X.env) (Ax X G s.heap Q) s) ľ (DM (P:=λks=>ţ X (exec (.For t (.Call g [] ks q) b [] p) X.env) (Ax X G s.heap Q) s) k2 ?_)
  refine Expr.Attribute.elim (motive_1:=λg=>((CO g).2.1==("keys":Str))=true->FA (CO g).1=true->aD0 (CO g).2.2.endLine q.line=true->
   (W.E (CO g).1 σ λv σ=>Ab (CW σ v) λp=>Ab p.2.dct λes=>FO p.1 (.dict es) (D3 es) (λv σ K=>W.A t v σ λσ=>wL P S b σ K) σ Q)->ţ X (exec (.For t (.Call g [] [] q) b [] p) X.env) (Ax X G s.heap Q) s) g (aB4 k3) (λob at_ ap k4 k5 k6 h=>?_) k4 k5 k6 h
  rw[show at_=("keys":Str)from aF2 k4]
  refine bN7 ?_ (λ_=>rfl)
  refine wpAny_Call_method (T:="dict") (id:="dict.keys") (Bt k5 _ _) rfl (by rw[show ap.endLine=q.line from aB4 k6];exact bP3 _) aX7 PySem.F.slot_dict_keys PySem.F.type_dict_keys ?_
  refine(E.E ob σ _ h).go (c:=⟨G,σ,s⟩) R λv c₁ vv h₁ x₁ r₁=>AC h₁ λp e h₁=>AC h₁ λes e2 h₁=>?_
  obtain⟨q1,Ľ⟩:=Ca e r₁
  subst q1
  rw[AO.dct_eq e2]at Ľ
  refine ID.casesOn (x₁.R.obj _ _ Ľ).rel λkvs p1 p2=>?_
  obtain⟨es',k',ho'⟩:=Fn p1.1
  refine⟨p1.1.typeIs,λa e=>by cases e;exact⟨_,ho',rfl⟩,callWith_builtin rfl (PySem.evalArgs_none ?_)⟩
  refine bG5 PySem.F.slot_dict_keys p1.1.typeIs PySem.F.entry_dict_keys (PySem.F.args_dict_keys_1 _) (kdl_meets_keys (Af X.L.prog X.L.w) (c₁.G.μ p.1) p1.2) ⟨⟨kvs,p1.1⟩,?_⟩
  have x₂:=x₁.R.push {cls:=.type "dict_keys",data:=.fields #[.ref (c₁.G.μ p.1)]} c₁.s.toks
  have d₂:X.L.dct (c₁.s.heap.push {cls:=.type "dict_keys",data:=.fields #[.ref (c₁.G.μ p.1)]}) (c₁.G.μ p.1) kvs:=(Fe kvs).keep (λo e=>aB1 _ e) p1
  exact ţ.any (Ue (X:=X.lk (c₁.hp c₁.σ (c₁.s.heap.push {cls:=.type "dict_keys",data:=.fields #[.ref (c₁.G.μ p.1)]}) c₁.s.toks) p.1) (c:=(c₁.hp c₁.σ (c₁.s.heap.push {cls:=.type "dict_keys",data:=.fields #[.ref (c₁.G.μ p.1)]}) c₁.s.toks).lk p.1) F.A.1 Ű.put_at d₂ ⟨_,aC4 _ rfl,rfl,rfl⟩ (Tc p2) h₁ t (x₂.R.lk Ľ))
   λitv s₂ hit=>aK6 (Vn EA HA F x₂.R Ľ rfl hit) λr s' z=>z.elim λf z=>z.1▸z.2.lift (x₁.kp.trans x₂.kp)
theorem nU(s:aE7)(σ:St)(Q:ſ)(h:Rh P sc W S s σ Q):TS X (exec s X.env) σ Q:=by
 have E:=EA X F
 have H:=HA X F
 exact bK8 (motive_2:=λs=>Rh P sc W S s σ Q->TS X (exec s X.env) σ Q) s (λ_ _ _ _ _ _ _ _ _ _=>aA8) (λ_ _ _ _ _ _ _ _ _ _=>aA8) (λ_ _ _ _ _ _ _ _ _ _ _=>aA8) (λ_ _=>XK E) (λ_ _=>YE F E H) (λ_ _ _=>Iq F E) (λ_ _ _ _ _ _ _=>aA8) (λ_ _ _ _=>We F E) (λ_ _ _ _ _=>aA8) (λt i b o p h=>by
  have h:aH3 (Dp (!ix i 7) (Fk P sc W t i σ λitems σ=>Cc items (λv σ K=>W.A t v σ λσ=>wL P S b σ K) (wL P S o) σ Q)) (QJ W (λv σ K=>W.A t v σ λσ=>wL P S b σ K) i o σ Q) (P.lk p):=h
  cases hp:P.lk p with
  | false=>rw[hp]at h;exact Xr F E H h
  | true=>rw[hp]at h;exact Tf EA HA F h) (λ_ _ _ _ _=>aA8) (λt b o p h=>Te (λσ K x=>E.B t σ K x) (λσ K x=>Ju H b x) (λσ K x=>Ju H o x) h) (λ_ _ _ _=>eI F E H) (λ_ _ _=>aA8) (λ_ _ _=>aA8) (λ_ _ _=>aA8) (λ_ _ _=>aA8) (λ_ _ _ _ _=>aA8) (λ_ _ _ _ _=>aA8) (λ_ _ _=>aA8) (λ_ _=>aA8) (λ_ _ _ _=>aA8) (λ_ _=>aA8) (λ_ _=>aA8) (λ_ _=>VL F E) (λp h G s R=>wpAny_Pass (.to (c':=⟨G,σ,s⟩) (af:=.next) (.refl R) rfl h)) (λp h G s R=>wpAny_Break (.to (c':=⟨G,σ,s⟩) (af:=.brk) (.refl R) rfl h)) (λp h G s R=>wpAny_Continue (.to (c':=⟨G,σ,s⟩) (af:=.cont) (.refl R) rfl h)) h
end
def bU{P:Pm}{d:Nat}{fN st fM cm fI:aC1}{sc:Scope}(f:Nat) :∀X,Ek X P d fN st fM cm fI sc->IB X (EI P sc f):=
 aT3 (λ_ _ _ _ _=>aA8) (λf H X F=>nU (λX F=>snd F f) H F) f
def XS{X:Cx}{P:Pm}{d:Nat}{fN st fM cm fI:aC1}{sc:Scope}(F:Ek X P d fN st fM cm fI sc)(f:Nat):IB X (EI P sc f):=bU f X F
def Ig(ks:List Nat):AT->Option AT
 | .obj x=>(DZ x ks).map .obj
 | .dict x=>(DZ x ks).map .dict
 | p=>some p
def Ű.cut(G:Ű)(ks:List Nat):Ű:=⟨λa=>(G.tag a).bind (Ig ks),λi=>VO ks[i]? 0 G.μ,λi=>VO ks[i]? 0 G.δ⟩
def AO.froze:AO->Option AV
 | .list vs=>some (.lst vs)
 | .dict es=>some (.dct es)
 | .set ks=>some (.fset ks)
 | .inst ..=>none
 | .tab _=>none
section
variable{G:Ű}{ks:List Nat}{a:aC1}
def Gi(e:(G.cut ks).own a):G.own a:=λz=>e (bO6 (λo:Option AT=>o.bind (Ig ks)) z)
def Pj(e:(G.cut ks).mt a):G.mt a:=e.elim λp q=>by
 obtain⟨p',e1,e2⟩:=AF q.1
 exact⟨p',e1,λz=>q.2 (aA1 (z▸e2:Ig ks .lock=some p)).symm⟩
def FY{p p':AT}(e:G.tag a=some p)(e':Ig ks p=some p'):(G.cut ks).tag a=some p':=(bO6 (λo:Option AT=>o.bind (Ig ks)) e).trans e'
def Ty{y:Nat}(e:G.tag a=some (.obj y))(h :∀i:Nat,ks[i]?≠some y):¬ (G.cut ks).own a:=λz=>z ((bO6 (λo:Option AT=>o.bind (Ig ks)) e).trans (by
 show(DZ y ks).map AT.obj=none
 cases hp:DZ y ks with
 | none=>rfl
 | some j=>exact bO9 (DE hp) (h j)))
end
def SR{L:CU}{G G':Ű}{h:aF0}{n n' x:Nat}{o:AO}{w:AV}(k:Cj G h G' h)(e:o.froze=some w)(s:w.sub nn=some w)(q:C6 L G h n x o)(hx:¬ G'.own (G.μ x)):A8 L G' h n' w (.ref (G.μ x)):=by
 cases o with
 | list vs=>
  cases e
  obtain⟨us,e1,e2⟩:=map_some (show(AD nn vs).map (AV.seq .lst)=some (.seq .lst vs)from s)
  cases e2
  exact q.casesOn λb hp hr=>⟨_,b,rfl,hp,hx,hr.shut k e1⟩
 | dict vs=>
  cases e
  obtain⟨us,e1,e2⟩:=map_some (show(AI nn vs).map AV.dct=some (.dct vs)from s)
  cases e2
  exact q.casesOn λb hp hr=>⟨_,b,rfl,hp,hx,Ai.sub k (λx w e=>AA e) e1 hr⟩
 | set vs=>cases e;exact⟨_,(),rfl,q,hx,trivial⟩
 | inst C at_=>exact AA e
 | tab b=>exact AA e
def Ac.of{σ τ:St}(ks:List Nat)(g:Nat->Option AV)(u:GC ks)(ha:τ.anc=σ.anc)(hn:τ.n=ks.length)(hta :∀i,i<σ.anc->ks[i]?=some i)
  (hg :∀y w,g y=some w->(∃i:Nat,ks[i]?=some y/\w = .ref i)\/((∀i:Nat,ks[i]?≠some y)/\∃o,σ.H.lookup y=some o/\o.froze=some w/\w.sub nn=some w))
  (hρ :∀x v,τ.ρ.lookup x=some v->∃v₀,σ.ρ.lookup x=some v₀/\v₀.sub g=some v)
  (hH :∀i o,τ.H.lookup i=some o->∃y o₀,ks[i]?=some y/\σ.H.lookup y=some o₀/\o₀.sub g=some o):Ac σ τ:=λX G s R=>by
 have k:Cj G s.heap (G.cut ks) s.heap:=λa o e q=>⟨e,λz=>q (Gi z)⟩
 have mu :∀{i y:Nat},ks[i]?=some y->(G.cut ks).μ i=G.μ y/\(G.cut ks).δ i=G.δ y:=λe=>⟨C9 e 0 G.μ,C9 e 0 G.δ⟩
 have lt :∀{i y:Nat},ks[i]?=some y->i<τ.n:=λe=>hn▸(aA5.mp e).1
 have gg :∀x w,g x=some w->x<σ.n->A8 X.L (G.cut ks) s.heap τ.n w (.ref (G.μ x)):=λx w e hx=>(hg x w e).elim (λq=>q.elim λi q=>q.2▸⟨bO6 aN2 (mu q.1).1.symm,lt q.1⟩) λq=>q.2.elim λo p=>SR k p.2.1 p.2.2 (R.obj x o p.1).rel (Ty (R.obj x o p.1).tag q.1)
 have vv :∀{v₀ v u},v₀.sub g=some v->VR X ⟨G,σ,s⟩ v₀ u->VR X ⟨G.cut ks,τ,s⟩ v u:=λe q=>A8.sub k gg _ _ _ e q
 refine⟨G.cut ks,⟨λ_ _ e _=>e,λa e=>.inl (Gi e),λa e=>.inl (Pj e),aA9 _,λa e=>FY e rfl⟩,R.base,R.keep,R.size,λa e=>R.mutHs a (Pj e),λa e=>R.ownB a (Gi e),λa e=>R.ownLt a (Gi e),R.gens,R.os,?_,?_,R.celAll,FY R.tloc rfl,λx a e=>FY (R.tcel x a e) rfl,?_,?_,R.bsz⟩
 ·exact R.loc.casesOn λm hm r=>⟨m,hm,λx av e1 e2=>(hρ x av e1).elim λv₀ p=>(r x v₀ p.1 e2).imp λv q=>⟨q.1,vv p.2 q.2⟩⟩
 ·exact λx a e=>(R.cel x a e).casesOn λv hv r=>⟨v,hv,λav e1 e2=>(hρ x av e1).elim λv₀ p=>(r v₀ p.1 e2).imp λu q=>⟨q.1,vv p.2 q.2⟩⟩
 ·intro i o e
  obtain⟨y,o₀,e1,e2,e3⟩:=hH i o e
  have q:=R.obj y o₀ e2
  have pos:DZ y ks=some i:=Gd u e1
  exact⟨lt e1,(bO6 _ (mu e1).1).trans (FY q.tag (bO6 (aD8 AT.obj) pos)),C6.sub k gg (mu e1).1 (mu e1).2 (λ_ e=>e) (λz=>⟨λ_ e=>e,FY z (bO6 (aD8 AT.dict) pos)⟩) o₀ o e3 q.rel⟩
 ·refine⟨ha.symm▸R.anc.1,?_,λi hi=>?_⟩
  ·show τ.anc<=τ.n
   rw[ha]
   cases hz:σ.anc with
   | zero=>exact aC7 _
   | succ m=>exact lt (hta m (hz▸aC2 m))
  ·have q:=mu (hta i (aB3 hi R.anc.1))
   exact⟨q.1.trans (R.anc.2.2 i hi).1,q.2.trans (R.anc.2.2 i hi).2⟩
section
variable{g:Nat->Option AV}
def AK(a:AV) :∀a',a.sub nn=some a'->a.sub g=some a':=
 AV.rec (motive_1:=λa=>∀a',a.sub nn=some a'->a.sub g=some a') (motive_2:=λa=>∀a',AD nn a=some a'->AD g a=some a') (motive_3:=λa=>∀a',AI nn a=some a'->AI g a=some a') (motive_4:=λp=>∀a',Ea nn p=some a'->Ea g p=some a')
  (λ_=>id) (λ_ _=>id) (λ_ _=>id) (λkd vs ih a' e=>DJ (P:=λa'=>(AD g vs).map (AV.seq kd)=some a') e λb e=>bO6 (aD8 _) (ih b e)) (λ_ _=>AA) (λ_ _=>id) (λ_ _=>id)
  (λf x ih a' e=>DJ (P:=λa'=>(x.sub g).map (AV.bm f)=some a') e λb e=>bO6 (aD8 _) (ih b e)) (λes ih a' e=>DJ (P:=λa'=>(AI g es).map AV.dct=some a') e λb e=>bO6 (aD8 _) (ih b e)) (λ_ _=>id) (λ_=>id)
  (λ_=>id) (λa r ih1 ih2 a' e=>by
   obtain⟨b,e1,e⟩:=AF e
   obtain⟨c,e2,rfl⟩:=map_some e
   show(a.sub g).bind (λa=>(AD g r).map (a :: ·))=_
   rw[ih1 b e1,show AD g r=some c from ih2 c e2];rfl)
  (λ_=>id) (λa r ih1 ih2 a' e=>by
   obtain⟨b,e1,e⟩:=AF e
   obtain⟨c,e2,rfl⟩:=map_some e
   show(Ea g a).bind (λb=>(AI g r).map ((a.1,b) :: ·))=_
   rw[ih1 b e1,show AI g r=some c from ih2 c e2];rfl)
  (λk x ih a' e=>ih a' e) a
def DX{l:List AV} :∀{l':List AV},AD nn l=some l'->AD g l=some l':=
 aB5 (motive:=λl=>∀{l':List AV},AD nn l=some l'->AD g l=some l') (λ{_}=>id) (λa r ih l' e=>by
  obtain⟨b,e1,e⟩:=AF e
  obtain⟨c,e2,rfl⟩:=map_some e
  show(a.sub g).bind (λa=>(AD g r).map (a :: ·))=_
  rw[AK a b e1,show AD g r=some c from ih e2];rfl) l
def Jf{l:List (AB×AV)} :∀{l':List (AB×AV)},AI nn l=some l'->AI g l=some l':=
 aB5 (motive:=λl=>∀{l':List (AB×AV)},AI nn l=some l'->AI g l=some l') (λ{_}=>id) (λa r ih l' e=>by
  cases a with
  | mk k x=>
  obtain⟨b,e1,e⟩:=AF e
  obtain⟨c,e2,rfl⟩:=map_some e
  show(x.sub g).bind (λb=>(AI g r).map ((k,b) :: ·))=_
  rw[AK x b e1,show AI g r=some c from ih e2];rfl) l
def Er{l:List (Str×AV)} :∀{l':List (Str×AV)},AN nn l=some l'->AN g l=some l':=
 aB5 (motive:=λl=>∀{l':List (Str×AV)},AN nn l=some l'->AN g l=some l') (λ{_}=>id) (λa r ih l' e=>by
  obtain⟨b,e1,e⟩:=AF e
  obtain⟨c,e2,rfl⟩:=map_some e
  show(a.2.sub g).bind (λb=>(AN g r).map ((a.1,b) :: ·))=_
  rw[AK a.2 b e1,show AN g r=some c from ih e2];rfl) l
def N0{o o':AO}(s:o.sub nn=some o'):o.sub g=some o':=by
 cases o with
 | list vs=>exact DJ (P:=λo'=>(AD g vs).map AO.list=some o') s λb e=>bO6 (aD8 _) (DX e)
 | dict vs=>exact DJ (P:=λo'=>(AI g vs).map AO.dict=some o') s λb e=>bO6 (aD8 _) (Jf e)
 | inst C vs=>exact DJ (P:=λo'=>(AN g vs).map (AO.inst C)=some o') s λb e=>bO6 (aD8 _) (Er e)
 | set ks=>exact s
 | tab b=>exact s
end
def RX(l:List Nat):Bool:=aB5 true (λx r ih=>!hasN x r&&ih) l
def NF{l:List Nat}:RX l=true->GC l:=aB5 (motive:=λl=>RX l=true->GC l) (λ_ _ _ _=>AA) (λx r ih h i j y e1 e2=>by
 obtain⟨h1,h2⟩:=AL h
 have no :∀{i:Nat},r[i]?≠some x:=λ{i} e=>aN7 ((EU h1).symm.trans (Me e))
 cases i with
 | zero=>cases j with
  | zero=>rfl
  | succ j=>exact bO9 ((show r[j]?=some y from e2).trans (aA1 e1▸rfl)) no
 | succ i=>cases j with
  | zero=>exact bO9 ((show r[i]?=some y from e1).trans (aA1 e2▸rfl)) no
  | succ j=>exact bO6 aQ9 (ih h2 i j y e1 e2)) l
def Z2(n:Nat)(ks:List Nat):Bool:=aT3 true (λi ih=>aD5 false (λy=>aD0 y i) ks[i]?&&ih) n
def XH{n:Nat}{ks:List Nat}:Z2 n ks=true->∀i,i<n->ks[i]?=some i:=aT3 (motive:=λn=>Z2 n ks=true->∀i,i<n->ks[i]?=some i) (λ_ i h=>bO9 h (aE6 i)) (λn ih h i hi=>by
 obtain⟨h1,h2⟩:=AL h
 refine(bE1 (aJ3 hi)).elim (ih h2 i) λe=>?_
 subst e
 cases e:ks[i]? with
 | none=>rw[e]at h1;cases h1
 | some y=>rw[e]at h1;exact bO6 some (aB4 h1)) n
def d6(ks:List Nat)(fz:List (Nat×AV))(y:Nat):Option AV:=JA ((DZ y ks).map .ref) (fz.lookup y)
def QB(σ:St)(ks:List Nat)(fz:List (Nat×AV)):Prop:=∀y w,fz.lookup y=some w->DZ y ks=none/\∃o,σ.H.lookup y=some o/\o.froze=some w/\w.sub nn=some w
def lZ(σ:St)(g:Nat->Option AV)(l:List (Str×AV)):Prop:=∀x v,l.lookup x=some v->∃v₀,σ.ρ.lookup x=some v₀/\v₀.sub g=some v
def m9(σ:St)(ks:List Nat)(g:Nat->Option AV)(l:List (Nat×AO)):Prop:=∀i o,l.lookup i=some o->∃y o₀,ks[i]?=some y/\σ.H.lookup y=some o₀/\o₀.sub g=some o
def BY{α β:Type} [BEq α] [LawfulBEq α] {x y:α} {v w:β} {r:List (α×β)} {P:Prop} (e:((y,v)::r).lookup x=some w) (f:x=y->v=w->P) (g:r.lookup x=some w->P):P:=by
 rw[AS]at e
 cases h:x==y with
 | true=>exact f (aF2 h) (aA1 ((bO6 (λb=>bif b then some v else r.lookup x) h).symm.trans e))
 | false=>exact g ((bO6 (λb=>bif b then some v else r.lookup x) h).symm.trans e)
section
variable{σ:St}{ks:List Nat}{g:Nat->Option AV}
def Bc:QB σ ks []:=λ_ _=>AA
def Aq{y:Nat}{w:AV}{o:AO}{r:List (Nat×AV)}(h0:DZ y ks=none)(h1:σ.H.lookup y=some o)(h2:o.froze=some w)(h3:w.sub nn=some w)(q:QB σ ks r):QB σ ks ((y,w)::r):=λz v e=>BY e (λa b=>a▸b▸⟨h0,o,h1,h2,h3⟩) (q z v)
def Be:lZ σ g []:=λ_ _=>AA
def Bo{x:Str}{v₀ v:AV}{r:List (Str×AV)}(h1:σ.ρ.lookup x=some v₀)(h2:v₀.sub g=some v)(q:lZ σ g r):lZ σ g ((x,v)::r):=λz w e=>BY e (λa b=>a▸b▸⟨v₀,h1,h2⟩) (q z w)
def Bd:m9 σ ks g []:=λ_ _=>AA
def NP{i y:Nat}{o₀ o:AO}{r:List (Nat×AO)}(h0:ks[i]?=some y)(h1:σ.H.lookup y=some o₀)(h2:o₀.sub g=some o)(q:m9 σ ks g r):m9 σ ks g ((i,o)::r):=λz w e=>BY e (λa b=>a▸b▸⟨y,o₀,h0,h1,h2⟩) (q z w)
def Ac.re{τ:St}(ks:List Nat)(fz:List (Nat×AV))(u:RX ks=true)(t:Z2 σ.anc ks=true)(ha:τ.anc=σ.anc)(hn:τ.n=ks.length)(hf:QB σ ks fz)(hρ:lZ σ (d6 ks fz) τ.ρ)(hH:m9 σ ks (d6 ks fz) τ.H):Ac σ τ:=
 .of ks (d6 ks fz) (NF u) ha hn (XH t) (λy w e=>Dq e (λe=>(map_some e).elim λi q=>.inl ⟨i,DE q.1,q.2.symm⟩) λe=>.inr ⟨λi z=>AA ((hf y w e).1.symm.trans (Gd (NF u) z)),(hf y w e).2⟩) hρ hH
end
def Gz(os:List Ob):Nat->List (Nat×AO):=aB5 (λ_=>[]) (λo _ ih i=>(i,o.ao)::ih (i+1)) os
def Jb{os:List Ob} :∀{i x:Nat} {o:AO},(Gz os i).lookup x=some o->∃(j:Nat) (b:Ob),x=i+j/\os[j]?=some b/\o=b.ao:=
 aB5 (motive:=λos=>∀{i x:Nat} {o:AO},(Gz os i).lookup x=some o->∃(j:Nat) (b:Ob),x=i+j/\os[j]?=some b/\o=b.ao) AA (λb r ih i x o e=>BY e (λa c=>⟨0,b,a,rfl,c.symm⟩) λe=>(ih e).elim λj q=>q.elim λb q=>⟨j+1,b,q.1.trans (aW4 i 1 j),q.2⟩) os
def A7(ρ:List (Str×AV))(os:List Ob):St:=⟨ρ,Gz os 0,os.length,os.length⟩
def Gw(fl:Bn)(r:AV):Prop:=Bn.rec (r = .none) False False (λa=>r=a) fl
structure tJ(k:Nat)(Q:AV->List Ob->Prop)(τ:St)(r:AV)(os:List Ob):Prop where
 shut:r.sub nn=some r
 len:os.length=k
 shuts:C1 os
 objs :∀(i:Nat) (o:Ob),os[i]?=some o->τ.H.lookup i=some o.ao
 q:Q r os
def AG(k:Nat)(Q:AV->List Ob->Prop)(fl:Bn)(σ:St):Prop:=∃r τ os,Gw fl r/\Ac σ τ/\tJ k Q τ r os
noncomputable def Np(f:bJ9):Value:=match f with
 | .ret v=>v
 | _=>.none
def Kt{X:Cx}{c:Ž}{af:Bn}{f:bJ9}{r:AV}(a:Qc X c af f)(b:Gw af r):VR X c r (Np f):=by
 cases af with
 | next=>rw[show f = .next from a,show r = .none from b];exact rfl
 | ret v=>exact a.elim λu q=>by rw[q.1,show r=v from b];exact q.2
 | brk=>exact b.elim
 | cont=>exact b.elim
def gF(G:Ű)(k:Nat):Prop:=∀a p,G.tag a=some p->p = .lock\/∃i,i<k/\((p = .obj i/\a=G.μ i)\/(p = .dict i/\a=G.δ i))
def R4{X:Cx}{S:ĥ}{P:Pm}{body:List aE7}{G G₀:Ű}{s s₁:aA7}{os:List Ob}{ρ:List (Str×AV)}{Q:AV->List Ob->Prop}(H:IB X S)(hs:X.hs=s.heap)(hG:X.aG=G)(hn:X.an=os.length)(hg:X.gens=s.gens)(ho:X.os=s.os)(nt:gF G os.length)
  (D:Kf G X.h₀ s) (T :∀(i:Nat) (o:Ob),os[i]?=some o->G.tag (G.δ i)=some (.dict i)) (lk :∀a,G.tag a=some .lock->G₀.tag a=some .lock) (R₀:ŵ X ⟨G₀,A7 ρ os,s₁⟩) (h:wL P S body (A7 ρ os) (AG os.length Q)) :
  ţ X (execs body X.env) (λfl s'=>V0 X.L G os.length s Q (Np fl) s') s₁:=
 (Ju H body h G₀ s₁ R₀).mono λfl s' p=>by
  cases p with
  | mk G' σ' af k R' fr q=>
  obtain⟨r,τ,os',hf,hw,L⟩:=q
  obtain⟨G'',k2,R⟩:=hw X G' s' R'
  have hv:=Kt fr hf
  have an :∀i,i<os.length->G''.μ i=G.μ i/\G''.δ i=G.δ i:=λi hi=>hG▸R.anc.2.2 i (hn▸hi)
  have ob :∀{i:Nat},i<os.length->∃o:Ob,os'[i]?=some o/\Fw X ⟨G'',τ,s'⟩ i o.ao:=λ{i} hi=>⟨os'[i]'(L.len▸hi),aA6 _,R.obj i _ (L.objs i _ (aA6 _))⟩
  have own2 :∀a,G.own a->G''.own a:=λa ha=>by
   cases e:G.tag a with
   | none=>exact bO9 e ha
   | some p=>
    exact(nt a p e).elim (λz=>A3 (k2.lock a (k.lock a (lk a (z▸e))))) λz=>z.elim λi z=>
     have hi:=z.1
     (ob hi).elim λo q=>z.2.elim (λz=>z.2.trans (an i hi).1.symm▸A3 q.2.tag) λz=>z.2.trans (an i hi).2.symm▸q.2.rel.casesOn λ_ _ _ _ _ ht=>A3 ht
  have st:Cj G'' s'.heap G s'.heap:=λa o e q=>⟨e,λz=>q (own2 a z)⟩
  exact⟨r,os',L.q,L.shut,L.len,L.shuts,λb o e q=>R.keep b o (hs▸e) (hG▸q),hs▸R.size,R.gens.trans hg,R.os.trans ho,λi o e=>
   have hi:i<os.length:=L.len▸(aA5.mp e).1
   C6.sub st (λx w e=>AA e) (an i hi).1.symm (an i hi).2.symm (λ_ e=>e) (λ_=>⟨λ_ e=>e,(an i hi).2.symm▸T i _ (aA6 hi)⟩) o.ao o.ao ((bO6 (aD8 (AO.inst o.1)) (L.shuts i o e)).trans rfl) (R.obj i _ (L.objs i o e)).rel,(A8.shut (n':=0) k2.still L.shut hv).shut st L.shut⟩
open Classical in
def Ű.neat(G:Ű)(k:Nat):Ű:=⟨λa=>(G.tag a).map λp=>if∃i,i<k/\((p = .obj i/\a=G.μ i)\/(p = .dict i/\a=G.δ i))then p else .lock,G.μ,G.δ⟩
section
variable{G:Ű}{k:Nat}{a:aC1}{L:CU}{h:aF0}{i:Nat}{o:Ob}
def DC:(G.neat k).own a↔G.own a:=by
 show(G.tag a).map _≠none↔G.tag a≠none
 cases G.tag a with
 | none=>exact Iff.rfl
 | some p=>exact⟨λ_ z=>(nomatch z),λ_ z=>nomatch z⟩
def Gv:Cj G h (G.neat k) h:=λa o e q=>⟨e,λz=>q (DC.mp z)⟩
def HE:Cj (G.neat k) h G h:=λa o e q=>⟨e,λz=>q (DC.mpr z)⟩
def Kj{p:AT}(e:(G.neat k).tag a=some p):p = .lock\/(G.tag a=some p/\∃i,i<k/\((p = .obj i/\a=G.μ i)\/(p = .dict i/\a=G.δ i))):=by
 obtain⟨q,e1,e2⟩:=map_some e
 by_cases hc :∃i,i<k/\((q = .obj i/\a=G.μ i)\/(q = .dict i/\a=G.δ i))
 ·rw[bO7 hc]at e2;exact .inr (e2▸⟨e1,hc⟩)
 ·rw[bO8 hc]at e2;exact .inl e2.symm
def VN:gF (G.neat k) k:=λa p e=>(Kj e).imp id λq=>q.2
def Un(e:(G.neat k).mt a):G.mt a:=e.elim λp q=>(Kj q.1).elim (λz=>bO9 z q.2) λz=>⟨p,z.1,q.2⟩
def NU{p:AT}(e:G.tag a=some p)(q :∃i,i<k/\((p = .obj i/\a=G.μ i)\/(p = .dict i/\a=G.δ i))):(G.neat k).tag a=some p:=(bO6 (aD8 _) e).trans (bO6 some (bO7 q))
def HY(g:LV L G h k i o)(hi:i<k)(s:AN nn o.2=some o.2):LV L (G.neat k) h k i o:=
 ⟨NU g.tag ⟨i,hi,.inl ⟨rfl,rfl⟩⟩,C6.sub Gv (λ_ _ e=>AA e) rfl rfl (λ_=>id) (λt=>⟨λ_=>id,NU t ⟨i,hi,.inr ⟨rfl,rfl⟩⟩⟩) o.ao o.ao (bO6 (aD8 (AO.inst o.1)) s) g.rel⟩
def H4(g:LV L G h k i o):G.tag (G.δ i)=some (.dict i):=g.rel.casesOn λ_ _ _ _ _ ht=>ht
def PD{s s':aA7}{Q:AV->List Ob->Prop}{v:Value}(t :∀i,i<k->G.tag (G.δ i)=some (.dict i))(b:V0 L (G.neat k) k s Q v s'):V0 L G k s Q v s':=
 b.casesOn λr os' q sh len shs keep size gens os objs rel=>⟨r,os',q,sh,len,shs,λb o e z=>keep b o e λy=>z (Un y),size,gens,os,
  λi o e=>C6.sub HE (λ_ _ e=>AA e) rfl rfl (λ_=>id) (λ_=>⟨λ_=>id,t i (len▸(aA5.mp e).1)⟩) o.ao o.ao (bO6 (aD8 (AO.inst o.1)) (shs i o e)) (objs i o e),rel.shut HE sh⟩
end
section
variable{k:Str->Option aP8}{L:CU}{G:Ű}{h:aF0}{n:Nat}
def Ls{ps:List Str} :∀{vs:List Value} {m:Str->Option Value} {x:Str},x∉ps->bindL k (ps.zip vs) m x=m x:=
 aB5 (motive:=λps=>∀{vs:List Value} {m:Str->Option Value} {x:Str},x∉ps->bindL k (ps.zip vs) m x=m x) (λ{vs m x} _=>rfl) (λp r ih vs m x hx=>by
  cases vs with
  | nil=>rfl
  | cons v vs=>
   refine(ih λz=>hx (aC9 _ z)).trans ?_
   exact JI (P:=λf:Str->Option Value=>f x=m x) (bO8 λz:x=p=>hx (z.symm▸aC6 ..)) rfl) ps
def Lm{ps:List Str} :∀{vs:List Value} {m:Str->Option Value} {x:Str},x∉ps->bindC k (ps.zip vs) m x=m x:=
 aB5 (motive:=λps=>∀{vs:List Value} {m:Str->Option Value} {x:Str},x∉ps->bindC k (ps.zip vs) m x=m x) (λ{vs m x} _=>rfl) (λp r ih vs m x hx=>by
  cases vs with
  | nil=>rfl
  | cons v vs=>
   refine(ih λz=>hx (aC9 _ z)).trans ?_
   exact JI (P:=λf:Str->Option Value=>f x=m x) rfl (bO8 λz:x=p=>hx (z.symm▸aC6 ..))) ps
def LT{ps:List Str} :∀{as:List AV} {vs:List Value} {m:Str->Option Value} {x:Str} {a:AV},ps.Nodup->A2 L G h n as vs->(ps.zip as).lookup x=some a->k x=some .local->∃v,bindL k (ps.zip vs) m x=some v/\A8 L G h n a v:=
 aB5 (motive:=λps=>∀{as:List AV} {vs:List Value} {m:Str->Option Value} {x:Str} {a:AV},ps.Nodup->A2 L G h n as vs->(ps.zip as).lookup x=some a->k x=some .local->∃v,bindL k (ps.zip vs) m x=some v/\A8 L G h n a v) (λ_ _ e=>AA e) (λp r ih as vs m x a hn q e hk=>by
  cases as with
  | nil=>exact AA e
  | cons b as=>
   obtain⟨v,us,rfl,q1,Ľ⟩:=q
   have hn:=aW3.mp hn
   exact BY e (λz y=>by
    subst z;subst y
    refine⟨v,?_,q1⟩
    show bindL k (r.zip us) (if k x=some .local then _ else _) x=some v
    rw[bO7 hk,Ls hn.1]
    exact bO7 rfl) λe=>ih hn.2 Ľ e hk) ps
def K5{ps:List Str} :∀{as:List AV} {vs:List Value} {m:Str->Option Value} {x:Str} {a:AV},ps.Nodup->A2 L G h n as vs->(ps.zip as).lookup x=some a->k x≠some .local->∃v,bindC k (ps.zip vs) m x=some v/\A8 L G h n a v:=
 aB5 (motive:=λps=>∀{as:List AV} {vs:List Value} {m:Str->Option Value} {x:Str} {a:AV},ps.Nodup->A2 L G h n as vs->(ps.zip as).lookup x=some a->k x≠some .local->∃v,bindC k (ps.zip vs) m x=some v/\A8 L G h n a v) (λ_ _ e=>AA e) (λp r ih as vs m x a hn q e hk=>by
  cases as with
  | nil=>exact AA e
  | cons b as=>
   obtain⟨v,us,rfl,q1,Ľ⟩:=q
   have hn:=aW3.mp hn
   exact BY e (λz y=>by
    subst z;subst y
    refine⟨v,?_,q1⟩
    show bindC k (r.zip us) (if k x=some .local then _ else _) x=some v
    rw[bO8 hk,Lm hn.1]
    exact bO7 rfl) λe=>ih hn.2 Ľ e hk) ps
def C2{x:Str}{names:List (Str×aP8)} :∀{n:Nat} {acc:List (Str×aC1)},((x,aT0)∈names\/acc.lookup x≠none)->(cellsFrom n names acc).lookup x≠none:=
 aB5 (motive:=λnames=>∀{n:Nat} {acc:List (Str×aC1)},((x,aT0)∈names\/acc.lookup x≠none)->(cellsFrom n names acc).lookup x≠none) (λ{n acc} h=>h.elim (λz=>nomatch z) id) (λp r ih n acc h=>by
  show(if(p.2==aT0)=true then cellsFrom (n+1) r ((p.1,n)::acc)else cellsFrom n r acc).lookup x≠none
  by_cases hk:(p.2==aT0)=true
  ·rw[bO7 hk]
   refine ih (h.elim (λz=>(aD7.mp z).elim (λe=>.inr ?_) .inl) λz=>.inr ?_)
   ·rw[<-e];exact λz=>nomatch List.lookup_cons_self.symm.trans z
   ·intro y
    rw[AS]at y
    cases hx:x==p.1 with
    | true=>rw[hx]at y;cases y
    | false=>rw[hx]at y;exact z y
  ·rw[bO8 hk]
   exact ih (h.elim (λz=>(aD7.mp z).elim (λe=>bO9 (e▸rfl) hk) .inl) .inr)) names
end
structure VJ(h₀:aF0)(fa:aC1)(fd:aS6)(body:List aE7)(ps:List Str)(dvs:List Value):Prop where
 obj :∃o,h₀.get? fa=some o/\o.data = .func fd
 lim:h₀.NoLimit
 cod:h₀.CodeRec fd.code fd.qualname
 bod:fd.body = .stmts body
 clo:fd.closure=[]
 nofree :∀x∈fd.scope.names,x.2≠.free
 co:fd.scope.isCoroutine=false
 gen:fd.scope.isGenerator=false
 kind:fd.scope.kind = .function
 nodup:ps.Nodup
 loc :∀x∈ps,fd.scope.names.lookup x=some .local\/fd.scope.names.lookup x=some .cell
 bind :∀(s:aA7) (vas:List Value),(∀b o,h₀.get? b=some o->s.heap.get? b=some o)->vas.length+dvs.length=ps.length->bB4 s fd ⟨vas,[]⟩ (ps.zip (vas++dvs))
open Classical in
def Ű.frame(G:Ű)(env:Env):Ű:=⟨λa=>if a=env.locals then some .loc else if h :∃n,env.cells.lookup n=some a then some (.cell h.choose)else G.tag a,G.μ,G.δ⟩
section
variable{G:Ű}{env:Env}{n:Nat}{a:aC1}{p:AT}
def Dw(e:(G.frame env).tag a=some p):(a=env.locals/\p = .loc)\/(∃y,env.cells.lookup y=some a/\p = .cell y)\/G.tag a=some p:=by
 unfold Ű.frame at e
 dsimp only at e
 split at e
 ·exact .inl ⟨‹_›,(aA1 e).symm⟩
 ·split at e
  ·rename_i h;exact .inr (.inl ⟨_,h.choose_spec,(aA1 e).symm⟩)
  ·exact .inr (.inr e)
def H6(hl :∀b,G.own b->b<env.locals)(hc :∀y c,env.cells.lookup y=some c->env.locals<c)(e:G.tag a=some p):(G.frame env).tag a=some p:=by
 have lt:=hl a (A3 e)
 exact(bO8 (aE5 lt)).trans ((dif_neg λh=>Nat.lt_asymm lt (hc _ _ h.choose_spec)).trans e)
def Hw(ha:env.cells.Pairwise λx y=>x.2≠y.2)(hc :∀y c,env.cells.lookup y=some c->env.locals<c){y:Str}(e:env.cells.lookup y=some a):(G.frame env).tag a=some (.cell y):=
 have ex :∃n,env.cells.lookup n=some a:=⟨y,e⟩
 (bO8 (aJ6 (hc y a e))).trans ((dif_pos ex).trans (bO6 (λn=>some (AT.cell n)) (name_of_addr ha (mem_of_lookup ex.choose_spec) (mem_of_lookup e))))
end
def Ke{L:CU}{h₀:aF0}{d:Nat}{fa:aC1}{fd:aS6}{body:List aE7}{ps:List Str}{es:List AV}{dvs:List Value}{P:Pm}{S:ĥ}{tr:Ŕ}(K:VJ h₀ fa fd body ps dvs)(hdv :∀{L:CU} {G:Ű} {h:aF0} {n:Nat},A2 L G h n es dvs)
  (hP :∀X:Cx,X.L=L->X.h₀=h₀->CY d X.A->X.env.globals=fd.globals->X.env.builtins=fd.builtins->X.env.scope=fd.scope->IB X S)
  (h :∀as os Q,tr as os Q->(as.length+es.length=ps.length/\C1 os)/\wL P S body (A7 (ps.zip (as++es)) os) (AG os.length Q)):BP L h₀ (d+1) (.ref fa) tr:=λ{A s G as os Q vas} hA D hO hV ht=>by
 obtain⟨o,ho,hdata⟩:=K.obj
 have hos:=D.base _ _ ho
 refine⟨λQ' E' hq=>?_,?_⟩
 ·unfold bD8
  refine aA2 (aQ7 hos ?_)
  rw[hdata]
  exact aA4 (hq _)
 obtain⟨⟨hl,hsh⟩,hw⟩:=h as os Q ht
 have hvl:vas.length+dvs.length=ps.length:=hV.len.symm▸(A2.len (hdv (L:=L) (G:=G) (h:=s.heap) (n:=0))).symm▸hl
 refine codeAny_call_function (aD1 (aE1 _ _) hA.2.1) hos hdata K.co K.gen K.bod (K.cod.keeps D.base) (K.bind s vas D.base hvl _ _ _ _ ?_)
 rw[K.clo]
 refine wpAny_newFunctionEnv_cells K.kind (λx hx=>(K.loc _ (List.of_mem_zip hx).1).imp id λz=>⟨z,Option.isSome_iff_ne_none.mpr (C2 (.inl (mem_of_lookup z)))⟩) λenv hE s₁ x=>⟨(K.lim.keeps D.base).keeps x.toInCall.keep,codeAny_func ?_⟩
 have e1:env.locals=s.heap.objs.size:=hE▸rfl
 have e2:env.cells=cellsFrom (s.heap.objs.size+1) fd.scope.names []:=hE▸rfl
 have e3:env.scope=fd.scope:=hE▸rfl
 have e4:env.globals=fd.globals:=hE▸rfl
 have e5:env.builtins=fd.builtins:=hE▸rfl
 clear hE
 obtain⟨⟨⟨h₁,tk,hs₁⟩,hns,hkeep,_⟩,hcell,hapart,habove⟩:=x
 have hab :∀y c,env.cells.lookup y=some c->env.locals<c:=λy c e=>habove y c (mem_of_lookup e)
 have lo :∀b,(G.neat os.length).own b->b<env.locals:=λb e=>e1▸D.lt b (DC.mp e)
 have told :∀{a p},(G.neat os.length).tag a=some p->((G.neat os.length).frame env).tag a=some p:=H6 lo hab
 have sz:s.heap.objs.size<=s₁.heap.objs.size:=e1▸aE4 hns.lt
 have pc :∀{a p},((G.neat os.length).frame env).tag a=some p->s.heap.objs.size<=a\/(G.neat os.length).tag a=some p:=λ{a p} e=>(Dw e).elim (λz=>.inl (aB7 (z.1.trans e1).symm)) λz=>z.elim (λz=>z.elim λy z=>.inl (e1▸aE4 (hab y a z.1))) .inr
 have oc :∀{a},((G.neat os.length).frame env).own a->s.heap.objs.size<=a\/(G.neat os.length).own a:=λ{a} e=>by
  cases t:((G.neat os.length).frame env).tag a with
  | none=>exact bO9 t e
  | some p=>exact(pc t).imp id A3
 let X:Cx:=⟨L,A.deeper env,env,s.heap,h₀,G.neat os.length,os.length,s.gens,s.os⟩
 have p:Dy ⟨G.neat os.length,A7 (ps.zip (as++es)) os,s⟩ ⟨(G.neat os.length).frame env,A7 (ps.zip (as++es)) os,s₁⟩:=⟨λa o e q=>⟨hkeep a o e,λz=>(oc z).elim (Ce e) q⟩,λ_ _=>⟨rfl,rfl⟩,aA9 _⟩
 have hV':Ŧ X ⟨(G.neat os.length).frame env,A7 (ps.zip (as++es)) os,s₁⟩ (as++es) (vas++dvs):=p.va (X:=X) (A2.append (A2.sub Gv (λy w e hy=>by cases e;exact⟨rfl,hy⟩) (Dh as) hV) hdv)
 have R₀:ŵ X ⟨(G.neat os.length).frame env,A7 (ps.zip (as++es)) os,s₁⟩:={
  base:=λb o e=>hkeep _ _ (D.base b o e)
  keep:=λb o e _=>hkeep _ _ e
  size:=sz
  mutHs:=λa e=>e.elim λq e=>(pc e.1).elim .inr λz=>.inl ⟨q,z,e.2⟩
  ownB:=λa e=>(oc e).elim (λw=>aQ5 (aA3 D.size w)) λz=>D.lo a (DC.mp z)
  ownLt:=λa e=>by
   cases t:((G.neat os.length).frame env).tag a with
   | none=>exact bO9 t e
   | some p=>exact(Dw t).elim (λz=>z.1▸hns.lt) λz=>z.elim (λz=>z.elim λy z=>(hcell y a z.1).lt) λz=>aB3 (D.lt a (DC.mp (A3 z))) sz
  gens:=by rw[hs₁]
  os:=by rw[hs₁]
  loc:=⟨_,hns,λx av q1 Ľ=>LT K.nodup hV' q1 Ľ⟩
  cel:=λx c e=>⟨_,hcell x c e,λav q1 Ľ=>(K5 K.nodup hV' q1 Ľ).imp λv q=>q⟩
  celAll:=λx q1 Ľ=>q1.elim (λz=>C2 (.inl (mem_of_lookup (e3▸z:fd.scope.names.lookup x=_))) (e2▸Ľ)) λz=>K.nofree _ (mem_of_lookup (e3▸z:fd.scope.names.lookup x=_)) rfl
  tloc:=bO7 rfl
  tcel:=λx c e=>Hw hapart hab e
  obj:=λx o e=>by
   obtain⟨j,b,z,q1,rfl⟩:=Jb e
   obtain rfl:x=j:=z.trans (aF3 j)
   have hx:=(aA5.mp q1).1
   have g:=HY (hO x b q1) hx (hsh x b q1)
   exact p.obj (X:=X) (told g.tag) (hkeep _) (λt=>⟨hkeep _,told t⟩) ⟨hx,g.tag,g.rel⟩
  anc:=⟨aA9 _,aA9 _,λ_ _=>⟨rfl,rfl⟩⟩
  bsz:=aA3 D.size sz}
 have H:=hP X rfl rfl ⟨hA.1,by have:=hA.2.1;show A.depth+1+d<_;exact id (ql [_,_,_] 0x21180aa12181a0a18 (by rfl') this),by have:=hA.2.2;show A.units+3+10*d+40<_;exact id (ql [_,_,_] 0x2000028910ac380aaa120000289181a0ac0aa18 (by rfl') this)⟩ e4 e5 e3
 have T :∀(i:Nat) (o:Ob),os[i]?=some o->G.tag (G.δ i)=some (.dict i):=λi o e=>H4 (hO i o e)
 refine aP5 (R4 (G:=G.neat os.length) (s:=s) H rfl rfl rfl rfl rfl VN ⟨λa e=>D.lo a (DC.mp e),λa e=>D.lt a (DC.mp e),D.base,D.size⟩ (λi o e=>H4 (HY (hO i o e) (aA5.mp e).1 (hsh i o e))) (λa e=>told e) R₀ hw) (λfl s' b=>?_) λ_ _ x=>x.elim
 exact⟨_,rfl,PD (λi hi=>T i _ (aA6 hi)) b⟩
def T1{L:CU}{h₀:aF0}{d:Nat}{fa:aC1}{fd:aS6}{body:List aE7}{ps:List Str}{P:Pm}{S:ĥ}{tr:Ŕ}(K:VJ h₀ fa fd body ps [])
  (hP :∀X:Cx,X.L=L->X.h₀=h₀->CY d X.A->X.env.globals=fd.globals->X.env.builtins=fd.builtins->X.env.scope=fd.scope->IB X S)
  (h :∀as os Q,tr as os Q->(as.length=ps.length/\C1 os)/\wL P S body (A7 (ps.zip as) os) (AG os.length Q)):BP L h₀ (d+1) (.ref fa) tr:=
 Ke (es:=[]) K (λ{_ _ _ _}=>rfl) hP λas os Q ht=>have q:=h as os Q ht;⟨q.1,Eq.mpr (bO6 (λl=>wL P S body (A7 (ps.zip l) os) (AG os.length Q)) (aF8 as)) q.2⟩
end Mine
end
section
open PySem PySem.W PyProof.Rows
namespace Mine
noncomputable abbrev pw:aG3:=aH1
noncomputable def FP:Option aE7->aG0×List aE7×Scope
 | some (.FunctionDef _ a b _ _ _ sc _ _ _)=>(a,b,sc)
 | _=>(⟨[],[],none,[],[],none,[]⟩,[],⟨.module,[],false,false,[]⟩)
noncomputable def Vt(b:List aE7):Str:=(docOf b).getD ⟨#[]⟩
def Oa(q:aG0×List aE7×Scope):Str:=Vt q.2.1
noncomputable def ů(n:Nat):List Nat:=aT3 (λ_=>[]) (λ_ r n=>cond (aD0 n 0) [] (n%128::r (n / 128))) 64 n
def st(n:Nat):Str:=⟨(ů n).toArray⟩
def z0:=st 0xbf7f2edc3bafdf
def Š:=st 0xe7bb4f4d9a7ae2
def z2:=st 0x17efe3df92fdf
def ĳ:=st 0x17efe5cf875e3c3c2fdf
def z4:=st 0x2fdfe597261dfb2fdf
def Ĩ:=st 0xbf7f1e5e1cefdf
def ğ:=st 0x39f3c3b31e2ebcf9e9
def Ă:=st 0x1bb2ec
def ê:=st 0x1e30ed
def è:=st 0x1bb4ed
def Ô:=st 0x1b7af3
def é:=st 0x1937e8e9976f3e787663
def ć:=st 0x65e987965dbd7765
def zU:=st 0xe9cf4ec
def yN:=st 0x1c30ed
def zB:=st 0x65cfbb0f2
def Ê:=st 0x1d32f3
def yY:=st 0x65d9c3af4
def yR:=st 0xcbc3cf4
def Ĕ:=st 0x396fe5ca2e5e9d7169e5d3a41
def t8:=st 0x72dfcb945cbc3cd4
def Zs:=st 0xbf7f769c3b6fdf
def gS:=st 0x17eff3ddbf4f4c3d37eedd86fdf
def tV:=st 0xbf7f9eed3d3669eb8afdf
def n0:=st 0xbf7f2ecd39afdf
def Bk:=st 0x79e0bba75c6bf6e9c3b31af
def pZ:=st 0x2fdfc997463c38efdf
def lH:=st 0x7d97675c9bf6bc
def LO:=st 0x35617dcb560c36e4bfdf0ec
def L2:=st 0x6cd987bdf
def J8:=st 0xe597a74cb9f2ece1d7a5f
def JU:=st 0x68c7d30cd
def K6:=st 0xdfa7a61e57f2f4c3b3ae3d9871df
def Jo:=st 0x1cb2e8c7d30cdcb8f765ebc72d3
def LW:=st 0x3961cbb31dfef8765f
def KT:=st 0x64cb9725fef8765f
def K3:=st 0x1cf5e3dfb315fef8765f
def LH:=st 0x1df7ecd9bf35fef8765f
def KW:=st 0x39e4ddbf15fef8765f
def LR:=st 0x1df0ec
def T4:=st 0x6b
def L8:=st 0x2fdfcbb3ae4dfb6fdf
def Bs:=st 0x3169d99b369c8b99b167e7863
def VE:=st 0xbf7f2edc3bb661ebc6fdf
def Om:=st 0x17efefdd97769d9d39f2d39afdf
def Hv:=st 0xbf7fa69dda6fdf
def Oc:=st 0x17eff4cb9efdf
def O5:=st 0x17eff4cbcefdf
def Oy:=st 0x2fdfcbd32eccb92fdf
def OV:=st 0x5fbfcf2f4eb8b4f2e9d30dfc7a7a61e9cefdf
def Cv:=st 0xcdb32f3
def Ji:=st 0x78cb93769
def Si:=st 0x18f7e4
def ZP:=st 0x5fbfd34eed37efaee597a74cb9f2ece1d7a5f
def VV:=st 0x1ab16f
def j3:=st 0x197879e9ab16f
def WU:=st 0xbf7fa65cf7efaee597a74cb9f2ece1d7a5f
def jA:=st 0x65ebb30f6
def XO:=st 0xbf7fa65e77efaee597a74cb9f2ece1d7a5f
def Xj:=st 0x17efe5e997665c97efaee597a74cb9f2ece1d7a5f
def UW:=st 0xbf7fa63d392fdf
def VX:=st 0x17efe6cbcb5e1cbdefdf
def Wy:=st 0x5fbfcfa6fd9cefdf
def Xl:=st 0x1cf26ccba735f
def ZE:=st 0x1cfa6ceb87365c97f26ccba735f
def PL:=st 0x17eff7cbbafdf
def L7:=st 0x65d7876df
def PZ:=st 0xcb8f0ece19795f
def YB:=st 0x17efe5c787670cbcafdf
def PN:=st 0xbf7f970cbcafdf
def OJ:=st 0x1d31e9c9cf0df
def OC:=st 0x2fdfe79f961ef97774cb9efdf
def Yy:=st 0x2fdfe79f961bfa31f4c3b6fdf
def Gu:=st 0x61
def G2:=st 0x62
def P0:=st 0xcbeb4f3
def n6:=st 0x5fbfb3665c7cf9e1d98efdf
def bV:=st 0xe7b31df
def Xx:=st 0x5fbfdf2eebf7d768c7d30cd
def jQ:=st 0x1cf663
def lS:=st 0xcbb3161e597a69
def Wo:=st 0x3a6cebcf2f2
def Uj:=st 0x1975e1db7d768c7d30cd
def Xz:=st 0x5fbfcf9e1d98efdf
def jH:=st 0xe793beb
def WQ:=st 0x32e3c3b3865e57d768c7d30cd
def Xa:=st 0x2fdfe5c32f2bf7d768c7d30cd
def Xd:=st 0x74c7a7273c37d768c7d30cd
def Wv:=st 0xbf7f9e7e587be5ddd32e7bf7d768c7d30cd
def XB:=st 0x6083965c5b7aee4193665d399072df99073c3a7641
def ZA:=st 0x6283965c5b7aee4193665d399072df99073c3a7641
def XM:=st 0x6483965c5b7aee4193665d399072df99073c3a7641
def Z0:=st 0x1cf2e8c7d30ed
def iC:=st 0x3474cfbb2ec
def OD:=st 0xe7c72f3bfd32f3
def PF:=st 0x63c72f3bfd32f3
def PS:=st 0x65c72f3bfd32f3
def Z9:=st 0x62bfbb4e1d18efdfe597463e9866e5c7bb2f5e3969df
def O0:=st 0x3463e9876dfe9cf2e7ddbf65fc9bb4e6
def OU:=st 0x1cf5e3dfb315fcfbb4e8c7d30edbfd32e7
def Og:=st 0x1cf2e4df8f86fbfd32e7
def OH:=st 0x1cf2e4df8f86fbf932f0ebbf967bfd32e7
def Ot:=st 0x6fd3d30f2
def O8:=st 0x1bf4f4c3cafebc7a7af1
def OW:=st 0xdfa7a61e57f5e3d3d78dfd9872f2
def WO:=st 0x0
def TC:=st 0x35eeebab9e9
def YV:=st 0xd7bbaeadfd3ae1
def YI:=st 0xbf7fa69dda6fdf5dcb2e8c7d30cdcb8f765ebc72d3
def XZ:=st 0xe7c72f3bfd32f35dcb2e8c7d30cdcb8f765ebc72d3
def XE:=st 0x63c72f3bfd32f35dcb2e8c7d30cdcb8f765ebc72d3
def YW:=st 0x65c72f3bfd32f35dcb2e8c7d30cdcb8f765ebc72d3
def T5:=st 0x1a9962
def UJ:=st 0x69
def kE:=st 0x1d3665
def gJ:=st 0x1cf2e3d393769
def Zu:=st 0xd7bbaea
def Zq:=st 0x1cb0ecebc37f0
def ZN:=st 0x6e
def cJ:=st 0x74e797a6e
def cC:=st 0xe7e3269
def T6:=st 0x62bfbb4e1d18efdf
def WW:=st 0x62bfbb4e1d18efdf5dcb2e8c7d30cdcb8f765ebc72d3
def ZR:=st 0x1bf661
def X1:=st 0x1a7461
def XC:=st 0x1bf662
def Y0:=st 0x1a7462
def bX:=st 0x1af775d58b9e9
def kS:=st 0x69e9cf2e2
def iH:=st 0x6ae9cf2e2
def iM:=st 0xcbeb4f3e9cf2e2
def fD:=st 0x6ecbb196a
def jS:=st 0x19f769d1d37ee
def eW:=st 0xe9973eecbb196a
def Zy:=st 0xdd97632d5df2ee
def Y1:=st 0x6a
def YC:=st 0x3463e9876dfe9cf2e7ddbf65fc9bb4e65dcb2e8c7d30cdcb8f765ebc72d3
def fL:=st 0x30ec
def hY:=st 0x316c
def iW:=st 0x65eb97af1
def ZL:=st 0x1cf5e3dfb315fcfbb4e8c7d30ed
def bR:=st 0x78
def aR:=st 0x18e9
def jO:=st 0x18ea
def lM:=st 0x18eb
def f0:=st 0xe9bb2e3c3ab261bfbb7ee
def fP:=st 0x1969
def iZ:=st 0x196a
def g8:=st 0x196b
def Z3:=st 0x1cf5e3dfb315fcfbb4e8c7d30edbfd32e75dcb2e8c7d30cdcb8f765ebc72d3
def Xv:=st 0x1cf2e4df8f86fbfd32e75dcb2e8c7d30cdcb8f765ebc72d3
def Ww:=st 0x1cf2e4df8f86fbf932f0ebbf967bfd32e75dcb2e8c7d30cdcb8f765ebc72d3
def Wa:=st 0x6fd3d30f25dcb2e8c7d30cdcb8f765ebc72d3
def XX:=st 0x1bf4f4c3cafebc7a7af15dcb2e8c7d30cdcb8f765ebc72d3
def ZI:=st 0xdfa7a61e57f5e3d3d78dfd9872f25dcb2e8c7d30cdcb8f765ebc72d3
def aZ:=st 0x6bddd7562
def eN:=st 0xe587675e1bf862
def cW:=st 0x3a6eebbf1e2d9b3ae6
def gU:=st 0x1cf2e4df8f86f
def g7:=st 0x73cbbb4ec
def eZ:=st 0xe9cf2e2
def j4:=st 0xcbcb2e8
def iY:=st 0xcbbb4ec
def s9:=st 0x17efedcbd34f4cb9efdf
def uL:=st 0x197a75c5a7974e985074cbcd0744fbb0e3
def pV:=st 0x32f4eb8b4f2e9d30a0cbd32eccb910744fbb0e3
def rR:=st 0x29cbeb4f340b31205985468c7d30cd
def qJ:=st 0x1074df9d02ce7d3765dbd73f2c2819a0c997a63cbc3c45
def t9:=st 0x17efeecbb2fdf
def oO:=st 0x1c37f0
def rJ:=st 0x40eb9e5db87720c9b32e9cc83265e98f2f0f19777541d37c7
def rV:=st 0x29e495ee5f5a79a059c92bdc4816724af70a8
def vV:=st 0x3a6ceb87365c9d32f3
def pC:=st 0x326ecbc3861
def oM:=st 0xe7e72eb
def uE:=st 0x193261
def qA:=st 0x73db97a69
def tU:=st 0xbf7f9eed387a6edf8efdf
def uA:=st 0x1d32e7
def vM:=st 0xe9cb7f3
def oE:=st 0x32ece1a7974
def qC:=st 0x182e
def uB:=st 0xe9e32f4
def vX:=st 0xcb930ed
def qR:=st 0xc9bb4eb
def u7:=st 0x3a61
def vJ:=st 0x19776f
def pS:=st 0x1bfbf4
def u9:=st 0xc9872e8
def rN:=st 0xd9a70f4
def sJ:=st 0xe1bf964
def qD:=st 0xe9cf2f2
def qQ:=st 0x32ecc9934ed
def tY:=st 0x70
def pA:=st 0x71
def oF:=st 0x3265ddcbaf4
def oX:=st 0x72c397663
def oK:=st 0x1d3aef
def n8:=st 0x74e7cb4e6
def sH:=st 0x1df2ee
def rC:=st 0xe9cf0e6
def u8:=st 0xc9b37f4
def uI:=st 0x19366f
def oH:=st 0x39ebc7bf662
def pM:=st 0x79e9c36e5
def rL:=st 0x6bc7bf662
def qB:=st 0x6ed387463
def nQ:=st 0x1df7ec
def t6:=st 0xd19f4e8
def qY:=st 0xcb934f3
def pX:=st 0x73e197a73
def uX:=st 0xc9b32e8
def p9:=st 0xcbdb7ed
def rI:=st 0x1df7f2
def rO:=st 0x73e1bf964
def tZ:=st 0x73e5a70f0
def p7:=st 0x76
def sT:=st 0x65c787670
def oT:=st 0x197ae4
def sG:=st 0xd1d37e2
def qG:=st 0x32e4d3cf2e2
def pU:=st 0x3a70d3cb1f3
def sA:=st 0x73e9e32f4
def tN:=st 0x1cb2e8c7d30ed
noncomputable abbrev kh(P:aD3)(x:Str):Int:=bD9 P x
def q0:aG0×List aE7×Scope:=FP (pw.main.body[0]?)
def q1:aG0×List aE7×Scope:=FP ((A6 (pw.main.body[2]?))[0]?)
def Ľ:aG0×List aE7×Scope:=FP ((A6 (pw.main.body[2]?))[1]?)
def q3:aG0×List aE7×Scope:=FP ((A6 (pw.main.body[2]?))[2]?)
def ő:aG0×List aE7×Scope:=FP ((A6 (pw.main.body[2]?))[3]?)
def q5:aG0×List aE7×Scope:=FP ((A6 (pw.main.body[3]?))[4]?)
def Ĳ:aG0×List aE7×Scope:=FP ((A6 (pw.main.body[3]?))[5]?)
def q7:aG0×List aE7×Scope:=FP ((A6 (pw.main.body[3]?))[6]?)
def Ś:aG0×List aE7×Scope:=FP ((A6 (pw.main.body[3]?))[8]?)
def ť:aG0×List aE7×Scope:=FP ((A6 (pw.main.body[3]?))[9]?)
def aP:aG0×List aE7×Scope:=FP ((A6 (pw.main.body[3]?))[10]?)
def l9:aG0×List aE7×Scope:=FP (pw.main.body[4]?)
def Zr:aG0×List aE7×Scope:=FP ((A6 (pw.main.body[5]?))[1]?)
def k7:aG0×List aE7×Scope:=FP ((A6 (pw.main.body[5]?))[2]?)
def lB:aG0×List aE7×Scope:=FP ((A6 (pw.main.body[5]?))[3]?)
def dL:aG0×List aE7×Scope:=FP ((A6 (pw.main.body[5]?))[4]?)
def nA:aG0×List aE7×Scope:=FP ((A6 (pw.main.body[5]?))[5]?)
def jD:aG0×List aE7×Scope:=FP ((A6 (pw.main.body[5]?))[6]?)
def jY:aG0×List aE7×Scope:=FP ((A6 (pw.main.body[5]?))[7]?)
def wR:aG0×List aE7×Scope:=FP ((A6 (pw.main.body[5]?))[8]?)
def mC:aG0×List aE7×Scope:=FP ((A6 (pw.main.body[5]?))[9]?)
def aT:aG0×List aE7×Scope:=FP ((A6 (pw.main.body[5]?))[10]?)
def xC:aG0×List aE7×Scope:=FP ((A6 (pw.main.body[5]?))[11]?)
def wT:aG0×List aE7×Scope:=FP ((A6 (pw.main.body[5]?))[12]?)
def mU:aG0×List aE7×Scope:=FP (pw.main.body[7]?)
def mZ:aG0×List aE7×Scope:=FP (pw.main.body[8]?)
def nD:aG0×List aE7×Scope:=FP (pw.main.body[9]?)
def mB:aG0×List aE7×Scope:=FP (pw.main.body[10]?)
def mA:aG0×List aE7×Scope:=FP (pw.main.body[11]?)
def nC:aG0×List aE7×Scope:=FP (pw.main.body[12]?)
noncomputable def ob(t:String)(d:Data):Obj:=⟨.type t,.none,d,#[]⟩
noncomputable abbrev ū:Value:=.int 0 0
noncomputable def fb(n q:Str)(x y:aG0×List aE7×Scope):Obj:=⟨.none,.none,.func ⟨n,q,x.1,.stmts x.2.1,y.2.2,0,[],.none,.none,.none,.none,.none,.none,.none,0⟩,#[]⟩
def ż(n q:Str)(x y:aG0×List aE7×Scope)(d e:Value)(m:Str)(k r:Nat):Obj:=ob "function" (.func ⟨n,q,x.1,.stmts x.2.1,y.2.2,3,[],d,.none,e,.str m k,.none,.ref r,.none,0⟩)
def fc(n q f:Str)(a:Nat)(l:Int)(k:Int)(r:Nat)(t:Int)(u:Nat):Obj:=ob "code" (.fields #[.str n a,.str q (a+1),.str f (a+2),.int l 0,.int k 0,ū,ū,.int 3 0,.ref r,.bool .true,.int t 0,.ref (r+1),.none,.ref (r+2),.ref (r+3),.ref (r+4),.int u 0,.int l 0,.str f (u+1)])
def fe(n q f:Str)(a:Nat)(l:Int)(k:Int)(r:Nat)(t:Int)(u:Nat):Obj:=ob "code" (.fields #[.str n a,.str q (a+1),.str f (a+2),.int l 0,.int k 0,ū,ū,.int 3 0,.ref r,.bool .true,.int t 0,.ref (r+1),.none,.none,.none,.ref (r+2),.int u 0,.int l 0,.str f (u+1)])
def fk(n q f:Str)(a:Nat)(l:Int)(r:Nat)(t:Int)(u:Nat):Obj:=ob "code" (.fields #[.str n a,.str q (a+1),.str f (a+2),.int l 0,ū,ū,ū,ū,.ref r,.bool .false,.int t 0,.ref (r+1),.none,.none,.none,.none,.int u 0,.int l 0,.str f (u+1)])
noncomputable def v9:Nat->List Str->List Value
 | k,x::r=>.str x k::v9 (k+1) r
 | _,[]=>[]
def tu(k:Nat)(l:List Str):Obj:=ob "tuple" (.seq ⟨v9 k l⟩ 0)
def ũ(P:aD3)(x:Str)(k:Nat)(v:Value):aO6:=⟨kh P x,.str x k,v⟩
noncomputable def į:Nat->List Obj->BT
 | n+1,x::r=>.node x (į n (r.foldr (λx p=>(x::p.2,p.1)) ([],[])).1) (į n (r.foldr (λx p=>(x::p.2,p.1)) ([],[])).2)
 | _,_=>.nil
noncomputable def h0:Obj:=ob "tuple" (.seq #[] 0)
noncomputable def h1:Obj:=⟨.none,.none,.fields #[],#[]⟩
def h2:Obj:=fk lH lH Bk 182 1 11 181 185
def h3:Obj:=⟨.type "frame",.none,.plain,#[.some (.ref 13),.some (.ref 3),.some (.ref 3),.none,.some (.str Zs 164),.none,.some (.ref 0)]⟩
def ō(P:aD3):Obj:=ob "dict" (.dict #[ũ P z0 165 (.str LO 575),ũ P z2 166 (.none),ũ P ĳ 167 (.none),ũ P z4 168 (.builtin "__main__.__loader__#opaque"),ũ P Ĩ 169 (.none),ũ P gS 170 (.ref 6),ũ P tV 171 (.ref 4),ũ P n0 173 (.str Bk 172),ũ P pZ 174 (.none),ũ P L2 193 (.ref 21),ũ P J8 252 (.ref 60),ũ P JU 380 (.ref 135),ũ P K6 388 (.ref 145),ũ P Jo 574 (.ref 242),ũ P LW 586 (.ref 253),ũ P KT 592 (.ref 258),ũ P K3 598 (.ref 263),ũ P LH 604 (.ref 268),ũ P KW 610 (.ref 273),ũ P LR 616 (.ref 278)] 20)
noncomputable def Ξ:Obj:=⟨.none,.none,.fields #[.int 1 0,ū,.ref 20,.int 5 0,ū,.ref 27,.int 23 0,ū,.ref 71,.int 66 0,ū,.ref 144,.int 70 0,ū,.ref 151,.int 419 0,ū,.ref 252,.int 425 0,ū,.ref 257,.int 454 0,ū,.ref 262,.int 467 0,ū,.ref 267,.int 476 0,ū,.ref 272,.int 491 0,ū,.ref 277],#[]⟩
def Ť:Obj:=tu 190 [T4]
def h7:Obj:=fb L2 L2 q0 q0
def h8:Obj:=fc L2 L2 Bk 187 1 1 15 181 191
def h9:Obj:=ż L2 L2 q0 q0 .none .none Zs 164 20
noncomputable def Xu:Obj:=ob "builtin_function_or_method" (.fields #[.builtin "type.__prepare__",.type "type"])
def ą(P:aD3):Obj:=ob "dict" (.dict #[ũ P L8 203 (.str Bs 194),ũ P VE 205 (.str J8 204),ũ P Om 207 (.int 5 206),ũ P Hv 216 (.ref 35),ũ P Oc 225 (.ref 43),ũ P O5 234 (.ref 50),ũ P Oy 242 (.ref 57),ũ P OV 245 (.ref 58)] 8)
noncomputable def ĝ:Obj:=⟨.none,.none,.fields #[.int 7 0,.int 4 0,.ref 34,.int 11 0,.int 4 0,.ref 42,.int 18 0,.int 4 0,.ref 49,.int 21 0,.int 4 0,.ref 56],#[]⟩
def ñ:Obj:=fk J8 J8 Bk 198 5 25 181 201
def z7:Obj:=⟨.type "frame",.none,.plain,#[.some (.ref 27),.some (.ref 3),.some (.ref 24),.none,.some (.str Bs 194),.none,.some (.ref 0)]⟩
def y9:Obj:=tu 211 [Cv,Ji,Si]
def Ě:Obj:=fb Hv ZP q1 q1
def yV:Obj:=fc Hv ZP Bk 208 7 3 29 181 214
def yZ:Obj:=ż Hv ZP q1 q1 .none .none Bs 194 34
noncomputable def Ë:Obj:=ob "tuple" (.seq #[.none] 0)
def ā:Obj:=tu 220 [Cv,VV,j3]
def ì:Obj:=fb Oc WU Ľ Ľ
def á:Obj:=fc Oc WU Bk 217 11 3 37 181 223
def zO:Obj:=ż Oc WU Ľ Ľ (.ref 36) .none Bs 194 42
def Ē:Obj:=tu 229 [Cv,VV,jA]
def zQ:Obj:=fb O5 XO q3 q3
def zW:Obj:=fc O5 XO Bk 226 18 3 44 181 232
def z8:Obj:=ż O5 XO q3 q3 .none .none Bs 194 49
def ă:Obj:=tu 238 [Cv,VV]
def yK:Obj:=fb Oy Xj ő ő
def â:Obj:=fc Oy Xj Bk 235 21 2 51 181 240
def ė:Obj:=ż Oy Xj ő ő .none .none Bs 194 56
def õ:Obj:=tu 243 [z2,Ji]
def yM(P:aD3):Obj:=ob "dict" (.dict #[ũ P L8 203 (.str Bs 194),ũ P Om 207 (.int 5 206),ũ P Hv 216 (.ref 35),ũ P Oc 225 (.ref 43),ũ P O5 234 (.ref 50),ũ P Oy 242 (.ref 57),ũ P OV 245 (.ref 58),ũ P UW 247 (.ref 61),ũ P VX 249 (.ref 62),ũ P z2 250 (.none)] 4)
def Ð:Obj:=⟨.type "type",.none,.cls ⟨J8,[.type "object"],[.ref 60,.type "object"],59,J8,.true,[],[],.false,.none,.false⟩,#[.none,.none,.some (.str J8 196),.some (.str J8 204),.some (.builtin "object.__new__"),.some (.bool .true)]⟩
def ø:Obj:=ob "getset_descriptor" (.fields #[.str UW 246,.ref 60,.builtin "function.__dict__",.builtin "function.__dict__#set"])
def Ù:Obj:=ob "getset_descriptor" (.fields #[.str VX 248,.ref 60,.builtin "ExceptionGroup.__weakref__",.none])
noncomputable def ß:Obj:=ob "super" (.fields #[.ref 60,.ref 60,.ref 60])
noncomputable def xO:Obj:=ob "builtin_function_or_method" (.fields #[.builtin "object.__init_subclass__",.ref 60])
noncomputable def xQ:Obj:=ob "tuple" (.seq #[.type "tuple"] 0)
def y7(P:aD3):Obj:=ob "dict" (.dict #[ũ P L8 260 (.str Bs 194),ũ P VE 262 (.str JU 261),ũ P Om 264 (.int 23 263),ũ P z2 266 (.str (Vt (A6 (pw.main.body[3]?))) 265),ũ P Wy 268 (.ref 73),ũ P Xl 272 (.ref 74),ũ P ZE 273 (.ref 75),ũ P PL 284 (.ref 82),ũ P L7 306 (.ref 91),ũ P PZ 317 (.ref 100),ũ P YB 318 (.ref 100),ũ P PN 326 (.ref 107),ũ P OJ 333 (.ref 114),ũ P OC 341 (.ref 121),ũ P Yy 345 (.ref 122),ũ P Gu 355 (.ref 124),ũ P G2 365 (.ref 127),ũ P P0 375 (.ref 130),ũ P OV 376 (.ref 132),ũ P n6 377 (.ref 68)] 20)
noncomputable def Ä:Obj:=ob "cell" (.cell (.some (.ref 135)))
noncomputable def Ġ:Obj:=⟨.none,.none,.fields #[.int 29 0,.int 4 0,.ref 81,.int 34 0,.int 4 0,.ref 88,.int 41 0,.int 4 0,.ref 99,.int 52 0,.int 4 0,.ref 106,.int 56 0,.int 4 0,.ref 113,.int 59 0,.int 4 0,.ref 120],#[]⟩
def yS:Obj:=fk JU JU Bk 255 23 69 181 258
def Ý:Obj:=⟨.type "frame",.none,.plain,#[.some (.ref 71),.some (.ref 3),.some (.ref 67),.none,.some (.str Bs 194),.none,.some (.ref 0)]⟩
def y0:Obj:=tu 269 [Gu,G2,P0]
noncomputable def xF:Obj:=ob "dict" (.dict #[] 0)
def zT:Obj:=tu 277 [bV,Gu,G2,P0]
def ú:Obj:=fb PL Xx q5 q5
def ö:Obj:=fc PL Xx Bk 274 29 4 76 181 281
def ü:Obj:=ż PL Xx q5 q5 .none (.str (Oa q5) 283) Bs 194 81
def Đ:Obj:=tu 288 [jQ,lS,Wo]
def Ą:Obj:=fb L7 Uj Ĳ Ĳ
def ä:Obj:=fc L7 Uj Bk 285 33 2 83 181 291
def zC:Obj:=ob "function" (.func ⟨L7,Uj,Ĳ.1,.stmts Ĳ.2.1,Ĳ.2.2,3,[],.none,.none,.str (Oa Ĳ) 293,.str Bs 194,.some 92,.ref 88,.none,0⟩)
def ě(P:aD3):Obj:=ob "dict" (.dict #[ũ P L8 295 (.str Bs 194),ũ P z0 298 (.str L7 297),ũ P VE 301 (.str Uj 300),ũ P z2 303 (.str (Oa Ĳ) 293),ũ P gS 305 (.ref 92)] 5)
noncomputable def z9:Obj:=⟨.type "classmethod",.some 90,.fields #[.ref 89,.bool .false],#[]⟩
noncomputable def yB:Obj:=ob "tuple" (.seq #[.ref 68] 0)
def zI:Obj:=tu 310 [Xz]
def zL:Obj:=tu 311 [Cv,jH,Wo]
def É:Obj:=fb PZ WQ q7 q7
def zR:Obj:=ob "code" (.fields #[.str PZ 307,.str WQ 308,.str Bk 309,.int 41 0,.int 1 0,.int 1 0,ū,.int 11 0,.ref 94,.bool .true,.int 181 0,.ref 95,.none,.ref 96,.ref 97,.ref 98,.int 314 0,.int 41 0,.str Bk 315])
def yI:Obj:=ob "function" (.func ⟨PZ,WQ,q7.1,.stmts q7.2.1,q7.2.2,3,[(Xz,68)],.none,.none,.str (Oa q7) 316,.str Bs 194,.none,.ref 99,.ref 93,0⟩)
def Ğ:Obj:=tu 322 [Cv]
def Zj:Obj:=fb PN Xa Ś Ś
def xU:Obj:=fc PN Xa Bk 319 52 1 101 181 323
def à:Obj:=ż PN Xa Ś Ś .none (.str (Oa Ś) 325) Bs 194 106
def xR:Obj:=tu 330 [Cv]
def Ü:Obj:=fb OJ Xd ť ť
def zK:Obj:=fc OJ Xd Bk 327 56 1 108 181 331
def č:Obj:=ż OJ Xd ť ť .none .none Bs 194 113
def zJ:Obj:=tu 337 [Cv]
def ý:Obj:=fb OC Wv aP aP
def yE:Obj:=fc OC Wv Bk 334 59 1 115 181 338
def Ĝ:Obj:=ż OC Wv aP aP .none (.str (Oa aP) 340) Bs 194 120
def zX:Obj:=tu 342 [Gu,G2,P0]
def ù(P:aD3):Obj:=ob "dict" (.dict #[ũ P Ji 352 (.int 0 346),ũ P z2 354 (.str XB 347)] 2)
noncomputable def ó:Obj:=⟨.ref 60,.some 123,.plain,#[]⟩
def Ø(P:aD3):Obj:=ob "frame" (.dict #[ũ P Cv 348 (.ref 124),ũ P Ji 349 (.int 0 346),ũ P Si 350 (.str XB 347)] 3)
def Ç(P:aD3):Obj:=ob "dict" (.dict #[ũ P Ji 362 (.int 1 356),ũ P z2 364 (.str ZA 357)] 2)
noncomputable def ĕ:Obj:=⟨.ref 60,.some 126,.plain,#[]⟩
def y8(P:aD3):Obj:=ob "frame" (.dict #[ũ P Cv 358 (.ref 127),ũ P Ji 359 (.int 1 356),ũ P Si 360 (.str ZA 357)] 3)
def ï(P:aD3):Obj:=ob "dict" (.dict #[ũ P Ji 372 (.int 2 366),ũ P z2 374 (.str XM 367)] 2)
noncomputable def Å:Obj:=⟨.ref 60,.some 129,.plain,#[]⟩
def yQ(P:aD3):Obj:=ob "frame" (.dict #[ũ P Cv 368 (.ref 130),ũ P Ji 369 (.int 2 366),ũ P Si 370 (.str XM 367)] 3)
noncomputable def ã:Obj:=ob "list" (.seq #[] 0)
def zH(P:aD3):Obj:=ob "dict" (.dict #[ũ P L8 260 (.str Bs 194),ũ P Om 264 (.int 23 263),ũ P z2 266 (.str (Vt (A6 (pw.main.body[3]?))) 265),ũ P Wy 268 (.ref 73),ũ P Xl 272 (.ref 74),ũ P ZE 273 (.ref 75),ũ P PL 284 (.ref 136),ũ P L7 306 (.ref 91),ũ P PZ 317 (.ref 100),ũ P YB 318 (.ref 100),ũ P PN 326 (.ref 107),ũ P OJ 333 (.ref 114),ũ P OC 341 (.ref 121),ũ P Yy 345 (.ref 122),ũ P Gu 355 (.ref 124),ũ P G2 365 (.ref 127),ũ P P0 375 (.ref 130),ũ P OV 376 (.ref 132)] 2)
def ç:Obj:=⟨.type "type",.none,.cls ⟨JU,[.type "tuple"],[.ref 135,.type "tuple",.type "object"],134,JU,.false,[],[],.false,.none,.false⟩,#[.some (.ref 65),.none,.some (.str JU 253),.some (.str JU 261),.some .none,.some (.bool .false)]⟩
noncomputable def å:Obj:=ob "staticmethod" (.fields #[.ref 82])
noncomputable def Á:Obj:=ob "super" (.fields #[.ref 135,.ref 135,.ref 135])
noncomputable def yT:Obj:=ob "builtin_function_or_method" (.fields #[.builtin "object.__init_subclass__",.ref 135])
def Ā:Obj:=tu 384 [Z0,iC]
def ę:Obj:=fb K6 K6 l9 l9
def zS:Obj:=fc K6 K6 Bk 381 66 2 139 181 386
def È:Obj:=ż K6 K6 l9 l9 .none .none Bs 194 144
def xX(P:aD3):Obj:=ob "dict" (.dict #[ũ P L8 396 (.str Bs 194),ũ P VE 398 (.str Jo 397),ũ P Om 400 (.int 70 399),ũ P z2 402 (.str (Vt (A6 (pw.main.body[5]?))) 401),ũ P Hv 417 (.ref 160),ũ P OD 427 (.ref 167),ũ P PF 436 (.ref 174),ũ P PS 445 (.ref 181),ũ P Z9 463 (.ref 188),ũ P O0 491 (.ref 196),ũ P OU 518 (.ref 203),ũ P Og 525 (.ref 210),ũ P OH 534 (.ref 218),ũ P Ot 543 (.ref 225),ũ P O8 550 (.ref 232),ũ P OW 557 (.ref 239),ũ P OV 568 (.ref 240)] 17)
noncomputable def Ñ:Obj:=⟨.none,.none,.fields #[.int 145 0,.int 4 0,.ref 159,.int 173 0,.int 4 0,.ref 166,.int 184 0,.int 4 0,.ref 173,.int 209 0,.int 4 0,.ref 180,.int 236 0,.int 4 0,.ref 187,.int 260 0,.int 4 0,.ref 195,.int 335 0,.int 4 0,.ref 202,.int 383 0,.int 4 0,.ref 209,.int 386 0,.int 4 0,.ref 217,.int 389 0,.int 4 0,.ref 224,.int 413 0,.int 4 0,.ref 231,.int 416 0,.int 4 0,.ref 238],#[]⟩
def Ė:Obj:=fk Jo Jo Bk 391 70 149 181 394
def zF:Obj:=⟨.type "frame",.none,.plain,#[.some (.ref 151),.some (.ref 3),.some (.ref 148),.none,.some (.str Bs 194),.none,.some (.ref 0)]⟩
def þ:Obj:=ob "tuple" (.seq #[.none,.str WO 404,.str WO 405,.bool .true] 0)
def vA:Obj:=tu 409 [Cv,TC,Gu,G2,YV]
def rW:Obj:=fb Hv YI Zr Zr
def qT:Obj:=fc Hv YI Bk 406 145 5 154 181 414
def oC:Obj:=ż Hv YI Zr Zr (.ref 153) (.str (Oa Zr) 416) Bs 194 159
def s6:Obj:=tu 421 [Cv,Gu,G2]
def vY:Obj:=fb OD XZ k7 k7
def pQ:Obj:=fc OD XZ Bk 418 173 3 161 181 424
def qV:Obj:=ż OD XZ k7 k7 .none (.str (Oa k7) 426) Bs 194 166
def oW:Obj:=tu 431 [Cv,Gu]
def vC:Obj:=fb PF XE lB lB
def pY:Obj:=fc PF XE Bk 428 184 2 168 181 433
def vW:Obj:=ż PF XE lB lB .none (.str (Oa lB) 435) Bs 194 173
def oY:Obj:=tu 440 [Cv,G2]
def vP:Obj:=fb PS YW dL dL
def sW:Obj:=fc PS YW Bk 437 209 2 175 181 442
def uM:Obj:=ż PS YW dL dL .none (.str (Oa dL) 444) Bs 194 180
def uQ:Obj:=tu 449 [Cv,G2,T5,UJ,kE,gJ,Zu,TC,Zq,ZN,cJ,cC]
def tB:Obj:=fb T6 WW nA nA
def pI:Obj:=fc T6 WW Bk 446 236 1 182 181 461
def rS:Obj:=ż T6 WW nA nA .none .none Bs 194 187
noncomputable def uN:Obj:=ob "tuple" (.seq #[.int 0 464,.none,.int 0 465,.none] 0)
def qP:Obj:=tu 469 [Cv,ZR,X1,XC,Y0,Gu,G2,T5,bX,kS,iH,iM,fD,jS,UJ,eW,Zy,Y1,T4]
def sZ:Obj:=fb O0 YC jD jD
def tD:Obj:=fc O0 YC Bk 466 260 5 190 181 488
def rY:Obj:=ż O0 YC jD jD (.ref 189) (.str (Oa jD) 490) Bs 194 195
def uG:Obj:=tu 495 [Cv,fL,hY,iW,ZL,ZR,X1,XC,Y0,UJ,Y1,T4,bR,aR,jO,lM,f0,fP,iZ,g8]
def s7:Obj:=fb OU Z3 jY jY
def qU:Obj:=fc OU Z3 Bk 492 335 1 197 181 515
def nL:Obj:=ż OU Z3 jY jY .none (.str (Oa jY) 517) Bs 194 202
def vH:Obj:=tu 522 [Cv]
def tK:Obj:=fb Og Xv wR ť
def rP:Obj:=fc Og Xv Bk 519 383 1 204 181 523
def sV:Obj:=ż Og Xv wR ť .none .none Bs 194 209
noncomputable def p8:Obj:=ob "tuple" (.seq #[.int 3 526] 0)
def rM:Obj:=tu 530 [Cv,ZN]
def pR:Obj:=fb OH Ww mC mC
def qM:Obj:=fc OH Ww Bk 527 386 2 212 181 532
def tX:Obj:=ż OH Ww mC mC (.ref 211) .none Bs 194 217
def vO:Obj:=tu 538 [Cv,Z0]
def sM:Obj:=fb Ot Wa aT aT
def vG:Obj:=fc Ot Wa Bk 535 389 1 219 181 540
def pE:Obj:=ż Ot Wa aT aT .none (.str (Oa aT) 542) Bs 194 224
def v3:Obj:=tu 547 [Cv]
def r5:Obj:=fb O8 XX xC ť
def pP:Obj:=fc O8 XX Bk 544 413 1 226 181 548
def tO:Obj:=ż O8 XX xC ť .none .none Bs 194 231
def uR:Obj:=tu 554 [Cv]
def nY:Obj:=fb OW ZI wT ť
def vT:Obj:=fc OW ZI Bk 551 416 1 233 181 555
def oR:Obj:=ż OW ZI wT ť .none .none Bs 194 238
def oA:Obj:=tu 558 [Gu,YV,G2,T5,aZ,eN,cW,TC,ZL,gU]
def s8(P:aD3):Obj:=ob "dict" (.dict #[ũ P L8 396 (.str Bs 194),ũ P Om 400 (.int 70 399),ũ P z2 402 (.str (Vt (A6 (pw.main.body[5]?))) 401),ũ P Hv 417 (.ref 160),ũ P OD 427 (.ref 167),ũ P PF 436 (.ref 174),ũ P PS 445 (.ref 181),ũ P Z9 463 (.ref 188),ũ P O0 491 (.ref 196),ũ P OU 518 (.ref 203),ũ P Og 525 (.ref 210),ũ P OH 534 (.ref 218),ũ P Ot 543 (.ref 225),ũ P O8 550 (.ref 232),ũ P OW 557 (.ref 239),ũ P OV 568 (.ref 240),ũ P UW 570 (.ref 243),ũ P VX 572 (.ref 244)] 3)
def oQ:Obj:=⟨.type "type",.none,.cls ⟨Jo,[.type "object"],[.ref 242,.type "object"],241,Jo,.true,[],[],.false,.none,.false⟩,#[.none,.none,.some (.str Jo 389),.some (.str Jo 397),.some (.builtin "object.__new__"),.some (.bool .true)]⟩
def qO:Obj:=ob "getset_descriptor" (.fields #[.str UW 569,.ref 242,.builtin "function.__dict__",.builtin "function.__dict__#set"])
def vE:Obj:=ob "getset_descriptor" (.fields #[.str VX 571,.ref 242,.builtin "ExceptionGroup.__weakref__",.none])
noncomputable def vF:Obj:=ob "super" (.fields #[.ref 242,.ref 242,.ref 242])
noncomputable def vQ:Obj:=ob "builtin_function_or_method" (.fields #[.builtin "object.__init_subclass__",.ref 242])
def n7:Obj:=tu 580 [g7,eZ,j4,iY]
def qS:Obj:=fb LW LW mU mU
def rA:Obj:=fc LW LW Bk 577 419 1 247 181 584
def sK:Obj:=ż LW LW mU mU .none .none LO 575 252
def vI:Obj:=fb KT KT mZ mZ
def n9:Obj:=fe KT KT Bk 587 425 3 254 181 590
def uF:Obj:=ż KT KT mZ mZ .none .none LO 575 257
def uY:Obj:=fb K3 K3 nD nD
def tW:Obj:=fe K3 K3 Bk 593 454 3 259 181 596
def r9:Obj:=ż K3 K3 nD nD .none .none LO 575 262
def tI:Obj:=fb LH LH mB mB
def sU:Obj:=fe LH LH Bk 599 467 4 264 181 602
def pH:Obj:=ż LH LH mB mB .none .none LO 575 267
def tL:Obj:=fb KW KW mA mA
def r7:Obj:=fe KW KW Bk 605 476 2 269 181 608
def sE:Obj:=ż KW KW mA mA .none .none LO 575 272
def pG:Obj:=fb LR LR nC nC
def sN:Obj:=fe LR LR Bk 611 491 1 274 181 614
def qW:Obj:=ż LR LR nC nC .none .none LO 575 277
def o0(P:aD3):List Obj:=[boot_o_0 P,boot_o_1 P,boot_o_2 P,ō P,boot_o_4 P,boot_o_5 P,boot_o_6 P,boot_o_7 P,boot_o_8 P,boot_o_9 P,boot_o_10 P,h0]
def o1(P:aD3):List Obj:=[Ξ,h2,h3,h0,h1,Ť,h0,h7,h8,h9,h0,Xu]
def ĩ(P:aD3):List Obj:=[ą P,h0,ĝ,ñ,z7,h0,h1,y9,h0,Ě,yV,yZ]
def o3(P:aD3):List Obj:=[Ë,h0,h1,ā,h0,ì,á,zO,h0,h1,Ē,h0]
def o4(P:aD3):List Obj:=[zQ,zW,z8,h0,h1,ă,h0,yK,â,ė,õ,yM P]
def Ģ(P:aD3):List Obj:=[Ð,ø,Ù,ß,xO,xQ,Xu,y7 P,Ä,h0,Ġ,yS]
def Ŋ(P:aD3):List Obj:=[Ý,h0,y0,xF,h0,h1,zT,h0,ú,ö,ü,h0]
def o7(P:aD3):List Obj:=[h1,Đ,h0,Ą,ä,zC,ě P,z9,xF,yB,zI,h1]
def o8(P:aD3):List Obj:=[zL,h0,É,zR,yI,h0,h1,Ğ,h0,Zj,xU,à]
def o9(P:aD3):List Obj:=[h0,h1,xR,h0,Ü,zK,č,h0,h1,zJ,h0,ý]
def xP(P:aD3):List Obj:=[yE,Ĝ,zX,ù P,ó,Ø P,Ç P,ĕ,y8 P,ï P,Å,yQ P]
def zG(P:aD3):List Obj:=[h0,ã,zH P,ç,å,Á,yT,h0,h1,Ā,h0,ę]
def zP(P:aD3):List Obj:=[zS,È,h0,Xu,xX P,h0,Ñ,Ė,zF,þ,h0,h1]
def z6(P:aD3):List Obj:=[vA,h0,rW,qT,oC,h0,h1,s6,h0,vY,pQ,qV]
def Õ(P:aD3):List Obj:=[h0,h1,oW,h0,vC,pY,vW,h0,h1,oY,h0,vP]
def zY(P:aD3):List Obj:=[sW,uM,h0,h1,uQ,h0,tB,pI,rS,uN,h0,h1]
def zV(P:aD3):List Obj:=[qP,h0,sZ,tD,rY,h0,h1,uG,h0,s7,qU,nL]
def î(P:aD3):List Obj:=[h0,h1,vH,h0,tK,rP,sV,p8,h0,h1,rM,h0]
def í(P:aD3):List Obj:=[pR,qM,tX,h0,h1,vO,h0,sM,vG,pE,h0,h1]
def zD(P:aD3):List Obj:=[v3,h0,r5,pP,tO,h0,h1,uR,h0,nY,vT,oR]
def Û(P:aD3):List Obj:=[oA,s8 P,oQ,qO,vE,vF,vQ,h0,h1,n7,h0,qS]
def ġ(P:aD3):List Obj:=[rA,sK,h0,h1,vI,n9,uF,h0,h1,uY,tW,r9]
def zZ(P:aD3):List Obj:=[h0,h1,tI,sU,pH,h0,h1,tL,r7,sE,h0,h1]
def Ó(P:aD3):List Obj:=[pG,sN,qW]
def Kg(P:aD3):BT:=į 20 [boot_o_0 P,boot_o_1 P,boot_o_2 P,boot_o_3 P,boot_o_4 P,boot_o_5 P,boot_o_6 P,boot_o_7 P,boot_o_8 P,boot_o_9 P,boot_o_10 P,h0,h1,h2,h3]
def Co(P:aD3):List Obj:=o0 P++(o1 P++(ĩ P++(o3 P++(o4 P++(Ģ P++(Ŋ P++(o7 P++(o8 P++(o9 P++(xP P++(zG P++(zP P++(z6 P++(Õ P++(zY P++(zV P++(î P++(í P++(zD P++(Û P++(ġ P++(zZ P++(Ó P)))))))))))))))))))))))
def Nz(P:aD3):BT:=į 20 (Co P)
def Ĥ(P:aD3):aF0:=⟨⟨Co P⟩,{}⟩
noncomputable def iB:Pos:=⟨491,0,515,15⟩
noncomputable abbrev nF:Nat:=279
noncomputable abbrev kF:Nat:=617
def GW:Env:={scope:=pw.main.scope,locals:=mainNs,globals:=mainNs,cells:=[],code:=.ref 13,frame:=some 14}
def bF:List aE7:=behindTheImports pw
def Mq(w:aB9)(p:aG3)(b:List aE7)(os:aS0):Option (bJ9×bO0×bO3×Pos):=
 Vs 2274 w p bF b ⟨Kg w.params,15,{},⟨[]⟩,{},187,os⟩ GW
def Mf(w:aB9)(p:aG3)(b:List aE7)(os:aS0):Option (bJ9×bO0×bO3×Pos):=
 some (.next,⟨Nz w.params,nF,{},⟨[]⟩,{},kF,os⟩,.body b GW,iB)
abbrev Wg:Str:=Vt (A6 (pw.main.body[5]?))
noncomputable def oZ:{cs:List Char // aA0 (String.ofList cs)=Wg}:=by
 apply Subtype.mk
 dsimp only[Wg,pw,aH1,List.getElem?_cons_succ,List.getElem?_cons_zero,A6,Vt,docOf,bL9]
def hxS:Str:=⟨(oZ.1.map Char.toNat).toArray⟩
def YU:Wg=hxS:=oZ.2.symm.trans (Fast.ofString_ofList oZ.1)
abbrev uJ:Type:=Str->Str->Str->Str->Str->Str->Str->Str->Str->Str->Str->Str->Str->Str->Str->Str->Str->Str->Str->Str->Str->Str->Str->Str->Str->Str->Str->Str->Str->Str->Str->Str->Str->Str->Str->Str->Str->Str->Str->Str->Str->Str->Str->Str->Str->Str->Str->Str->Str->Str->Str->Str->Str->Str->Str->Str->Str->Str->Str->Str->Str->Str->Str->Str->Str->Str->Str->Str->Str->Str->Str->Str->Str->Str->Str->Str->Str->Str->Str->Str->Str->Str->Str->Str->Str->Str->Str->Str->Str->Str->Str->Str->Str->Str->Str->Str->Str->Str->Str->Str->Str->Str->Str->Str->Str->Str->Str->Str->Str->Str->Str->Str->Str->Str->Str->Str->Str->Str->Str->Str->Str->Str->Str->Str->Str->Str->Str->Str->Str->Str->Str->Str->Str->Str->Str->Str->Str->Str->Str->Str->Str->Str->Str->Str->Str->Str->Str->Str->Str->Str->Str->Str->Str->Str->Str->Str->Str->Str->Str->Str->Str->Str->Str->Str->Str->Str->Str->Str->Str->Str->Str->Str->Str->Str->Str->Str->Str->Str->Str->Str->Str->Str->Str->Str->Str->Str->(String->Str)->Option aG3
noncomputable abbrev mN(F:uJ):Str->(String->Str)->Option aG3:=F (.ofString "_wall") (.ofString "k") (.ofString "__name__") (.ofString "cpy313.difflib") (.ofString "_tuplegetter") (.ofString "__init__") (.ofString "self") (.ofString "index") (.ofString "doc") (.ofString "__doc__") (.ofString "__get__") (.ofString "obj") (.ofString "objtype") (.ofString "issubclass") (.ofString "type") (.ofString "tuple") (.ofString "__getitem__") (.ofString "__set__") (.ofString "value") (.ofString "AttributeError") (.ofString "can't set attribute") (.ofString "__delete__") (.ofString "can't delete attribute") (.ofString "Match") (.ofString "Match(a, b, size)") (.ofString "__slots__") (.ofString "_fields") (.ofString "a") (.ofString "b") (.ofString "size") (.ofString "_field_defaults") (.ofString "__new__") (.ofString "_cls") (.ofString "_make") (.ofString "cls") (.ofString "iterable") (.ofString "result") (.ofString "len") (.ofString "TypeError") (.ofString "Expected 3 arguments, got ") (.ofString "classmethod") (.ofString "_replace") (.ofString "kwds") (.ofString "__class__") (.ofString "__len__") (.ofString "pop") (.ofString "map") (.ofString "Got unexpected field names: ") (.ofString "list") (.ofString "__replace__") (.ofString "__repr__") (.ofString "(a=%r, b=%r, size=%r)") (.ofString "_asdict") (.ofString "__getnewargs__") (.ofString "__match_args__") (.ofString "Alias for field number 0") (.ofString "Alias for field number 1") (.ofString "Alias for field number 2") (.ofString "_calculate_ratio") (.ofString "matches") (.ofString "length") (.ofString "SequenceMatcher") (.ofString "isjunk") (.ofString "autojunk") (.ofString "") (.ofString "set_seqs") (.ofString "set_seq1") (.ofString "set_seq2") (.ofString "matching_blocks") (.ofString "opcodes") (.ofString "fullbcount") (.ofString "_SequenceMatcher__chain_b") (.ofString "__chain_b") (.ofString "b2j") (.ofString "i") (.ofString "elt") (.ofString "enumerate") (.ofString "indices") (.ofString "setdefault") (.ofString "append") (.ofString "bjunk") (.ofString "junk") (.ofString "set") (.ofString "keys") (.ofString "add") (.ofString "bpopular") (.ofString "popular") (.ofString "n") (.ofString "ntest") (.ofString "idxs") (.ofString "items") (.ofString "find_longest_match") (.ofString "alo") (.ofString "ahi") (.ofString "blo") (.ofString "bhi") (.ofString "isbjunk") (.ofString "__contains__") (.ofString "besti") (.ofString "bestj") (.ofString "bestsize") (.ofString "j2len") (.ofString "nothing") (.ofString "range") (.ofString "j2lenget") (.ofString "get") (.ofString "newj2len") (.ofString "j") (.ofString "get_matching_blocks") (.ofString "la") (.ofString "lb") (.ofString "queue") (.ofString "x") (.ofString "sort") (.ofString "i1") (.ofString "j1") (.ofString "k1") (.ofString "non_adjacent") (.ofString "i2") (.ofString "j2") (.ofString "k2") (.ofString "get_opcodes") (.ofString "get_grouped_opcodes") (.ofString "ratio") (.ofString "sum") (.ofString "triple") (.ofString ".0") (.ofString "quick_ratio") (.ofString "real_quick_ratio") (.ofString "law_dm0059_05") (.ofString "_law_clear") (.ofString "lines") (.ofString "best") (.ofString "here") (.ofString "line") (.ofString "max") (.ofString "_law_deed") (.ofString "text") (.ofString "made") (.ofString "kind") (.ofString "at") (.ofString "one") (.ofString "two") (.ofString "head") (.ofString "tail") (.ofString "drop") (.ofString "rest") (.ofString "middle") (.ofString "min") (.ofString "p") (.ofString "q") (.ofString "turned") (.ofString "clear") (.ofString "out") (.ofString "first") (.ofString "new") (.ofString "fast") (.ofString "_law_blocks") (.ofString "told") (.ofString "old") (.ofString "blocks") (.ofString "empty") (.ofString "block") (.ofString "_law_follow") (.ofString "chain") (.ofString "low") (.ofString "high") (.ofString "side") (.ofString "steps") (.ofString "held") (.ofString "move") (.ofString "_law_bonds") (.ofString "row") (.ofString "drops") (.ofString "pairs") (.ofString "v") (.ofString "place") (.ofString "due") (.ofString "both") (.ofString "beside") (.ofString "law") (.ofString "script") (.ofString "texts") (.ofString "matcher") (.ofString "/claim/cut.py")
noncomputable def xI:{F:uJ // mN F Wg aA0=some aH1}:=by
 refine Subtype.mk ?F ?pf
 case pf=>
  refine have hD:Wg=aA0 ?lit:=?pr;(congrFun (bO6 (mN ?F) hD) aA0).trans ?rest
  case pr=>
   dsimp only[Wg,pw,aH1,List.getElem?_cons_succ,List.getElem?_cons_zero,A6,Vt,docOf,bL9]
   exact rfl
  case rest=>
   delta aH1 mN
   generalize aA0 "_wall" = x0,aA0 "k" = x1,aA0 "__name__" = x2,aA0 "cpy313.difflib" = x3,aA0 "_tuplegetter" = x4,aA0 "__init__" = x5,aA0 "self" = x6,aA0 "index" = x7,aA0 "doc" = x8,aA0 "__doc__" = x9,aA0 "__get__" = x10,aA0 "obj" = x11,aA0 "objtype" = x12,aA0 "issubclass" = x13,aA0 "type" = x14,aA0 "tuple" = x15,aA0 "__getitem__" = x16,aA0 "__set__" = x17,aA0 "value" = x18,aA0 "AttributeError" = x19,aA0 "can't set attribute" = x20,aA0 "__delete__" = x21,aA0 "can't delete attribute" = x22,aA0 "Match" = x23,aA0 "Match(a, b, size)" = x24,aA0 "__slots__" = x25,aA0 "_fields" = x26,aA0 "a" = x27,aA0 "b" = x28,aA0 "size" = x29,aA0 "_field_defaults" = x30,aA0 "__new__" = x31,aA0 "_cls" = x32,aA0 "_make" = x33,aA0 "cls" = x34,aA0 "iterable" = x35,aA0 "result" = x36,aA0 "len" = x37,aA0 "TypeError" = x38,aA0 "Expected 3 arguments, got " = x39,aA0 "classmethod" = x40,aA0 "_replace" = x41,aA0 "kwds" = x42,aA0 "__class__" = x43,aA0 "__len__" = x44,aA0 "pop" = x45,aA0 "map" = x46,aA0 "Got unexpected field names: " = x47,aA0 "list" = x48,aA0 "__replace__" = x49,aA0 "__repr__" = x50,aA0 "(a=%r, b=%r, size=%r)" = x51,aA0 "_asdict" = x52,aA0 "__getnewargs__" = x53,aA0 "__match_args__" = x54,aA0 "Alias for field number 0" = x55,aA0 "Alias for field number 1" = x56,aA0 "Alias for field number 2" = x57,aA0 "_calculate_ratio" = x58,aA0 "matches" = x59,aA0 "length" = x60,aA0 "SequenceMatcher" = x61,aA0 "isjunk" = x62,aA0 "autojunk" = x63,aA0 "" = x64,aA0 "set_seqs" = x65,aA0 "set_seq1" = x66,aA0 "set_seq2" = x67,aA0 "matching_blocks" = x68,aA0 "opcodes" = x69,aA0 "fullbcount" = x70,aA0 "_SequenceMatcher__chain_b" = x71,aA0 "__chain_b" = x72,aA0 "b2j" = x73,aA0 "i" = x74,aA0 "elt" = x75,aA0 "enumerate" = x76,aA0 "indices" = x77,aA0 "setdefault" = x78,aA0 "append" = x79,aA0 "bjunk" = x80,aA0 "junk" = x81,aA0 "set" = x82,aA0 "keys" = x83,aA0 "add" = x84,aA0 "bpopular" = x85,aA0 "popular" = x86,aA0 "n" = x87,aA0 "ntest" = x88,aA0 "idxs" = x89,aA0 "items" = x90,aA0 "find_longest_match" = x91,aA0 "alo" = x92,aA0 "ahi" = x93,aA0 "blo" = x94,aA0 "bhi" = x95,aA0 "isbjunk" = x96,aA0 "__contains__" = x97,aA0 "besti" = x98,aA0 "bestj" = x99,aA0 "bestsize" = x100,aA0 "j2len" = x101,aA0 "nothing" = x102,aA0 "range" = x103,aA0 "j2lenget" = x104,aA0 "get" = x105,aA0 "newj2len" = x106,aA0 "j" = x107,aA0 "get_matching_blocks" = x108,aA0 "la" = x109,aA0 "lb" = x110,aA0 "queue" = x111,aA0 "x" = x112,aA0 "sort" = x113,aA0 "i1" = x114,aA0 "j1" = x115,aA0 "k1" = x116,aA0 "non_adjacent" = x117,aA0 "i2" = x118,aA0 "j2" = x119,aA0 "k2" = x120,aA0 "get_opcodes" = x121,aA0 "get_grouped_opcodes" = x122,aA0 "ratio" = x123,aA0 "sum" = x124,aA0 "triple" = x125,aA0 ".0" = x126,aA0 "quick_ratio" = x127,aA0 "real_quick_ratio" = x128,aA0 "law_dm0059_05" = x129,aA0 "_law_clear" = x130,aA0 "lines" = x131,aA0 "best" = x132,aA0 "here" = x133,aA0 "line" = x134,aA0 "max" = x135,aA0 "_law_deed" = x136,aA0 "text" = x137,aA0 "made" = x138,aA0 "kind" = x139,aA0 "at" = x140,aA0 "one" = x141,aA0 "two" = x142,aA0 "head" = x143,aA0 "tail" = x144,aA0 "drop" = x145,aA0 "rest" = x146,aA0 "middle" = x147,aA0 "min" = x148,aA0 "p" = x149,aA0 "q" = x150,aA0 "turned" = x151,aA0 "clear" = x152,aA0 "out" = x153,aA0 "first" = x154,aA0 "new" = x155,aA0 "fast" = x156,aA0 "_law_blocks" = x157,aA0 "told" = x158,aA0 "old" = x159,aA0 "blocks" = x160,aA0 "empty" = x161,aA0 "block" = x162,aA0 "_law_follow" = x163,aA0 "chain" = x164,aA0 "low" = x165,aA0 "high" = x166,aA0 "side" = x167,aA0 "steps" = x168,aA0 "held" = x169,aA0 "move" = x170,aA0 "_law_bonds" = x171,aA0 "row" = x172,aA0 "drops" = x173,aA0 "pairs" = x174,aA0 "v" = x175,aA0 "place" = x176,aA0 "due" = x177,aA0 "both" = x178,aA0 "beside" = x179,aA0 "law" = x180,aA0 "script" = x181,aA0 "texts" = x182,aA0 "matcher" = x183,aA0 "/claim/cut.py" = x184
   generalize aA0 ?lit=y
   generalize aA0=f
   exact rfl
noncomputable def wF:uJ:=xI.1
end Mine
end
section
open PySem PySem.W PyProof.Rows
def Mine.xD:String->Str:=λs=>⟨(aA0 s).cps⟩
def Mine.ZX:aA0=Mine.xD:=funext λs=>rfl
def Mine.m5:Str->(String->Str)->Option aG3:=Mine.wF Mine.L2 Mine.T4 Mine.z0 Mine.Bs Mine.J8 Mine.Hv Mine.Cv Mine.Ji Mine.Si Mine.z2 Mine.Oc Mine.VV Mine.j3 Mine.ğ Mine.yR Mine.yY Mine.s9 Mine.O5 Mine.jA Mine.Ĕ Mine.uL Mine.Oy Mine.pV Mine.JU Mine.rR Mine.Wy Mine.Xl Mine.Gu Mine.G2 Mine.P0 Mine.ZE Mine.PL Mine.bV Mine.L7 Mine.jQ Mine.lS Mine.Wo Mine.Ă Mine.t8 Mine.qJ Mine.é Mine.PZ Mine.jH Mine.Xz Mine.t9 Mine.oO Mine.yN Mine.rJ Mine.zU Mine.YB Mine.PN Mine.rV Mine.OJ Mine.OC Mine.Yy Mine.XB Mine.ZA Mine.XM Mine.K6 Mine.Z0 Mine.iC Mine.Jo Mine.TC Mine.YV Mine.WO Mine.OD Mine.PF Mine.PS Mine.ZL Mine.gU Mine.cW Mine.Z9 Mine.T6 Mine.T5 Mine.UJ Mine.kE Mine.ć Mine.gJ Mine.vV Mine.pC Mine.aZ Mine.Zu Mine.Ê Mine.oM Mine.uE Mine.eN Mine.Zq Mine.ZN Mine.cJ Mine.cC Mine.qA Mine.O0 Mine.ZR Mine.X1 Mine.XC Mine.Y0 Mine.bX Mine.tU Mine.kS Mine.iH Mine.iM Mine.fD Mine.jS Mine.zB Mine.eW Mine.uA Mine.Zy Mine.Y1 Mine.OU Mine.fL Mine.hY Mine.iW Mine.bR Mine.vM Mine.aR Mine.jO Mine.lM Mine.f0 Mine.fP Mine.iZ Mine.g8 Mine.Og Mine.OH Mine.Ot Mine.Ô Mine.oE Mine.qC Mine.O8 Mine.OW Mine.LO Mine.LW Mine.g7 Mine.eZ Mine.j4 Mine.iY Mine.ê Mine.KT Mine.uB Mine.vX Mine.qR Mine.u7 Mine.vJ Mine.pS Mine.u9 Mine.rN Mine.sJ Mine.qD Mine.qQ Mine.è Mine.tY Mine.pA Mine.oF Mine.oX Mine.oK Mine.n8 Mine.sH Mine.rC Mine.K3 Mine.u8 Mine.uI Mine.oH Mine.pM Mine.rL Mine.LH Mine.qB Mine.nQ Mine.t6 Mine.qY Mine.pX Mine.uX Mine.p9 Mine.KW Mine.rI Mine.rO Mine.tZ Mine.p7 Mine.sT Mine.oT Mine.sG Mine.qG Mine.LR Mine.pU Mine.sA Mine.tN Mine.Bk
def Mine.Yg:Mine.mN Mine.wF=Mine.m5:=by rfl'
def PySem.W.Fast.tw4405473275348712057:aG3:=aD5 aH1 (λp=>p) (Mine.m5 Mine.hxS Mine.xD)
def PySem.W.Fast.te4405473275348712057:aH1=PySem.W.Fast.tw4405473275348712057:=bO6 (λo:Option aG3=>(aD5 aH1 (λp=>p) o:aG3)) (Mine.xI.2.symm.trans ((congrFun (congrFun Mine.Yg Mine.Wg) aA0).trans ((congrFun (bO6 Mine.m5 Mine.YU) aA0).trans (bO6 (Mine.m5 Mine.hxS) Mine.ZX))))
def PySem.W.Fast.tw3097827553188353559:Str:=Mine.hxS
def PySem.W.Fast.te3097827553188353559:Mine.hxS=PySem.W.Fast.tw3097827553188353559:=rfl
end
section
open PySem PySem.W PyProof.Rows
namespace Mine
def UO:Mq=Mq:=rfl
def UE:Mf=Mf:=rfl
name_quick zzL for Mine.Mq by Mine.UO
name_quick zzR for Mine.Mf by Mine.UE
def qF:aG3:={pw with main:={pw.main with body:=((pw.main.body.drop 0).take 1)++((pw.main.body.drop 2).take 4)++((pw.main.body.drop 7).take 6)}}
noncomputable def looseF:List Str:=["_tuplegetter","Match","SequenceMatcher"]
def sY(s:aA7):Bool:=xlAt qF [] s&&recOk ([]:WRecords) s
def VM:Mq=Mf:=Fast.zzL_eq.trans ((by rfl':Fast.zzL=Fast.zzR).trans Fast.zzR_eq.symm)
def iS(w:aB9)(os:aS0):((staticsOk (importedModules pw.main.body) (bB0 w.params) (Ĥ w.params)&&namesBound pw (Ĥ w.params)&&gensDone ⟨Ĥ w.params,⟨[]⟩,{},kF,os⟩&&laidKept (bB0 w.params) (Ĥ w.params)))=true:=by rfl'
def fQ(w:aB9)(os:aS0):(seen ((recsOf qF).map (·.name)) (ownsOf qF) [] ⟨Ĥ w.params,#[],{},kF,os⟩)=expectedOf qF:=by rfl'
def cI(w:aB9)(os:aS0):((Ĥ w.params).bltView)=bltViewBooted:=by rfl'
def Zx(w:aB9)(os:aS0):((Ĥ w.params).keysOk (looseW qF looseF) ((recsOf qF).map (·.name)) ((litsOf qF).map (·.1)) ((clssOf qF (looseW qF looseF)).map (·.name))&&(Ĥ w.params).accountedOkI (importedModules pw.main.body)&&(Ĥ w.params).isNs aH2&&(Ĥ w.params).isNs aX0&&tablesOk qF (Ĥ w.params)&&sY ⟨Ĥ w.params,⟨[]⟩,{},kF,os⟩&&(if true then(⟨[]⟩:Array bK2).size==0 else !leftWithCleanup (⟨[]⟩:Array bK2)))=true:=by rfl'
def gC(w:aB9)(os:aS0):(tabsOk qF ⟨Ĥ w.params,⟨[]⟩,{},kF,os⟩)=true:=by rfl'
def kM(w:aB9)(os:aS0):(pinSeenD qF (drecsOf qF) ⟨Ĥ w.params,⟨[]⟩,{},kF,os⟩)=pinGoodD (drecsOf qF):=by rfl'
def bB(w:aB9)(os:aS0):(plainSeenE qF (looseW qF looseF) ⟨Ĥ w.params,⟨[]⟩,{},kF,os⟩)=plainGoodE qF (looseW qF looseF):=by rfl'
def dK(w:aB9)(os:aS0):(plainSeenD qF looseF ⟨Ĥ w.params,⟨[]⟩,{},kF,os⟩)=plainGoodD qF looseF:=by rfl'
def bD(w:aB9)(os:aS0):(wideSeen qF ⟨Ĥ w.params,⟨[]⟩,{},kF,os⟩)=wideGood qF:=by rfl'
def cG(w:aB9)(os:aS0):(clsSeenW qF looseF ⟨Ĥ w.params,⟨[]⟩,{},kF,os⟩)=clsGoodW qF looseF:=by rfl'
def W8(w:aB9)(os:aS0):(absHeap (Nz w.params) nF {})=Ĥ w.params:=by rfl'
noncomputable abbrev mF:Nat:=12+(1+(2274+2))
def X4(w:aB9)(os:aS0):topRun aX2 pw w 11 JB mF ⟨bB0 w.params,⟨[]⟩,bN2,bN8,os⟩ (topStub pw)=some ⟨Ĥ w.params,⟨[]⟩,{},kF,os⟩:=by
 have e1:topGo aX2 pw w 11 JB 12 ⟨bB0 w.params,⟨[]⟩,bN2,bN8,os⟩ (topStub pw)=some ((bI4 ⟨Kg w.params,15,{},⟨[]⟩,{},187,os⟩),⟨denote aX2 (.body bF GW),.body bF GW,AM,[topFrame AM]⟩):=by rfl'
 have e2:segRun aX2 pw w 11 JB 1 1 (bI4 ⟨Kg w.params,15,{},⟨[]⟩,{},187,os⟩) (blockOf bF GW (.body bF GW) AM [topFrame AM])=some (.next,(bI4 ⟨Kg w.params,15,{},⟨[]⟩,{},187,os⟩),.body bF GW,AM):=by rfl'
 have e3:segRunT mD pw w 11 JB 1 2274 ⟨Kg w.params,15,{},⟨[]⟩,{},187,os⟩ (piecesOf bF GW (.body bF GW) AM [topFrame AM])=_:=congrFun (congrFun (congrFun (congrFun VM w) pw) bF) os
 have e4:topRun aX2 pw w 11 JB 2 (bI4 ⟨Nz w.params,nF,{},⟨[]⟩,{},kF,os⟩) ⟨doneF .next,.body bF GW,iB,[topFrame AM]⟩=some ⟨absHeap (Nz w.params) nF {},⟨[]⟩,{},kF,os⟩:=by rfl'
 rw[<-Yw]at e3
 rw[W8 w os]at e4
 refine go_top e1 (piece_block e2 ?_)
 refine(bO6 (λl=>topRun aX2 pw w 11 JB _ _ (restOf l GW (.body bF GW) AM [topFrame AM])) (aF8 bF).symm).trans ?_
 exact piece_app (segRun_of e3) (piece_nil e4)
def Ω(w:aB9)(h:aF0):Prop:=∀b o,(Ĥ w.params).get? b=some o->h.get? b=some o
def dF:DefRec×List (Str×Expr):=(defOf qF "law").getD (⟨"",⟨[],[],none,[],[],none,[]⟩,[],default,default⟩,[])
def UZ(w:aB9):((bB0 w.params).isNs aH2&&(⟨[]⟩:Array bK2).size==0,(bB0 w.params).objs.size,(bB0 w.params).nsMap aH2 "__annotations__")=(true,11,JB):=by rfl'
def TR(s:aA7):fenceModules? pw s=some s:=by rfl'
def MN:opening pw=plainProg pw.main.scope.names:=by rfl'
def jV:LeftO pw qF looseF sY (λs=>s.heap) (λw=>Ĥ w.params) 4638 true:=by
 refine LeftO.of_pieces (H₀:=bB0) (H₁:=Ĥ) (gs₀:=⟨[]⟩) (gs₁:=⟨[]⟩) (d₀:=bN2) (d₁:={}) (k₀:=bN8) (k₁:=kF) (m₀:=11) (ann:=JB) (M:=mF)
  (boot_open MN (by decide) TR) UZ X4 (by decide) (λw=>?_)
 funext os
 have c0:=iS w os
 have c1:=fQ w os
 have c2:=cI w os
 have c3:=Zx w os
 have c4:=gC w os
 have c5:=kM w os
 have c6:=bB w os
 have c7:=dK w os
 have c8:=bD w os
 have c9:=cG w os
 exact aV9 c0 (aV9 (aV9 c1 (aV9 c2 (aV9 c3 (aV9 c4 (aV9 c5 (aV9 c6 (aV9 c7 (aV9 c8 c9)))))))) rfl)
abbrev mV:OpenLaw:=PySem.Challenge.rw_dm0059_05
def hd(call:WalkO qF looseF (XL qF []) Ω mV.row.toRowW dF.1 dF.2 λf vs=>PySem.call f vs):mV.Holds:=by
 w_on
 o_law
 refine holds_open (q:=qF) (loose:=looseF) (Xt:=sY) (XP:=XL qF []) (Yf:=λs=>s.heap) (Ya:=λw=>Ĥ w.params) (YP:=Ω) (N:=4638) jV
  (λw s e b o h=>?_) (λw h h' y k b o e=>k b o (y b o e)) (λs e=>xl_of s (aE8.mp e).1) XL.keeps
  (by rfl') (by rfl') (by rfl') (λs e=>recFacts_of (aE8.mp e).2) (by rfl) (by assumption) (by decide +kernel) ⟨rfl,rfl,rfl,rfl,rfl,by decide +kernel⟩ ?hw call
 ·rw[show s.heap=Ĥ w.params from e];exact h
 case hw=>w_witness2
section
noncomputable abbrev ŀ:aC1:=275
def H0(P:aD3):aF0:=⟨⟨(Co P).set ŀ {cls:=.none,data:=.freed}⟩,{}⟩
def ş(P:aD3):bE8:=((aC8 nF).zip (Co P)).eraseIdx ŀ
def E2(P:aD3):(ş P).In (H0 P):=bE8.in_of (as:=(aC8 nF).eraseIdx ŀ) (by rfl') (by rfl')
noncomputable abbrev Φ:aC1:=135
noncomputable abbrev aD:aC1:=242
noncomputable abbrev ļ:aC1:=82
noncomputable abbrev L4:aC1:=136
noncomputable abbrev aM:aC1:=89
noncomputable abbrev KQ:aC1:=91
def Xf(P:aD3)(S:aZ4):peek (ş P) S (aI2 (.ref Φ) "__iter__")=some (some (.builtin "tuple.__iter__")):=by rfl'
def dY(P:aD3)(S:aZ4):peek (ş P) S (aI2 (.ref Φ) "__len__")=some (some (.builtin "tuple.__len__")):=by rfl'
def vL(P:aD3)(S:aZ4):peek (ş P) S (aI2 (.ref Φ) "__lt__")=some (some (.builtin "tuple.__lt__")):=by rfl'
def Z8(P:aD3)(S:aZ4):peek (ş P) S (aI2 (.ref Φ) "__init__")=some (some (.builtin "object.__init__")):=by rfl'
def j7(P:aD3)(S:aZ4):peek (ş P) S (aR1 (.ref Φ) (.type "tuple"))=some true:=by rfl'
def Wf(P:aD3)(S:aZ4):peek (ş P) S (aR1 (.ref Φ) (.ref Φ))=some true:=by rfl'
def aE(P:aD3)(S:aZ4):peek (ş P) S (aR1 (.ref Φ) (.type "object"))=some true:=by rfl'
def iL(P:aD3)(S:aZ4):peek (ş P) S (isType (.ref Φ))=some true:=by rfl'
def Ys(P:aD3)(S:aZ4):peek (ş P) S (bE4 (.ref Φ))=some none:=by rfl'
def Wq(P:aD3)(S:aZ4):peek (ş P) S (Bind.staticBase (.ref Φ))=some (.type "tuple"):=by rfl'
def Wb(P:aD3)(S:aZ4):peek (ş P) S (bD3 (.ref Φ) "__call__")=some (some (.builtin "type.__call__")):=by rfl'
def X5(P:aD3)(S:aZ4):peek (ş P) S (aW6 (.ref Φ) (.type "type"))=some true:=by rfl'
def nJ(P:aD3):(H0 P).isNs aH2=true:=by rfl'
def đ(P:aD3):(H0 P).isNs aX0=true:=by rfl'
noncomputable def Ę:List (Str×AV):=[("len",.fn .len),("range",.fn .range),("set",.fn .set),("enumerate",.fn .enumerate),("list",.fn .list),("map",.fn .map),("tuple",.fn .tuple),("min",.fn .min),("max",.fn .max),("Match",.glo Φ),("SequenceMatcher",.glo aD),("_law_clear",.glo 253),("_law_deed",.glo 258),("_law_blocks",.glo 263),("_law_follow",.glo 268),("_law_bonds",.glo 273)]
def wN(x:Str):Option AV:=Ę.lookup x
def OM(P:aD3)(x:Str)(v:AV):Prop:=∃c,Lg v=some c/\((∃mg,(H0 P).Ns aH2 mg/\mg x=some c)\/∃mg mb,(H0 P).Ns aH2 mg/\mg x=none/\(H0 P).Ns aX0 mb/\mb x=some c)
def TM{P:aD3}{x:Str}{v:AV}{c:Value}(h0:Lg v=some c)(h1:(H0 P).nsMap aH2 x=none)(h2:(H0 P).nsMap aX0 x=some c):OM P x v:=⟨c,h0,.inr ⟨_,_,.of_isNs (nJ P),h1,.of_isNs (đ P),h2⟩⟩
def WX{P:aD3}{x:Str}{v:AV}{c:Value}(h0:Lg v=some c)(h1:(H0 P).nsMap aH2 x=some c):OM P x v:=⟨c,h0,.inl ⟨_,.of_isNs (nJ P),h1⟩⟩
def BZ{P:aD3}{y:Str}{w:AV}{r:List (Str×AV)}(h:OM P y w)(q :∀x v,r.lookup x=some v->OM P x v) :∀x v,((y,w)::r).lookup x=some v->OM P x v:=λx v e=>BY e (λa b=>a▸b▸h) (q x v)
def YN(P:aD3) :∀x v,wN x=some v->OM P x v:=
 BZ (TM rfl (by rfl') (by rfl')) (BZ (TM rfl (by rfl') (by rfl')) (BZ (TM rfl (by rfl') (by rfl')) (BZ (TM rfl (by rfl') (by rfl')) (BZ (TM rfl (by rfl') (by rfl')) (BZ (TM rfl (by rfl') (by rfl')) (BZ (TM rfl (by rfl') (by rfl')) (BZ (TM rfl (by rfl') (by rfl')) (BZ (TM rfl (by rfl') (by rfl')) (BZ (WX rfl (by rfl')) (BZ (WX rfl (by rfl')) (BZ (WX rfl (by rfl')) (BZ (WX rfl (by rfl')) (BZ (WX rfl (by rfl')) (BZ (WX rfl (by rfl')) (BZ (WX rfl (by rfl')) λ_ _=>AA)))))))))))))))
def u6(P:aD3):(clsIn (ş P) Φ).any (λcd=>!cd.hasDel && !cd.mro.isEmpty)=true:=by rfl'
def g6(P:aD3):Hd (H0 P) Φ ļ where
 iter:=λM=>aM0 (E2 P) (Xf P _)
 sub:=λM=>aM0 (E2 P) (j7 P _)
 typ:=λM=>aM0 (E2 P) (iL P _)
 len:=λM=>aM0 (E2 P) (dY P _)
 lt:=λM=>aM0 (E2 P) (vL P _)
 base:=λM=>aM0 (E2 P) (Wq P _)
 init:=λM=>aM0 (E2 P) (Z8 P _)
 obj:=by
  obtain⟨cd,h1,h2⟩:=any_some (u6 P)
  simp only[aH6,bE6]at h2
  unfold clsIn at h1
  split at h1
  ·rename_i oc od c sl ho
   cases h1
   exact⟨oc,od,_,sl,E2 P _ _ ho,h2.1,h2.2⟩
  ·cases h1
 made:=λM=>aM0 (E2 P) (Ys P _)
 call:=λM=>aM0 (E2 P) (Wb P _)
 inst:=λM=>aM0 (E2 P) (X5 P _)
 self:=λM=>aM0 (E2 P) (Wf P _)
 top:=λM=>aM0 (E2 P) (aE P _)
def i7(P:aD3):(Co P).length=nF:=by rfl'
def r4(P:aD3)(T:aC1->Option Ŕ)(init:Option Ŕ)(new mak:Bool)(frz wk lk:Pos->Bool)(lj:Option (Int->Bool)):Pm:=⟨ş P,Φ,aD,wN,T,init,new,mak,frz,wk,lk,lj⟩
abbrev Qk(P:aD3)(T:aC1->Option Ŕ)(init:Option Ŕ)(new mak:Bool)(frz wk:Pos->Bool):Pm:=r4 P T init new mak frz wk (λ_=>false) none
noncomputable abbrev aI:aC1:=160
def xZ(P:aD3):(recIn (ş P) KQ "classmethod").any (λl=>l.head?==some (.ref aM))=true:=by rfl'
def rX(P:aD3) :∃rest,recIn (ş P) KQ "classmethod" = some (.ref aM::rest):=by
 obtain⟨l,h1,h2⟩:=any_some (xZ P)
 cases l with
 | nil=>cases h2
 | cons v r=>
  have:v = .ref aM:=by simpa using h2
  subst this
  exact⟨r,h1⟩
noncomputable def Bz:List aE7->Str->List aE7×Scope
 | [],_=>([],⟨.module,[],false,false,[]⟩)
 | .FunctionDef n a b _ _ _ sc _ _ _::r,x=>if n=x then(b,sc)else Bz r x
 | _::r,x=>Bz r x
def DO:List aE7:=(Bz pw.main.body "law").1
def Fs:Scope:=(Bz pw.main.body "law").2
def LD:Expr:=match DO.getD 2 (.Pass AM)with
 | .Assign _ (.Tuple (.Call _ [e] _ _::_) _ _) _=>e
 | _=>.Name ("":Str) AM
def G0:aG0×Expr×Scope×Pos:=match LD with
 | .Lambda ps e sc p=>(ps,e,sc,p)
 | _=>(⟨[],[],none,[],[],none,[]⟩,.Name ("":Str) AM,⟨.module,[],false,false,[]⟩,AM)
def tR(P:aD3):Value:=((H0 P).nsMap aH2 "__name__").getD .none
noncomputable def Wh:Str:=(("law":Str)++(".<locals>.":Str))++("<lambda>":Str)
def Um(P:aD3)(u:Value):aS6:=kla_fn ("<lambda>":Str) Wh G0.1 G0.2.1 G0.2.2.1 [] (tR P) u .none
variable{w:aB9}{T:aC1->Option Ŕ}{init:Option Ŕ}{new mak:Bool}{frz wk lk:Pos->Bool}{lj:Option (Int->Bool)}{d:Nat}
def lF(w:aB9):CU:=⟨pw,w,Φ,Um w.params,Wh⟩
def wV(fn :∀f tr,T f=some tr->BP (lF w) (H0 w.params) (d+1) (.ref f) tr)(hn:new=true->BP (lF w) (H0 w.params) d (.ref ļ) (Im Φ))(hm:mak=true->BP (lF w) (H0 w.params) d (.ref aM) (GK Φ))
  (hi :∀tr,init=some tr->BP (lF w) (H0 w.params) d (.ref aI) tr) (hl :∀f,lj=some f->Lf (lF w) (H0 w.params) (d+1) f):LP (lF w) (H0 w.params) (r4 w.params T init new mak frz wk lk lj) d ļ L4 aM KQ aI where
 hC:=rfl
 K:=E2 _
 N:=g6 _
 Y:=⟨by rfl',by rfl',⟨[],by rfl'⟩⟩
 keepC:=by rfl'
 sys:=by show sysModules<((Co w.params).set ŀ _).length;rw[List.length_set,i7];decide
 glob:=YN _
 make:=by rfl'
 cmo:=rX _
 fn:=fn
 new:=hn
 mkOk:=hm
 init:=λtr e=>⟨by rfl',by rfl',by rfl',by rfl',hi tr e⟩
 lam:=hl
def Sz(fn :∀f tr,T f=some tr->BP (lF w) (H0 w.params) (d+1) (.ref f) tr)(hn:new=true->BP (lF w) (H0 w.params) d (.ref ļ) (Im Φ))(hm:mak=true->BP (lF w) (H0 w.params) d (.ref aM) (GK Φ))
  (hi :∀tr,init=some tr->BP (lF w) (H0 w.params) d (.ref aI) tr):LP (lF w) (H0 w.params) (Qk w.params T init new mak frz wk) d ļ L4 aM KQ aI:=wV fn hn hm hi λ_ e=>nomatch e
end
def CJ(P:aD3)(a:aC1):aS6:=match(ş P).lookup a with
 | some ⟨_,_,.func fd,_⟩=>fd
 | _=>default
def Av(P:aD3)(a:aC1):Bool:=match(ş P).lookup a with
 | some ⟨_,_,.func fd,_⟩=>codeIn (ş P) fd.code fd.qualname&&fd.closure.isEmpty&&fd.scope.names.all (λx=>x.2 != .free) && !fd.scope.isCoroutine && !fd.scope.isGenerator&&fd.scope.kind == .function&&fd.globals==aH2&&fd.builtins==aX0
 | _=>false
def kR(P:aD3):(H0 P).noLimitOk=true:=by rfl'
noncomputable def TK(sc:Scope)(ps:List Str):Bool:=ps.all λx=>sc.names.lookup x==some .local||sc.names.lookup x==some .cell
def RH{P:aD3}{a:aC1}{body:List aE7}{ps:List Str}{dvs:List Value}(h:Av P a=true)(hb:(CJ P a).body = .stmts body)(nd:ps.Nodup)(lc:TK (CJ P a).scope ps=true)(bd :∀(s:aA7) (vas:List Value),(∀b o,(H0 P).get? b=some o->s.heap.get? b=some o)->vas.length+dvs.length=ps.length->bB4 s (CJ P a) ⟨vas,[]⟩ (ps.zip (vas++dvs))):VJ (H0 P) a (CJ P a) body ps dvs/\(CJ P a).globals=aH2/\(CJ P a).builtins=aX0:=by
 have lc :∀x∈ps,(CJ P a).scope.names.lookup x=some .local\/(CJ P a).scope.names.lookup x=some .cell:=λx hx=>(bC5.mp (bA5.mp lc x hx)).imp aF2 aF2
 unfold Av at h
 unfold CJ at hb lc bd ⊢
 split at h
 ·rename_i o1 ĩ fd o3 ho
  rw[ho]at hb lc bd
  simp only at hb lc bd
  simp only[aH6,bE6,beq_iff_eq,bA5,bne_iff_ne,ne_eq,List.isEmpty_iff]at h
  obtain⟨⟨⟨⟨⟨⟨⟨h1,h2⟩,h3⟩,ō⟩,Ξ⟩,Ť⟩,h7⟩,h8⟩:=h
  exact⟨⟨⟨_,E2 P _ _ ho,rfl⟩,.of_ok (kR P),codeRec_of (E2 P) h1,hb,h2,h3,ō,Ξ,Ť,nd,lc,bd⟩,h7,h8⟩
 ·cases h
def nO{w:aB9}{d fuel:Nat}{P:Pm}{a:aC1}{body:List aE7}{sc:Scope}{ps:List Str}{tr:Ŕ}
  (W:LP (lF w) (H0 w.params) P d ļ L4 aM KQ aI) (h:Av w.params a=true) (hb:(CJ w.params a).body = .stmts body) (hs:(CJ w.params a).scope=sc) (nd:ps.Nodup) (lc:TK sc ps=true)
  (bd :∀(s:aA7) (vas:List Value),(∀b o,(H0 w.params).get? b=some o->s.heap.get? b=some o)->vas.length=ps.length->bB4 s (CJ w.params a) ⟨vas,[]⟩ (ps.zip vas))
  (hw :∀as os Q,tr as os Q->(as.length=ps.length/\C1 os)/\wL P (EI P sc fuel) body (A7 (ps.zip as) os) (AG os.length Q)):BP (lF w) (H0 w.params) (d+2) (.ref a) tr:=by
 obtain⟨K,g1,g2⟩:=RH (dvs:=[]) h hb nd (hs▸lc) λs vas q e=>Eq.mpr (bO6 (λl=>bB4 s (CJ w.params a) ⟨vas,[]⟩ (ps.zip l)) (aF8 vas)) (bd s vas q e)
 exact T1 K (λX e1 e2 hA h1 h2 h3=>XS ⟨e1▸e2▸W,hA,h1.trans g1,h2.trans g2,h3.trans hs,hs▸K.kind⟩ fuel) hw
def ð{es:List AV}{dvs:List Value}{w:aB9}{d fuel:Nat}{P:Pm}{a:aC1}{body:List aE7}{sc:Scope}{ps:List Str}{tr:Ŕ}
  (W:LP (lF w) (H0 w.params) P d ļ L4 aM KQ aI) (h:Av w.params a=true) (hb:(CJ w.params a).body = .stmts body) (hs:(CJ w.params a).scope=sc) (nd:ps.Nodup) (lc:TK sc ps=true)
  (bd :∀(s:aA7) (vas:List Value),(∀b o,(H0 w.params).get? b=some o->s.heap.get? b=some o)->vas.length+dvs.length=ps.length->bB4 s (CJ w.params a) ⟨vas,[]⟩ (ps.zip (vas++dvs)))
  (hdv :∀{L:CU} {G:Ű} {h:aF0} {n:Nat},A2 L G h n es dvs)
  (hw :∀as os Q,tr as os Q->(as.length+es.length=ps.length/\C1 os)/\wL P (EI P sc fuel) body (A7 (ps.zip (as++es)) os) (AG os.length Q)):BP (lF w) (H0 w.params) (d+2) (.ref a) tr:=by
 obtain⟨K,g1,g2⟩:=RH h hb nd (hs▸lc) bd
 exact Ke K hdv (λX e1 e2 hA h1 h2 h3=>XS ⟨e1▸e2▸W,hA,h1.trans g1,h2.trans g2,h3.trans hs,hs▸K.kind⟩ fuel) hw
def Pf{w:aB9}{d fuel:Nat}{P:Pm}{a:aC1}{body:List aE7}{sc:Scope}{ps:List Str}{tr:Ŕ}
  (W:LP (lF w) (H0 w.params) P d ļ L4 aM KQ aI) (h:Av w.params a=true) (hb:(CJ w.params a).body = .stmts body) (hs:(CJ w.params a).scope=sc) (nd:ps.Nodup) (lc:TK sc ps=true)
  (bd :∀vas:List Value,vas.length=ps.length->aU7 (CJ w.params a) ⟨vas,[]⟩=pure (ps.zip vas))
  (hw :∀as os Q,tr as os Q->(as.length=ps.length/\C1 os)/\wL P (EI P sc fuel) body (A7 (ps.zip as) os) (AG os.length Q)):BP (lF w) (H0 w.params) (d+2) (.ref a) tr:=
 nO W h hb hs nd lc (λs vas _ e=>bJ4 (bd vas e)) hw
noncomputable def Qn:Pos->Bool:=λ_=>false
abbrev ž(w:aB9):Pm:=Qk w.params (λ_=>none) none false false Qn Qn
def w0{w:aB9}{d:Nat}:LP (lF w) (H0 w.params) (ž w) d ļ L4 aM KQ aI:=Sz (λ_ _ e=>nomatch e) (λe=>nomatch e) (λe=>nomatch e) (λ_ e=>nomatch e)
abbrev UH:List aE7:=A6 (pw.main.body[3]?)
def w9:List aE7:=(Bz UH "__new__").1
def xA:Scope:=(Bz UH "__new__").2
def ZW(P:aD3):(CJ P 82).body = .stmts w9/\(CJ P 82).scope=xA/\Av P 82=true:=⟨by rfl',by rfl',by rfl'⟩
def Zf{α:Type}{m:List α->Prop}(h:m []) :∀v:List α,v.length=0->m v:=λv e=>(aF5 e).symm▸h
def K1{α:Type}{m:List α->Prop}{n:Nat}(h :∀a v,v.length=n->m (a::v)) :∀v:List α,v.length=n+1->m v:=λv=>aB5 (motive:=λv=>v.length=n+1->m v) (λe=>Nat.noConfusion e) (λa v _ e=>h a v (bK4 e)) v
def Vq{f:aS6}{p q r t:Str}(h :∀a b c d:Value,aU7 f ⟨[a,b,c,d],[]⟩=pure ([(p,a),(q,b),(r,c),(t,d)])) :∀vas:List Value,vas.length=4->aU7 f ⟨vas,[]⟩=pure (([p,q,r,t]:List Str).zip vas):=
 K1 λa=>K1 λb=>K1 λc=>K1 λd=>Zf (h a b c d)
def ď{w:aB9}{a b c:AV}{Q:AV->List Ob->Prop}:wL (ž w) (EI (ž w) xA 20) w9 (A7 ((["_cls","a","b","size"]:List Str).zip [.glo Φ,a,b,c]) []) (AG 0 Q) =
  AG 0 Q (.ret (.mat [a,b,c])) (A7 [("_cls",.glo Φ),("a",a),("b",b),("size",c)] []):=by rfl'
def AH{a:AV}{r:List AV}(h1:a.sub nn=some a)(h2:AD nn r=some r):AD nn (a::r)=some (a::r):=by
 show(a.sub nn).bind (λa=>(AD nn r).map (a :: ·))=_
 rw[h1,h2];rfl
def AR{k:SK}{vs:List AV}(h:AD nn vs=some vs):(AV.seq k vs).sub nn=some (.seq k vs):=(bO6 (aD8 (AV.seq k)) h).trans rfl
def B6:C1 []:=λ_ _=>AA
def ZH{w:aB9}{d:Nat}:BP (lF w) (H0 w.params) (d+2) (.ref ļ) (Im Φ):=
 Pf w0 (ZW _).2.2 (ZW _).1 (ZW _).2.1 (ps:=["_cls","a","b","size"]) (by decide) (by rfl') (Vq λa b c d=>by rfl') λas os Q hh=>by
  obtain⟨a,b,c,ea,eo,hs,hq⟩:=hh
  subst ea;subst eo
  exact⟨⟨rfl,B6⟩,ď.mpr ⟨_,_,[],rfl,.refl _,AR (AH hs.1 (AH hs.2.1 (AH hs.2.2 rfl))),rfl,B6,λ_ _=>AA,hq⟩⟩
def wC:List aE7:=(Bz UH "_make").1
def wA:Scope:=(Bz UH "_make").2
def W1(P:aD3):(CJ P 89).body = .stmts wC/\(CJ P 89).scope=wA/\Av P 89=true:=⟨by rfl',by rfl',by rfl'⟩
def Ka{f:aS6}{p q:Str}(h :∀a b:Value,aU7 f ⟨[a,b],[]⟩=pure ([(p,a),(q,b)])) :∀vas:List Value,vas.length=2->aU7 f ⟨vas,[]⟩=pure (([p,q]:List Str).zip vas):=
 K1 λa=>K1 λb=>Zf (h a b)
def Ď{w:aB9}{a b c:AV}{Q:AV->List Ob->Prop}:wL (ž w) (EI (ž w) wA 20) wC (A7 ((["cls","iterable"]:List Str).zip [.glo Φ,.tup [a,b,c]]) []) (AG 0 Q) =
  AG 0 Q (.ret (.mat [a,b,c])) (A7 [("cls",.glo Φ),("iterable",.tup [a,b,c]),("result",.mat [a,b,c])] []):=by rfl'
def v0{vs:List AV}(h:vs.length=3) :∃a b c,vs=[a,b,c]:=by
 match vs,h with
 | [a,b,c],_=>exact⟨a,b,c,rfl⟩
def UT{w:aB9}{d:Nat}:BP (lF w) (H0 w.params) (d+2) (.ref aM) (GK Φ):=
 Pf w0 (W1 _).2.2 (W1 _).1 (W1 _).2.1 (ps:=["cls","iterable"]) (by decide) (by rfl') (Ka λa b=>by rfl') λas os Q hh=>by
  obtain⟨vs,ea,hl,hs,eo,hq⟩:=hh
  obtain⟨a,b,c,rfl⟩:=v0 hl
  subst ea;subst eo
  exact⟨⟨rfl,B6⟩,Ď.mpr ⟨_,_,[],rfl,.refl _,AR hs,rfl,B6,λ_ _=>AA,hq⟩⟩
def ĭ(l:List Int):List AV:=l.map AV.int
def CB(l:List Int):AD nn (ĭ l)=some (ĭ l):=aB5 (motive:=λl=>AD nn (ĭ l)=some (ĭ l)) rfl (λa r ih=>AH rfl ih) l
def E9(l:List Int):BQ (ĭ l)=some (l.map AB.int):=aB5 (motive:=λl=>BQ (ĭ l)=some (l.map AB.int)) rfl (λa r ih=>by
 show(BL (AV.int a)).bind (λk=>(BQ (ĭ r)).map (k :: ·))=_
 rw[ih];rfl) l
def AW(l:List Int):(ĭ l).length=l.length:=aB0 ..
noncomputable abbrev DB(a b mb op fb b2j bj:AV):List (Str×AV):=[("isjunk",.lam),("a",a),("b",b),("autojunk",.bool true),("matching_blocks",mb),("opcodes",op),("fullbcount",fb),("b2j",b2j),("bjunk",bj),("bpopular",.fset [])]
noncomputable abbrev Vx:List (Str×AV):=[("isjunk",.lam),("a",.none),("b",.none),("autojunk",.bool true)]
abbrev Nn:List aE7:=A6 (pw.main.body[5]?)
def Ub:List aE7:=(Bz Nn "set_seq1").1
def VB:Scope:=(Bz Nn "set_seq1").2
def S9(P:aD3):(CJ P 174).body = .stmts Ub/\(CJ P 174).scope=VB/\Av P 174=true:=⟨by rfl',by rfl',by rfl'⟩
abbrev wB(P:Pm)(sc:Scope)(b:List aE7)(ρ:List (Str×AV))(os:List Ob)(Q:AV->List Ob->Prop):Prop:=wL P (EI P sc 30) b (A7 ρ os) (AG os.length Q)
def vD{w:aB9}{ys la:List Int}{b mb op fb b2j bj:AV}{Q:AV->List Ob->Prop}:wB (ž w) VB Ub ((["self","a"]:List Str).zip [.ref 0,.lst (ĭ ys)]) [(aD,DB (.lst (ĭ la)) b mb op fb b2j bj)] Q =
  F0 (ĭ ys) (ĭ la) λr=>An r (AG 1 Q (.ret .none) (A7 [("self",.ref 0),("a",.lst (ĭ ys))] [(aD,DB (.lst (ĭ la)) b mb op fb b2j bj)])) (AG 1 Q .next (A7 [("self",.ref 0),("a",.lst (ĭ ys))] [(aD,DB (.lst (ĭ ys)) b .none .none fb b2j bj)])):=by rfl'
abbrev ŧ:AV:=.str ""
def Zz{w:aB9}{ys:List Int}{b mb op fb b2j bj:AV}{Q:AV->List Ob->Prop}:wB (ž w) VB Ub ((["self","a"]:List Str).zip [.ref 0,.lst (ĭ ys)]) [(aD,DB ŧ b mb op fb b2j bj)] Q =
  AG 1 Q .next (A7 [("self",.ref 0),("a",.lst (ĭ ys))] [(aD,DB (.lst (ĭ ys)) b .none .none fb b2j bj)]):=by rfl'
noncomputable abbrev Xo:List (Str×AV):=[("isjunk",.lam),("a",ŧ),("b",.none),("autojunk",.bool true),("matching_blocks",.none),("opcodes",.none)]
def gK{w:aB9}{Q:AV->List Ob->Prop}:wB (ž w) VB Ub ((["self","a"]:List Str).zip [.ref 0,ŧ]) [(aD,Vx)] Q=AG 1 Q .next (A7 [("self",.ref 0),("a",ŧ)] [(aD,Xo)]):=by rfl'
def CR{o:Ob}(h:AN nn o.2=some o.2):C1 [o]:=λi p e=>by
 cases i with
 | zero=>exact aA1 e▸h
 | succ i=>exact AA e
def D7{fl:Bn}{σ τ:St}{r:AV}{D:aC1}{at_:List (Str×AV)}{Q:AV->List Ob->Prop}(hf:Gw fl r)(hw:Ac σ τ)(h:τ.H.lookup 0=some (.inst D at_))(hr:r.sub nn=some r)(ha:AN nn at_=some at_)(hq:Q r [(D,at_)]):AG 1 Q fl σ:=
 ⟨r,τ,[(D,at_)],hf,hw,hr,rfl,CR ha,λi p e=>by
  cases i with
  | zero=>exact aA1 e▸h
  | succ i=>exact AA e,hq⟩
def Cr{x:Str}{a:AV}{r:List (Str×AV)}(h1:a.sub nn=some a)(h2:AN nn r=some r):AN nn ((x,a)::r)=some ((x,a)::r):=by
 show(a.sub nn).bind (λb=>(AN nn r).map ((x,b) :: ·))=_
 rw[h1,h2];rfl
def A0(l:List Int):(AV.lst (ĭ l)).sub nn=some (.lst (ĭ l)):=AR (CB l)
def Z6{l m:List Int}(h:l.map AB.int=m.map AB.int):l=m:=(List.map_inj_right λa b e=>AB.int.inj e).mp h
def NM{xs ys:List Int}{K:Bool->Prop}(h1:K false)(h2:xs=ys->K true):F0 (ĭ xs) (ĭ ys) K:=by
 unfold F0
 rw[E9,E9]
 exact⟨h1,λe=>h2 (Z6 e)⟩
structure Bw(a b mb op fb b2j bj:AV):Prop where
 a:a.sub nn=some a
 b:b.sub nn=some b
 mb:mb.sub nn=some mb
 op:op.sub nn=some op
 fb:fb.sub nn=some fb
 b2j:b2j.sub nn=some b2j
 bj:bj.sub nn=some bj
def Bw.shut{a b mb op fb b2j bj:AV}(h:Bw a b mb op fb b2j bj):AN nn (DB a b mb op fb b2j bj)=some (DB a b mb op fb b2j bj):=
 Cr rfl (Cr h.a (Cr h.b (Cr rfl (Cr h.mb (Cr h.op (Cr h.fb (Cr h.b2j (Cr h.bj rfl))))))))
def wH(a:AV)(ys:List Int)(P:List Int->Prop):Prop:=a=ŧ\/∃la,a = .lst (ĭ la)/\(ys=la->P la)
def N8:Ŕ:=λas os Q=>(as=[.ref 0,ŧ]/\os=[(aD,Vx)]/\Q .none [(aD,Xo)])\/∃ys a b mb op fb b2j bj,as=[.ref 0,.lst (ĭ ys)]/\os=[(aD,DB a b mb op fb b2j bj)]/\Bw a b mb op fb b2j bj/\
 Q .none [(aD,DB (.lst (ĭ ys)) b .none .none fb b2j bj)]/\wH a ys λla=>Q .none [(aD,DB (.lst (ĭ la)) b mb op fb b2j bj)]
def OB{w:aB9}{d:Nat}:BP (lF w) (H0 w.params) (d+2) (.ref 174) N8:=
 Pf w0 (S9 _).2.2 (S9 _).1 (S9 _).2.1 (ps:=["self","a"]) (by decide) (by rfl') (Ka λa b=>by rfl') λas os Q hh=>by
  refine hh.elim (λhh=>?_) λhh=>?_
  ·obtain⟨ea,eo,hq⟩:=hh
   subst ea;subst eo
   exact⟨⟨rfl,CR rfl⟩,gK.mpr (D7 (fl:=.next) rfl (.refl _) rfl rfl rfl hq)⟩
  ·obtain⟨ys,a,b,mb,op,fb,b2j,bj,ea,eo,S,h1,h2⟩:=hh
   subst ea;subst eo
   have go:AG 1 Q .next (A7 [("self",.ref 0),("a",.lst (ĭ ys))] [(aD,DB (.lst (ĭ ys)) b .none .none fb b2j bj)]):=D7 (fl:=.next) rfl (.refl _) rfl rfl (Bw.shut ⟨A0 ys,S.b,rfl,rfl,S.fb,S.b2j,S.bj⟩) h1
   refine⟨⟨rfl,CR S.shut⟩,h2.elim (λe=>by subst e;exact Zz.mpr go) λq=>?_⟩
   obtain⟨la,e,q⟩:=q
   subst e
   exact vD.mpr (NM go λe=>D7 (fl:=.ret .none) rfl (.refl _) rfl rfl S.shut (q e))
def Ta:List aE7:=(Bz Nn "set_seq2").1
def VI:Scope:=(Bz Nn "set_seq2").2
def Ip(P:aD3):(CJ P 181).body = .stmts Ta/\(CJ P 181).scope=VI/\Av P 181=true:=⟨by rfl',by rfl',by rfl'⟩
noncomputable def Y3(a:aC1)(tr:Ŕ):aC1->Option Ŕ:=λf=>bif aD0 f a then some tr else none
abbrev p1(w:aB9)(a:aC1)(tr:Ŕ):Pm:=Qk w.params (Y3 a tr) none false false Qn Qn
def sQ{w:aB9}{tr:Ŕ}{ys:List Int}{a mb op fb b2j bj:AV}{Q:AV->List Ob->Prop}:wB (p1 w 188 tr) VI Ta ((["self","b"]:List Str).zip [.ref 0,.lst (ĭ ys)]) [(aD,DB a ŧ mb op fb b2j bj)] Q =
  BE tr [.ref 0] (A7 [("self",.ref 0),("b",.lst (ĭ ys))] [(aD,DB a (.lst (ĭ ys)) .none .none .none b2j bj)]) λ_ σ=>AG 1 Q .next σ:=by rfl'
def gE{w:aB9}{tr:Ŕ}{ys lb:List Int}{a mb op fb b2j bj:AV}{Q:AV->List Ob->Prop}:wB (p1 w 188 tr) VI Ta ((["self","b"]:List Str).zip [.ref 0,.lst (ĭ ys)]) [(aD,DB a (.lst (ĭ lb)) mb op fb b2j bj)] Q =
  F0 (ĭ ys) (ĭ lb) λr=>An r (AG 1 Q (.ret .none) (A7 [("self",.ref 0),("b",.lst (ĭ ys))] [(aD,DB a (.lst (ĭ lb)) mb op fb b2j bj)])) (BE tr [.ref 0] (A7 [("self",.ref 0),("b",.lst (ĭ ys))] [(aD,DB a (.lst (ĭ ys)) .none .none .none b2j bj)]) λ_ σ=>AG 1 Q .next σ):=by rfl'
noncomputable abbrev nH:List (Str×AV):=[("isjunk",.lam),("a",ŧ),("b",ŧ),("autojunk",.bool true),("matching_blocks",.none),("opcodes",.none),("fullbcount",.none)]
def gR{w:aB9}{tr:Ŕ}{Q:AV->List Ob->Prop}:wB (p1 w 188 tr) VI Ta ((["self","b"]:List Str).zip [.ref 0,ŧ]) [(aD,Xo)] Q =
  BE tr [.ref 0] (A7 [("self",.ref 0),("b",ŧ)] [(aD,nH)]) λ_ σ=>AG 1 Q .next σ:=by rfl'
def TW:List aE7:=(Bz Nn "set_seqs").1
def V2:Scope:=(Bz Nn "set_seqs").2
def R7(P:aD3):(CJ P 167).body = .stmts TW/\(CJ P 167).scope=V2/\Av P 167=true:=⟨by rfl',by rfl',by rfl'⟩
noncomputable def nV(a:aC1)(tr:Ŕ)(b:aC1)(tr':Ŕ):aC1->Option Ŕ:=λf=>bif aD0 f a then some tr else bif aD0 f b then some tr' else none
abbrev p2(w:aB9)(a:aC1)(tr:Ŕ)(b:aC1)(tr':Ŕ):Pm:=Qk w.params (nV a tr b tr') none false false Qn Qn
def tQ{w:aB9}{t1 t2:Ŕ}{Q:AV->List Ob->Prop}:wB (p2 w 174 t1 181 t2) V2 TW ((["self","a","b"]:List Str).zip [.ref 0,ŧ,ŧ]) [(aD,Vx)] Q =
  BE t1 [.ref 0,ŧ] (A7 [("self",.ref 0),("a",ŧ),("b",ŧ)] [(aD,Vx)]) λ_ σ=>wL (p2 w 174 t1 181 t2) (EI (p2 w 174 t1 181 t2) V2 30) (TW.drop 2) σ (AG 1 Q):=by rfl'
end Mine
end
namespace Mine
noncomputable def CM(i:Int):Bool:=i.fmod 3==2
end Mine
section
open PySem PySem.W PyProof.Rows PySem.Calls
namespace Mine
def RA:G0.2.1 = .Compare (.BinOp (.Name "line" ⟨498,51,498,55⟩) .Mod (.Constant (.int 3) 0 ⟨498,58,498,59⟩) ⟨498,51,498,59⟩) [.Eq] [.Constant (.int 2) 0 ⟨498,63,498,64⟩] ⟨498,51,498,64⟩:=by rfl'
def TZ{w:aB9}{d:Nat}:Lf (lF w) (H0 w.params) d CM:=λ{A s u a i t R} hA hb hf hc h=>by
 obtain⟨cd,b,rfl,o,ho,h1,h2⟩:=hc
 refine kla_callFunE (body:=G0.2.1) (aD1 (aE1 _ _) hA.2.1) hf rfl (by rfl') (by rfl') rfl ⟨cd,o,b.1,b.2,rfl,ho,h1,h2⟩ ?_
 have hbd:aU7 (Um w.params (.ref cd)) ⟨[bA4 i t],[]⟩=pure [(("line":Str),bA4 i t)]:=by rfl'
 refine aT9 hbd (wpAny_newFunctionEnv (λx hx=>?_) (λx hx=>?_) (λh₁ hns hsb=>?_) (by rfl'))
 ·have:G0.2.2.1.names.all (λx=>x.2 != .cell)=true:=by rfl'
  exact bne_iff_ne.mp (bA5.mp this x hx)
 ·rw[aB6.mp hx];rfl'
 ·have ľ :∀b o,s.heap.get? b=some o->h₁.get? b=some o:=λb o e=>hsb.extBut b o (aE5 (aI8 e)) (aB1 _ e)
  have k2:s.heap.objs.size<=h₁.objs.size:=by rw[hsb.1,aE3];exact aK1 _
  refine⟨((aF0.NoLimit.of_ok (kR w.params)).keeps hb).keeps ľ,kla_codeExpr ?_⟩
  show aD2 _ _ (eval G0.2.1 _) _ _ _
  rw[RA]
  refine wpAny_Compare1 (wpAny_BinOp (bJ7 (wpAny_loadName_local (by rfl') (by rfl') hns rfl ?_)))
  refine bE0 (mod_int' (by decide) (bE0 ?_))
  exact eq_int (h h₁ _ ľ k2)
end Mine
end
section
open PySem PySem.W PyProof.Rows
namespace Mine
def Jt:Expr:=.Name ("":Str) AM
def yF(d:List Expr×Expr×List aE7×List aE7)(s:aE7):List Expr×Expr×List aE7×List aE7:=bK8 (motive_2:=λ_=>List Expr×Expr×List aE7×List aE7) s (λ_ _ _ _ _ _ _ _ _ _=>d) (λ_ _ _ _ _ _ _ _ _ _=>d) (λ_ _ _ _ _ _ _ _ _ _ _=>d) (λo _=>([],o.getD Jt,[],[])) (λts _=>(ts,Jt,[],[])) (λts e _=>(ts,e,[],[])) (λ_ _ _ _ _ _ _=>d) (λt _ e _=>([t],e,[],[])) (λ_ _ _ _ _=>d) (λt i b o _=>([t],i,b,o)) (λ_ _ _ _ _=>d) (λt b o _=>([],t,b,o)) (λt b o _=>([],t,b,o)) (λ_ _ _=>d) (λ_ _ _=>d) (λ_ _ _=>d) (λ_ _ _=>d) (λ_ _ _ _ _=>d) (λ_ _ _ _ _=>d) (λ_ _ _=>d) (λ_ _=>d) (λ_ _ _ _=>d) (λ_ _=>d) (λ_ _=>d) (λe _=>([],e,[],[])) (λ_=>d) (λ_=>d) (λ_=>d)
def Qv(s:aE7):List Expr×Expr×List aE7×List aE7:=yF ([],Jt,[],[]) s
noncomputable def V8(e:Expr):List Expr:=Expr.casesOn (motive_1:=λ_=>List Expr) e (λ_ l _=>l) (λ_ _ _=>[]) (λa _ b _=>[a,b]) (λ_ x _=>[x]) (λ_ _ _ _=>[]) (λt a b _=>[t,a,b]) (λ_ _ _=>[]) (λ_ _ _=>[]) (λx _ _ _=>[x]) (λ_ _ _ _=>[]) (λx v _ _ _=>[x,v]) (λ_ _ _ _=>[]) (λ_ _=>[]) (λ_ _=>[]) (λ_ _=>[]) (λl _ r _=>l::r) (λg l _ _=>g::l) (λ_ _ _ _=>[]) (λ_ _=>[]) (λ_ _ _=>[]) (λo _ _=>[o]) (λo i _=>[o,i]) (λ_ _=>[]) (λ_ _=>[]) (λl _=>l) (λl _ _=>l) (λ_ _ _ _=>[])
def Tt(e:Expr)(n:Nat):Expr:=(V8 e).getD n Jt
noncomputable def pW(d:List aF6×Scope)(e:Expr):List aF6×Scope:=Expr.casesOn (motive_1:=λ_=>List aF6×Scope) e (λ_ _ _=>d) (λ_ _ _=>d) (λ_ _ _ _=>d) (λ_ _ _=>d) (λ_ _ _ _=>d) (λ_ _ _ _=>d) (λ_ _ _=>d) (λ_ _ _=>d) (λ_ g s _=>(g,s)) (λ_ _ _ _=>d) (λ_ _ g s _=>(g,s)) (λ_ _ _ _=>d) (λ_ _=>d) (λ_ _=>d) (λ_ _=>d) (λ_ _ _ _=>d) (λ_ _ _ _=>d) (λ_ _ _ _=>d) (λ_ _=>d) (λ_ _ _=>d) (λ_ _ _=>d) (λ_ _ _=>d) (λ_ _=>d) (λ_ _=>d) (λ_ _=>d) (λ_ _ _=>d) (λ_ _ _ _=>d)
def aO(e:Expr):List aF6×Scope:=pW ([],⟨.module,[],false,false,[]⟩) e
def Cp(s:aE7):Expr×List aE7:=((Qv s).1.getD 0 Jt,(Qv s).2.2.1)
noncomputable def B4(s:aE7):List aE7:=(Qv s).2.2.1
def Dx:List aE7:=(Bz Nn "__chain_b").1
def EQ:Scope:=(Bz Nn "__chain_b").2
def Qg(P:aD3):(CJ P 188).body = .stmts Dx/\(CJ P 188).scope=EQ/\Av P 188=true:=⟨by rfl',by rfl',by rfl'⟩
noncomputable def fC:Pos->Bool:=λp=>aD0 p.line 245||aD0 p.line 248
abbrev pJ(w:aB9):Pm:=r4 w.params (λ_=>none) none false false Qn Qn fC (some CM)
def wJ{w:aB9}{d:Nat}:LP (lF w) (H0 w.params) (pJ w) d ļ L4 aM KQ aI:=wV (λ_ _ e=>nomatch e) (λe=>nomatch e) (λe=>nomatch e) (λ_ e=>nomatch e) λf e=>aA1 e▸TZ
abbrev Dv(w:aB9):ĥ:=EI (pJ w) EQ 30
def LC:Expr×List aE7:=Cp (Dx.getD 2 (.Pass AM))
def NA(w:aB9):AV->St->ſ->Prop:=λv σ K=>(ws (pJ w) EQ 29).A LC.1 v σ λσ=>wL (pJ w) (EI (pJ w) EQ 29) LC.2 σ K
abbrev Zl(ys:List Int):List (Str×AV):=[("self",.ref 0),("b",.lst (ĭ ys)),("b2j",.ref 1)]
noncomputable abbrev Hy(a b mb op fb b2j:AV)(tl:List (Str×AV)):List (Str×AV):=("isjunk",.lam)::("a",a)::("b",b)::("autojunk",.bool true)::("matching_blocks",mb)::("opcodes",op)::("fullbcount",fb)::("b2j",b2j)::tl
noncomputable abbrev Vd(bj:AV):List (Str×AV):=[("bjunk",bj),("bpopular",.fset [])]
abbrev Zi(ys:List Int)(at_:List (Str×AV))(ds:List (AB×AV))(L:List (Nat×AO))(m:Nat):St:=⟨Zl ys,(0,.inst aD at_)::(1,.dict ds)::L,m+2,1⟩
def uW{w:aB9}{ys:List Int}{a mb op fb b2j bj:AV}{K:ſ}:wL (pJ w) (Dv w) Dx (A7 [("self",.ref 0)] [(aD,DB a (.lst (ĭ ys)) mb op fb b2j bj)]) K =
  (Hf LC.1=true/\AD nn (ĭ ys)=some (ĭ ys)/\Cc (Bj (ĭ ys)) (NA w) (wL (pJ w) (EI (pJ w) EQ 29) []) (Zi ys (Hy a (.lst (ĭ ys)) mb op fb (.ref 1) (Vd bj)) [] [] 0) (λfl υ=>Bn.rec (wL (pJ w) (Dv w) (Dx.drop 3) υ K) (K .brk υ) (K .cont υ) (λv=>K (.ret v) υ) fl)):=by rfl'
def cU{w:aB9}{K:ſ}:wL (pJ w) (Dv w) Dx (A7 [("self",.ref 0)] [(aD,nH)]) K =
  (("":Str).cps.size=0/\Cc [] (NA w) (wL (pJ w) (EI (pJ w) EQ 29) []) ⟨[("self",.ref 0),("b",ŧ),("b2j",.ref 1)],[(0,.inst aD (Hy ŧ ŧ .none .none .none (.ref 1) [])),(1,.dict [])],2,1⟩ (λfl υ=>Bn.rec (wL (pJ w) (Dv w) (Dx.drop 3) υ K) (K .brk υ) (K .cont υ) (λv=>K (.ret v) υ) fl)):=by rfl'
abbrev Wj(ys:List Int)(at_:List (Str×AV))(ds:List (AB×AV))(L:List (Nat×AO))(m:Nat)(i:Int)(x:Int)(u:AV):St:=⟨[("self",.ref 0),("b",.lst (ĭ ys)),("b2j",.ref 1),("i",.int i),("elt",.int x),("indices",u)],(0,.inst aD at_)::(1,.dict ds)::L,m+2,1⟩
def bC{w:aB9}{ys:List Int}{at_:List (Str×AV)}{ds:List (AB×AV)}{L:List (Nat×AO)}{m:Nat}{i x:Int}{K:ſ}:NA w (.tup [.int i,.int x]) (Zi ys at_ ds L m) K =
  (2=2/\AE ds.length/\((∀u,ds.lookup (.int x)=some u->wL (pJ w) (EI (pJ w) EQ 29) (LC.2.drop 1) (Wj ys at_ ds (Al L (m+2) (.list [])) (m+1) i x u) K)/\
   (ds.lookup (.int x)=none->wL (pJ w) (EI (pJ w) EQ 29) (LC.2.drop 1) (Wj ys at_ (dset ds (.int x) (.ref (m+2))) (Al L (m+2) (.list [])) (m+1) i x (.ref (m+2))) K))):=by rfl'
def k8{w:aB9}{ys:List Int}{at_:List (Str×AV)}{ds:List (AB×AV)}{L:List (Nat×AO)}{m q:Nat}{i x:Int}{K:ſ}:wL (pJ w) (EI (pJ w) EQ 29) (LC.2.drop 1) (Wj ys at_ ds L m i x (.ref (q+2))) K =
  Ab (MD (ş w.params) (.ref (q+2)) "append" (Wj ys at_ ds L m i x (.ref (q+2)))) λg=>D1 (pJ w) g.1 (bif g.2 then [.ref (q+2),.int i]else [.int i]) (Wj ys at_ ds L m i x (.ref (q+2))) λ_ σ=>K .next σ:=by rfl'
def UU{K:bE8}{σ:St}{x:Nat}{vs:List AV}(h:σ.H.lookup x=some (.list vs)):MD K (.ref x) "append" σ=some (.fn .append,true):=by
 have r:CW σ (.ref x)=some (x,.list vs):=bO6 (aD8 (x,·)) h
 show JA (aD8 _ (bM0 (CW σ (.ref x)) _)) (aD8 _ (JA (bM0 (bM0 (aD8 _ (CW σ (.ref x))) AO.lst) _) _))=_
 rw[r];rfl'
def F5{P:Pm}{σ:St}{x:Nat}{v:AV}{vs:List AV}{Q:AV->St->Prop}(h:σ.H.lookup x=some (.list vs))(hz:AE vs.length)(q:Q .none (σ.set x (.list (vs++[v])))):D1 P (.fn .append) [.ref x,v] σ Q:=by
 show Ab (aD8 (x,·) (σ.H.lookup x)) λp=>Ab p.2.lst λvs=>AE vs.length/\Q .none (σ.set p.1 (.list (vs++[v])))
 rw[h]
 exact⟨hz,q⟩
abbrev Ĭ(P:Pm)(S:ĥ)(r:List aE7)(K:ſ):ſ:=λfl υ=>Bn.rec (wL P S r υ K) (K .brk υ) (K .cont υ) (λv=>K (.ret v) υ) fl
def Cn{P P':Pm}{S S':ĥ}{r:List aE7}{K:ſ}{σ:St}:wL P' S' [] σ (Ĭ P S r K)=wL P S r σ K:=rfl
def UK:List aE7:=B4 (Dx.getD 5 (.Pass AM))
def gW:Expr×List aE7:=Cp (UK.getD 0 (.Pass AM))
def lV:Expr×List aE7:=Cp (UK.getD 1 (.Pass AM))
def m7(w:aB9)(f:Expr×List aE7):AV->St->ſ->Prop:=λv σ K=>(ws (pJ w) EQ 28).A f.1 v σ λσ=>wL (pJ w) (EI (pJ w) EQ 28) f.2 σ K
noncomputable abbrev qN(b:AV):List (Str×AV):=[("self",.ref 0),("b",b),("b2j",.ref 1),("junk",.ref 2),("isjunk",.lam)]
abbrev nE(b:AV)(x:Int):List (Str×AV):=[("self",.ref 0),("b",b),("b2j",.ref 1),("junk",.ref 2),("isjunk",.lam),("elt",.int x)]
abbrev t7(b:AV)(n:Int):List (Str×AV):=[("self",.ref 0),("b",b),("b2j",.ref 1),("junk",.ref 2),("isjunk",.lam),("popular",.ref 3),("n",.int n)]
abbrev KN(b:AV)(at_:List (Str×AV))(H:List (Nat×AO))(n:Nat):St:=⟨qN b,(0,.inst aD at_)::H,3,n⟩
def gB{w:aB9}{ys:List Int}{a mb op fb bj:AV}{ds:List (AB×AV)}{K:ſ}:wL (pJ w) (Dv w) (Dx.drop 3) ⟨Zl ys,[(0,.inst aD (Hy a (.lst (ĭ ys)) mb op fb (.ref 1) (Vd bj))),(1,.dict ds)],2,1⟩ K =
  wL (pJ w) (Dv w) (Dx.drop 5) (KN (.lst (ĭ ys)) (Hy a (.lst (ĭ ys)) mb op fb (.ref 1) (Vd (.ref 2))) [(1,.dict ds),(2,.set [])] 1) K:=by rfl'
def YY{w:aB9}{K:ſ}:wL (pJ w) (Dv w) (Dx.drop 3) ⟨[("self",.ref 0),("b",ŧ),("b2j",.ref 1)],[(0,.inst aD (Hy ŧ ŧ .none .none .none (.ref 1) [])),(1,.dict [])],2,1⟩ K =
  wL (pJ w) (Dv w) (Dx.drop 5) (KN ŧ (Hy ŧ ŧ .none .none .none (.ref 1) [("bjunk",.ref 2)]) [(1,.dict []),(2,.set [])] 1) K:=by rfl'
def iQ{w:aB9}{b:AV}{at_:List (Str×AV)}{ds:List (AB×AV)}{K:ſ}:wL (pJ w) (Dv w) (Dx.drop 5) (KN b at_ [(1,.dict ds),(2,.set [])] 1) K =
  FO 1 (.dict ds) (D3 ds) (m7 w gW) (KN b at_ [(1,.dict ds),(2,.set [])] 1) (Ĭ (pJ w) (EI (pJ w) EQ 29) (UK.drop 1) (Ĭ (pJ w) (Dv w) (Dx.drop 6) K)):=by rfl'
def kO{w:aB9}{b:AV}{at_:List (Str×AV)}{ks:List AB}{x:Int}{K:ſ}:m7 w gW (.int x) (KN b at_ [(2,.set ks)] 3) K =
  An (CM x) (ks.length+1<scanBound/\K .next ⟨nE b x,[(0,.inst aD at_),(2,.set (GZ ks (.int x)))],3,3⟩) (K .next ⟨nE b x,[(0,.inst aD at_),(2,.set ks)],3,3⟩):=by rfl'
def fT{w:aB9}{b:AV}{at_:List (Str×AV)}{ds:List (AB×AV)}{ks:List AB}{K:ſ}:wL (pJ w) (EI (pJ w) EQ 29) (UK.drop 1) (KN b at_ [(2,.set ks),(1,.dict ds)] 1) K =
  ∀ks':List AB,ks'.Perm ks->FO 2 (.set ks) (ks'.map .key) (m7 w lV) (KN b at_ [(2,.set ks),(1,.dict ds)] 1) (Ĭ (pJ w) (EI (pJ w) EQ 29) [] K):=by rfl'
def bZ{w:aB9}{b:AV}{at_:List (Str×AV)}{ds:List (AB×AV)}{x:Int}{K:ſ}:m7 w lV (.int x) (KN b at_ [(1,.dict ds)] 3) K =
  (AE ds.length/\(ds.lookup (.int x)).isSome=true/\K .next ⟨nE b x,[(0,.inst aD at_),(1,.dict (Fz ds (.int x)))],3,3⟩):=by rfl'
def hU{w:aB9}{ys:List Int}{a mb op fb:AV}{ds:List (AB×AV)}{ks:List AB}{K:ſ}:wL (pJ w) (Dv w) (Dx.drop 6) (KN (.lst (ĭ ys)) (Hy a (.lst (ĭ ys)) mb op fb (.ref 1) (Vd (.ref 2))) [(1,.dict ds),(2,.set ks)] 1) K =
  (AE (ĭ ys).length/\An (decide ((200:Int)<=((ĭ ys).length:Int))) (wL (pJ w) (EI (pJ w) EQ 29) (B4 (Dx.getD 8 (.Pass AM))) ⟨t7 (.lst (ĭ ys)) (ĭ ys).length,[(0,.inst aD (Hy a (.lst (ĭ ys)) mb op fb (.ref 1) [("bjunk",.ref 2),("bpopular",.ref 3)])),(1,.dict ds),(2,.set ks),(3,.set [])],4,1⟩ (Ĭ (pJ w) (Dv w) [] K)) (K .next ⟨t7 (.lst (ĭ ys)) (ĭ ys).length,[(0,.inst aD (Hy a (.lst (ĭ ys)) mb op fb (.ref 1) [("bjunk",.ref 2),("bpopular",.ref 3)])),(1,.dict ds),(2,.set ks),(3,.set [])],4,1⟩)):=by rfl'
def lE{w:aB9}{K:ſ}:wL (pJ w) (Dv w) (Dx.drop 6) (KN ŧ (Hy ŧ ŧ .none .none .none (.ref 1) [("bjunk",.ref 2)]) [(1,.dict []),(2,.set [])] 1) K =
  (("":Str).length<1000000/\K .next ⟨t7 ŧ 0,[(0,.inst aD (Hy ŧ ŧ .none .none .none (.ref 1) [("bjunk",.ref 2),("bpopular",.ref 3)])),(1,.dict []),(2,.set []),(3,.set [])],4,1⟩):=by rfl'
def Ac.less{ρ ρ':List (Str×AV)}{H H':List (Nat×AO)}{n a:Nat}(hρ :∀x v,ρ'.lookup x=some v->ρ.lookup x=some v)(hH :∀i o,H'.lookup i=some o->H.lookup i=some o):Ac ⟨ρ,H,n,a⟩ ⟨ρ',H',n,a⟩:=λX G s R=>⟨G,.refl _ _,R.base,R.keep,R.size,R.mutHs,R.ownB,R.ownLt,R.gens,R.os,
 R.loc.casesOn λm hm r=>⟨m,hm,λx av e1 e2=>r x av (hρ x av e1) e2⟩,λx a e=>(R.cel x a e).casesOn λv hv r=>⟨v,hv,λav e1 e2=>r av (hρ x av e1) e2⟩,R.celAll,R.tloc,R.tcel,λx o e=>have q:=R.obj x o (hH x o e);⟨q.lt,q.tag,q.rel⟩,R.anc,R.bsz⟩
noncomputable def CF(ys:List Int)(i:Nat)(x:Int):List Nat:=(aC8 i).filter λj=>decide (ys[j]?=some x)
def cS(ys:List Int)(i:Nat)(x:Int):List Int:=(CF ys i x).map λ(j:Nat)=>(j:Int)
abbrev Bb(ys:List Int)(i:Nat)(x:Int):List AV:=ĭ (cS ys i x)
section
variable{ys:List Int}{i:Nat}{x:Int}
def Hb:CF ys (i+1) x=CF ys i x++[i].filter λj=>decide (ys[j]?=some x):=(bO6 _ aS8).trans (List.filter_append ..)
def MV(h:ys[i]?=some x):Bb ys (i+1) x=Bb ys i x++[.int (i:Int)]:=by
 show aP9 _ (aP9 _ _)=aP9 _ (aP9 _ _)++_
 rw[Hb,aK9 (p:=λj=>decide (ys[j]?=some x)) (bP0 h),aP0,aP0];rfl
def Ia(h:CF ys i x=[]):Bb ys i x=[]:=bO6 (λl=>ĭ (aP9 (λj:Nat=>(j:Int)) l)) h
def GQ(h:ys[i]?≠some x):CF ys (i+1) x=CF ys i x:=by
 rw[Hb,aL0 (p:=λj=>decide (ys[j]?=some x)) (λz=>h (bP2 z))];exact aF8 _
def LN(h:ys[i]?≠some x):Bb ys (i+1) x=Bb ys i x:=bO6 (λl=>ĭ (aP9 _ l)) (GQ h)
def Ij:(Bb ys i x).length<=i:=by
 show(aP9 _ (aP9 _ _)).length<=i
 rw[aB0,aB0]
 exact aA3 (aQ1 _ _) (aB7 aG6)
end
structure ŭ(ys:List Int)(ds:List (AB×AV))(ks:List AB):Prop where
 shut:AI nn ds=some ds
 at_ :∀x:Int,(ds.lookup (.int x)).getD (.lst []) = .lst (bif CM x then []else Bb ys ys.length x)
 junk :∀x∈ys,(AB.int x∈ks↔CM x=true)
def Gf{es:List (Int×Nat)}{f:Int×Nat->AV}{x:Int}:(∃p∈es,p.1=x/\(es.map λp=>(AB.int p.1,f p)).lookup (.int x)=some (f p))\/((∀p∈es,p.1≠x)/\(es.map λp=>(AB.int p.1,f p)).lookup (.int x)=none):=
 aB5 (motive:=λes=>(∃p∈es,p.1=x/\(es.map λp=>(AB.int p.1,f p)).lookup (.int x)=some (f p))\/((∀p∈es,p.1≠x)/\(es.map λp=>(AB.int p.1,f p)).lookup (.int x)=none)) (.inr ⟨λ_ h=>(nomatch h),rfl⟩) (λp r ih=>by
  by_cases h:p.1=x
  ·refine .inl ⟨p,aC6 ..,h,?_⟩
   rw[aM7,AS,<-h,show(AB.int p.1==AB.int p.1)=true from bP3 _];rfl
  ·have e:(AB.int x==AB.int p.1)=false:=beq_eq_false_iff_ne.mpr λz=>h (AB.int.inj z).symm
   rw[aM7,AS,e]
   exact ih.imp (λq=>q.imp λ_ q=>⟨aC9 _ q.1,q.2⟩) λq=>⟨λy hy=>(aD7.mp hy).elim (λz=>z▸h) (q.1 y),q.2⟩) es
noncomputable def ML(es:List (Int×Nat)):List (AB×AV):=es.map λp=>(AB.int p.1,.ref (p.2+2))
def Dt(ys:List Int)(es:List (Int×Nat)):List (AB×AV):=es.map λp=>(AB.int p.1,.lst (Bb ys ys.length p.1))
structure CI(ys:List Int)(i:Nat)(es:List (Int×Nat))(L:List (Nat×AO))(m:Nat):Prop where
 lt :∀p∈es,p.2<m
 at_ :∀p∈es,L.lookup (p.2+2)=some (.list (Bb ys i p.1))
 k :∀p∈es,∀q∈es,p.1=q.1->p.2=q.2
 v :∀p∈es,∀q∈es,p.2=q.2->p.1=q.1
 no :∀x,(∀p∈es,p.1≠x)->CF ys i x=[]
section
variable{ys:List Int}{i m:Nat}{x:Int}{es:List (Int×Nat)}{L:List (Nat×AO)}
def ns{a b:Nat}(h:a<b):a+2≠b+2:=λz=>aE5 h (aU8 z)
def Nw{β:Type}{l:List (Nat×β)}{x y:Nat}{v:β}(h:y≠x):(Al l x v).lookup y=l.lookup y:=by rw[EO,beq_eq_false_iff_ne.mpr h];rfl
def KH{β:Type}{l:List (Nat×β)}{x:Nat}{v:β}:(Al l x v).lookup x=some v:=by rw[EO,bP3];rfl
def CI.gar(h:CI ys i es L m){o:AO}:CI ys i es (Al L (m+2) o) (m+1):=⟨λp hp=>aG5 (h.lt p hp),λp hp=>(Nw (ns (h.lt p hp))).trans (h.at_ p hp),h.k,h.v,h.no⟩
def CI.fresh(h:CI ys i es L m)(hx :∀p∈es,p.1≠x):CI ys i (es++[(x,m)]) (Al L (m+2) (.list [])) (m+1):=by
 have g:=h.gar (o:=.list [])
 have go :∀{P:Int×Nat->Prop},(∀p∈es,P p)->P (x,m)->∀p∈es++[(x,m)],P p:=λa b p hp=>(aC0.mp hp).elim (a p) λz=>aB6.mp z▸b
 exact⟨go g.lt (aC2 m),go g.at_ (KH.trans (bO6 (λl=>some (AO.list l)) (Ia (h.no x hx)).symm)),
  go (λp hp=>go (h.k p hp) λz=>bO9 z (hx p hp)) (go (λq hq z=>bO9 z.symm (hx q hq)) λ_=>rfl),
  go (λp hp=>go (h.v p hp) λz=>bO9 z (aE5 (h.lt p hp))) (go (λq hq z=>bO9 z.symm (aE5 (h.lt q hq))) λ_=>rfl),
  λy hy=>h.no y λp hp=>hy p (aU9 _ hp)⟩
def CI.add(h:CI ys i es L m){p:Int×Nat}(hp:p∈es)(hx:ys[i]?=some p.1):CI ys (i+1) es (Al L (p.2+2) (.list (Bb ys i p.1++[.int (i:Int)]))) m:=by
 refine⟨h.lt,λq hq=>?_,h.k,h.v,λy hy=>(GQ λz=>hy p hp (aA1 (hx.symm.trans z))).trans (h.no y hy)⟩
 by_cases e:q.2=p.2
 ·have e':=h.v q hq p hp e
  rw[e,e',MV hx];exact KH
 ·rw[LN λz=>e (h.k q hq p hp (aA1 (z.symm.trans hx)))]
  exact(Nw λz=>e (aU8 z)).trans (h.at_ q hq)
def CI.nil:CI ys 0 [] [] 0:=⟨λ_ h=>(nomatch h),λ_ h=>(nomatch h),λ_ h=>(nomatch h),λ_ h=>(nomatch h),λ_ _=>rfl⟩
def JX{g:Nat->Option AV}{x:Str}{a a':AV}{r r':List (Str×AV)}(h1:a.sub g=some a')(h2:AN g r=some r'):AN g ((x,a)::r)=some ((x,a')::r'):=by
 show(a.sub g).bind (λb=>(AN g r).map ((x,b) :: ·))=_
 rw[h1,h2];rfl
def Z1{g:Nat->Option AV}{D:aC1}{r r':List (Str×AV)}(h:AN g r=some r'):(AO.inst D r).sub g=some (.inst D r'):=bO6 (aD8 (AO.inst D)) h
def Vw{g:Nat->Option AV}{a b mb op fb u v:AV}{tl tl':List (Str×AV)}(S:Bw a b mb op fb .none .none)(h:u.sub g=some v)(ht:AN g tl=some tl'):(AO.inst aD (Hy a b mb op fb u tl)).sub g=some (.inst aD (Hy a b mb op fb v tl')):=
 Z1 (JX rfl (JX (AK _ _ S.a) (JX (AK _ _ S.b) (JX rfl (JX (AK _ _ S.mb) (JX (AK _ _ S.op) (JX (AK _ _ S.fb) (JX h ht))))))))
def HV{g:Nat->Option AV}{u v:Int×Nat->AV} :∀{es:List (Int×Nat)},(∀p∈es,(u p).sub g=some (v p))->AI g (es.map λp=>(AB.int p.1,u p))=some (es.map λp=>(AB.int p.1,v p)):=
 λ{es}=>aB5 (motive:=λes=>(∀p∈es,(u p).sub g=some (v p))->AI g (es.map λp=>(AB.int p.1,u p))=some (es.map λp=>(AB.int p.1,v p))) (λ_=>rfl) (λp r ih h=>by
  show((u p).sub g).bind (λb=>(AI g (r.map λp=>(AB.int p.1,u p))).map ((AB.int p.1,b) :: ·))=_
  rw[h p (aC6 ..),ih λq hq=>h q (aC9 _ hq)];rfl) es
def CI.fin{a mb op fb:AV}{tl:List (Str×AV)}(h:CI ys ys.length es L m)(S:Bw a (.lst (ĭ ys)) mb op fb .none .none)(ht:AN nn tl=some tl) :
  Ac (Zi ys (Hy a (.lst (ĭ ys)) mb op fb (.ref 1) tl) (ML es) L m) ⟨Zl ys,[(0,.inst aD (Hy a (.lst (ĭ ys)) mb op fb (.ref 1) tl)),(1,.dict (Dt ys es))],2,1⟩:=by
 have fl :∀{es':List (Int×Nat)} {y:Nat},(∀p∈es',p∈es)->(∃p∈es,p.2+2=y/\(es'.map λp=>(p.2+2,AV.lst (Bb ys ys.length p.1))).lookup y=some (.lst (Bb ys ys.length p.1)))\/((∀p∈es',p.2+2≠y)/\(es'.map λp=>(p.2+2,AV.lst (Bb ys ys.length p.1))).lookup y=none):=λ{es' y}=>aB5 (motive:=λes'=>(∀p∈es',p∈es)->(∃p∈es,p.2+2=y/\(es'.map λp=>(p.2+2,AV.lst (Bb ys ys.length p.1))).lookup y=some (.lst (Bb ys ys.length p.1)))\/((∀p∈es',p.2+2≠y)/\(es'.map λp=>(p.2+2,AV.lst (Bb ys ys.length p.1))).lookup y=none)) (λ_=>.inr ⟨λ_ h=>(nomatch h),rfl⟩) (λp r ih hs=>by
  rw[aM7,AS]
  by_cases e:p.2+2=y
  ·rw[show(y==p.2+2)=true from beq_iff_eq.mpr e.symm]
   exact .inl ⟨p,hs p (aC6 ..),e,rfl⟩
  ·rw[show(y==p.2+2)=false from beq_eq_false_iff_ne.mpr λz=>e z.symm]
   exact(ih λq hq=>hs q (aC9 _ hq)).imp id λq=>⟨λz hz=>(aD7.mp hz).elim (λw=>w▸e) (q.1 z),q.2⟩) es'
 exact Ac.re [0,1] (es.map λp=>(p.2+2,.lst (Bb ys ys.length p.1))) rfl rfl rfl rfl (λy w e=>(fl (y:=y) λ_=>id).elim (λq=>q.elim λp q=>by
   rw[q.2.2]at e
   rw[<-aA1 e,<-q.2.1]
   exact⟨rfl,_,h.at_ p q.1,rfl,A0 _⟩) λq=>AA (q.2.symm.trans e))
   (Bo rfl rfl (Bo rfl (AK _ _ (A0 ys)) (Bo rfl rfl Be)))
   (NP rfl rfl (Vw S rfl (Er ht)) (NP rfl rfl (bO6 (aD8 AO.dict) (HV λp hp=>(fl (y:=p.2+2) λ_=>id).elim (λq=>q.elim λp' q=>by
    rw[<-h.v p' q.1 p hp (aU8 q.2.1)]
    exact q.2.2) λq=>bO9 rfl (q.1 p hp))) Bd))
def ŏ(l:List Int)(ks:List AB):Prop:=ks.Nodup/\ks.length<=l.length/\∀k,k∈ks↔∃x∈l,k=AB.int x/\CM x=true
theorem ŏ.nil:ŏ [] []:=⟨.nil,aA9 _,λk=>⟨λh=>(nomatch h),λ⟨_,h,_⟩=>(nomatch h)⟩⟩
def Qd{ks:List AB}{k k':AB}:k'∈GZ ks k↔k'∈ks\/k'=k:=by
 unfold GZ
 by_cases h:k∈ks
 ·rw[bO7 h];exact⟨.inl,λz=>z.elim id λe=>e▸h⟩
 ·rw[bO8 h];exact aC0.trans (or_congr_right aB6)
def Hl{ks:List AB}{k:AB}(n:ks.Nodup):(GZ ks k).Nodup/\(GZ ks k).length<=ks.length+1:=by
 unfold GZ
 by_cases h:k∈ks
 ·rw[bO7 h];exact⟨n,aK1 _⟩
 ·rw[bO8 h];exact⟨aK8.mpr ⟨n,aW3.mpr ⟨List.not_mem_nil,.nil⟩,λa ha b hb e=>h (aB6.mp hb▸e▸ha)⟩,aB7 aC3⟩
def ŏ.add{l:List Int}{ks:List AB}{x:Int}(h:ŏ l ks)(j:CM x=true):ŏ (l++[x]) (GZ ks (.int x)):=by
 refine⟨(Hl h.1).1,aA3 (Hl h.1).2 (aA3 (aG8 h.2.1) (aB7 (aC3 (bs:=[x])).symm)),λk=>Qd.trans ⟨λz=>z.elim (λz=>?_) λe=>⟨x,bA0 _ (aB6.mpr rfl),e,j⟩,λ⟨y,hy,e,jy⟩=>?_⟩⟩
 ·exact((h.2.2 k).mp z).imp λy q=>⟨aU9 _ q.1,q.2⟩
 ·exact(aC0.mp hy).elim (λhy=>.inl ((h.2.2 k).mpr ⟨y,hy,e,jy⟩)) λhy=>.inr (e.trans (bO6 _ (aB6.mp hy)))
def ŏ.skip{l:List Int}{ks:List AB}{x:Int}(h:ŏ l ks)(j:CM x=false):ŏ (l++[x]) ks:=
 ⟨h.1,aA3 h.2.1 (aA3 (aK1 _) (aB7 (aC3 (bs:=[x])).symm)),λk=>(h.2.2 k).trans ⟨λ⟨y,hy,q⟩=>⟨y,aU9 _ hy,q⟩,λ⟨y,hy,e,jy⟩=>
  (aC0.mp hy).elim (λhy=>⟨y,hy,e,jy⟩) λhy=>nomatch(aB6.mp hy▸j).symm.trans jy⟩⟩
def O4{ds:List (AB×AV)}{k k':AB}:(Fz ds k).lookup k'=if k'=k then none else ds.lookup k':=by
 unfold Fz
 refine aB5 (motive:=λds=>(bM1 (λp:AB×AV=>decide (p.1≠k)) ds).lookup k'=if k'=k then none else ds.lookup k') (ite_self _).symm (λp r ih=>?_) ds
 by_cases h:p.1=k
 ·rw[aL0 (p:=λp:AB×AV=>decide (p.1≠k)) (λz=>bO9 h (bP2 z)),ih,AS]
  by_cases e:k'=k
  ·rw[bO7 e,bO7 e]
  ·rw[bO8 e,bO8 e,show(k'==p.1)=false from beq_eq_false_iff_ne.mpr λz=>e (z.trans h)];rfl
 ·rw[aK9 (p:=λp:AB×AV=>decide (p.1≠k)) (bP0 h),AS,AS,ih]
  by_cases e:k'=k
  ·rw[bO7 e,bO7 e,show(k'==p.1)=false from beq_eq_false_iff_ne.mpr λz=>h (z.symm.trans e)];rfl
  ·rw[bO8 e,bO8 e]
def Pa{ds:List (AB×AV)}{k:AB}(h:AI nn ds=some ds):AI nn (Fz ds k)=some (Fz ds k):=by
 unfold Fz
 have sc :∀{p:AB×AV} {r:List (AB×AV)},AI nn (p::r)=some (p::r)↔p.2.sub nn=some p.2/\AI nn r=some r:=λ{p r}=>by
  obtain⟨k,v⟩:=p
  show(v.sub nn).bind (λb=>(AI nn r).map ((k,b) :: ·))=some ((k,v)::r)↔v.sub nn=some v/\_
  cases v.sub nn with
  | none=>exact⟨λz=>(nomatch z),λz=>(nomatch z.1)⟩
  | some b=>cases AI nn r with
   | none=>exact⟨λz=>(nomatch z),λz=>(nomatch z.2)⟩
   | some r'=>exact⟨λz=>by cases z;exact⟨rfl,rfl⟩,λz=>by cases z.1;cases z.2;rfl⟩
 revert h
 refine aB5 (motive:=λds=>AI nn ds=some ds->AI nn (bM1 (λp:AB×AV=>decide (p.1≠k)) ds)=some (bM1 (λp:AB×AV=>decide (p.1≠k)) ds)) (λ_=>rfl) (λp r ih h=>?_) ds
 have q:=sc.mp h
 by_cases e:p.1=k
 ·rw[aL0 (p:=λp:AB×AV=>decide (p.1≠k)) (λz=>bO9 e (bP2 z))];exact ih q.2
 ·rw[aK9 (p:=λp:AB×AV=>decide (p.1≠k)) (bP0 e)];exact sc.mpr ⟨q.1,ih q.2⟩
def Ru{ds:List (AB×AV)}{k:AB}:(Fz ds k).length<=ds.length:=aQ1 _ _
structure ķ(ds ds':List (AB×AV))(l:List AB):Prop where
 shut:AI nn ds'=some ds'
 len:ds'.length<=ds.length
 look :∀k,ds'.lookup k=if k∈l then none else ds.lookup k
def ķ.nil{ds:List (AB×AV)}(h:AI nn ds=some ds):ķ ds ds []:=⟨h,aA9 _,λk=>(bO8 List.not_mem_nil).symm⟩
def ķ.del{ds ds':List (AB×AV)}{l:List AB}{k:AB}(h:ķ ds ds' l):ķ ds (Fz ds' k) (l++[k]):=
 ⟨Pa h.shut,aA3 Ru h.len,λk'=>by
  rw[O4,h.look]
  by_cases e:k'=k
  ·rw[bO7 e,bO7 (bA0 _ (aB6.mpr e))]
  ·rw[bO8 e]
   by_cases z:k'∈l
   ·rw[bO7 z,bO7 (aU9 _ z)]
   ·rw[bO8 z,bO8 λy=>(aC0.mp y).elim z λy=>e (aB6.mp y)]⟩
def CI.bj{ds:List (AB×AV)}{ks ks':List AB}(h:CI ys ys.length es L m)(hj:ŏ (es.map (·.1)) ks)(hp:ks'.Perm ks)(hd:ķ (Dt ys es) ds ks'):ŭ ys ds ks where
 shut:=hd.shut
 at_:=λx=>by
  rw[hd.look]
  have hm:AB.int x∈ks'↔x∈es.map (·.1)/\CM x=true:=hp.mem_iff.trans ((hj.2.2 _).trans ⟨λ⟨y,hy,e,j⟩=>AB.int.inj e▸⟨hy,j⟩,λq=>⟨x,q.1,rfl,q.2⟩⟩)
  have hl:=Gf (es:=es) (f:=λp=>AV.lst (Bb ys ys.length p.1)) (x:=x)
  cases j:CM x with
  | true=>
   by_cases hx:x∈es.map (·.1)
   ·rw[bO7 (hm.mpr ⟨hx,j⟩)];rfl
   ·rw[bO8 λz=>hx (hm.mp z).1]
    exact hl.elim (λ⟨p,hp,e,_⟩=>bO9 (aM8.mpr ⟨p,hp,e⟩) hx) λq=>by
     show((Dt ys es).lookup _).getD _=_
     rw[show(Dt ys es).lookup _=_ from q.2];rfl
  | false=>
   rw[bO8 λz=>nomatch j.symm.trans (hm.mp z).2]
   exact hl.elim (λ⟨p,hp,e,q⟩=>by
    show((Dt ys es).lookup _).getD _=_
    rw[show(Dt ys es).lookup _=_ from q,e];rfl) λq=>by
    show((Dt ys es).lookup _).getD _=_
    rw[show(Dt ys es).lookup _=_ from q.2,Ia (h.no x q.1)];rfl
 junk:=λx hx=>(hj.2.2 _).trans ⟨λ⟨y,_,e,j⟩=>AB.int.inj e▸j,λj=>by
  have hm:x∈es.map (·.1):=Decidable.byContradiction λz=>by
   have e:=h.no x λp hp e=>z (aM8.mpr ⟨p,hp,e⟩)
   obtain⟨i,hi⟩:=aJ4 hx
   have:i∈CF ys ys.length x:=aI5.mpr ⟨aR0.mpr (aA5.mp hi).1,bP0 hi⟩
   rw[e]at this
   cases this
  exact⟨x,hm,rfl,j⟩⟩
end
def Vy:Ŕ:=λas os Q=>as=[.ref 0]/\((os=[(aD,nH)]/\Q .none [(aD,DB ŧ ŧ .none .none .none (.dct []) (.fset []))])\/∃(ys:List Int) (a mb op fb b2j bj:AV),ys.length<200/\
 os=[(aD,DB a (.lst (ĭ ys)) mb op fb b2j bj)]/\Bw a (.lst (ĭ ys)) mb op fb b2j bj/\∀ds ks,ŭ ys ds ks->Q .none [(aD,DB a (.lst (ĭ ys)) mb op fb (.dct ds) (.fset ks))])
def gO{c:Bool}{A B:Prop}(h:c=false):An c A B=B:=by rw[h];rfl
def EN{P:Pm}{S:ĥ}{σ:St}{Q:ſ}:wL P S [] σ Q=Q .next σ:=rfl
section
variable{ys:List Int}{es:List (Int×Nat)}{at_:List (Str×AV)}{b:AV}{w:aB9}{K:ſ}
def NN:D3 (Dt ys es)=ĭ (es.map (·.1)):=by
 show aP9 _ (aP9 _ es)=aP9 _ (aP9 _ es)
 rw[aO2,aO2];rfl
def Hx{x:Int}{H:List (Nat×AO)}:Ac ⟨nE b x,H,3,3⟩ ⟨qN b,H,3,3⟩:=
 .less (ρ':=qN b) (λy v e=>BY e (λa b=>by subst a;subst b;rfl) λe=>BY e (λa b=>by subst a;subst b;rfl) λe=>BY e (λa b=>by subst a;subst b;rfl) λe=>BY e (λa b=>by subst a;subst b;rfl) λe=>BY e (λa b=>by subst a;subst b;rfl) AA) λ_ _=>id
def C8{α:Type}{l:List α}{k:Nat}{x:α}(h:l[k]?=some x):l.take (k+1)=l.take k++[x]:=by rw[aY8,h];rfl
def Mp{x:Nat}{o:AO}{items:List AV}{tn:AV->St->ſ->Prop}{σ τ₀:St}{Q:ſ}(I:Nat->St->Prop)(e0:σ.hid x=τ₀)(h0:I 0 τ₀)(ht :∀k σ v Q,items[k]?=some v->I k σ->tn v σ (Eh (λσ=>∃τ,Ac σ τ/\I (k+1) τ) Q))(he :∀τ,I items.length τ->Q .next (MS σ x o τ)):FO x o items tn σ Q:=
 ⟨I,⟨_,e0▸.refl _,h0⟩,λk σ v hv hI=>ht k σ v _ hv hI,he⟩
def I9{P P':Pm}{S S':ĥ}{r:List aE7}{K:ſ}{σ τ:St}(e:σ=τ)(h:wL P S r τ K):Ĭ P S r K .next σ:=e▸h
def Ml(hl:es.length<200)(hs:AI nn (Dt ys es)=some (Dt ys es))(hK :∀ks ks' ds,ŏ (es.map (·.1)) ks->ks'.Perm ks->ķ (Dt ys es) ds ks'->wL (pJ w) (Dv w) (Dx.drop 6) (KN b at_ [(1,.dict ds),(2,.set ks)] 1) K) :
  wL (pJ w) (Dv w) (Dx.drop 5) (KN b at_ [(1,.dict (Dt ys es)),(2,.set [])] 1) K:=by
 have hl':(es.map (·.1)).length<200:=aD1 (aB7 (aB0 ..)) hl
 rw[iQ]
 refine Mp (τ₀:=KN b at_ [(2,.set [])] 3) (λi τ=>∃ks,τ=KN b at_ [(2,.set ks)] 3/\ŏ ((es.map (·.1)).take i) ks) rfl ⟨[],rfl,ŏ.nil⟩ (λi τ v Q hv hI=>?_) λτ hI=>?_
 ·obtain⟨ks,rfl,hj⟩:=hI
  rw[NN]at hv
  obtain⟨x,hx,rfl⟩:=map_some ((aC5 ..).symm.trans hv)
  have hk:ks.length<200:=aD1 hj.2.1 (aD1 (aA3 (List.length_take_le ..) (aA9 _)) (aD1 (aE4 (aA5.mp hx).1) hl'))
  rw[kO]
  cases j:CM x with
  | true=>exact⟨aD1 hk (by decide),_,Hx,_,rfl,C8 hx▸hj.add j⟩
  | false=>exact⟨_,Hx,_,rfl,C8 hx▸hj.skip j⟩
 ·obtain⟨ks,rfl,hj⟩:=hI
  rw[NN,AW,aR3]at hj
  refine I9 (P':=pJ w) (S':=Dv w) (τ:=KN b at_ [(2,.set ks),(1,.dict (Dt ys es))] 1) rfl ?_
  rw[fT]
  intro ks' hp
  refine Mp (τ₀:=KN b at_ [(1,.dict (Dt ys es))] 3) (λi τ=>∃ds,τ=KN b at_ [(1,.dict ds)] 3/\ķ (Dt ys es) ds (ks'.take i)) rfl ⟨_,rfl,ķ.nil hs⟩ (λi τ v Q hv hI=>?_) λτ hI=>?_
  ·obtain⟨ds,rfl,hd⟩:=hI
   obtain⟨k,hk,rfl⟩:=map_some ((aC5 ..).symm.trans hv)
   have hm:=aB8 hk
   obtain⟨x,hx,rfl,-⟩:=(hj.2.2 k).mp (hp.mem_iff.mp hm)
   rw[bZ]
   refine⟨aA3 hd.len (aA3 (aB7 (aB0 ..)) (aA3 (aE4 hl) (by decide))),?_,_,Hx,_,rfl,C8 hk▸hd.del⟩
   have nd:=hp.nodup_iff.mpr hj.1
   have:AB.int x∉ks'.take i:=λz=>by
    obtain⟨m,h1,h2⟩:=List.getElem_of_mem z
    obtain⟨hi,e⟩:=aA5.mp hk
    rw[List.getElem_take]at h2
    rw[aG2]at h1
    exact aN4.mp nd m i _ hi (aB3 h1 (aS7 ..)) (h2.trans e.symm)
   rw[hd.look,bO8 this]
   refine(Gf (es:=es) (f:=λp=>.lst (Bb ys ys.length p.1)) (x:=x)).elim (λ⟨p,_,_,q⟩=>?_) λq=>?_
   ·show((Dt ys es).lookup _).isSome=true
    rw[show(Dt ys es).lookup _=_ from q];rfl
   ·obtain⟨p,hp,e⟩:=aM8.mp hx
    exact bO9 e (q.1 p hp)
  ·obtain⟨ds,rfl,hd⟩:=hI
   rw[aB0,aR3]at hd
   refine I9 (P':=pJ w) (S':=Dv w) (τ:=KN b at_ [(1,.dict ds),(2,.set ks)] 1) rfl ?_
   rw[EN]
   exact I9 (P':=pJ w) (S':=Dv w) rfl (hK ks ks' ds hj hp hd)
end
section
variable{ys:List Int}{a mb op fb:AV}{tl:List (Str×AV)}{w:aB9}{Q:AV->List Ob->Prop}
def mH(ys:List Int)(a mb op fb:AV)(tl:List (Str×AV))(i:Nat)(τ:St):Prop:=(i<ys.length->∃es L m,τ=Zi ys (Hy a (.lst (ĭ ys)) mb op fb (.ref 1) tl) (ML es) L m/\CI ys i es L m/\es.length<=i)/\
 (i=ys.length->∃es L m,CI ys ys.length es L m/\es.length<=i/\τ=⟨Zl ys,[(0,.inst aD (Hy a (.lst (ĭ ys)) mb op fb (.ref 1) tl)),(1,.dict (Dt ys es))],2,1⟩)
def QI{i m:Nat}{es:List (Int×Nat)}{L:List (Nat×AO)}(S:Bw a (.lst (ĭ ys)) mb op fb .none .none)(ht:AN nn tl=some tl)(h:CI ys i es L m)(hl:es.length<=i)(hi:i<=ys.length) :
  ∃τ,Ac (Zi ys (Hy a (.lst (ĭ ys)) mb op fb (.ref 1) tl) (ML es) L m) τ/\mH ys a mb op fb tl i τ:=
 (bE1 hi).elim (λz=>⟨_,.refl _,λ_=>⟨es,L,m,rfl,h,hl⟩,λe=>bO9 e (aE5 z)⟩) λz=>by
  subst z
  exact⟨_,CI.fin h S ht,λe=>bO9 e (aM6 _),λ_=>⟨es,L,m,h,hl,rfl⟩⟩
def Td{H:List (Nat×AO)}{n:Nat}{u v t:AV}:Ac ⟨[("self",.ref 0),("b",.lst (ĭ ys)),("b2j",.ref 1),("i",u),("elt",v),("indices",t)],H,n,1⟩ ⟨Zl ys,H,n,1⟩:=
 .less (ρ':=Zl ys) (λy v e=>BY e (λa b=>by subst a;subst b;rfl) λe=>BY e (λa b=>by subst a;subst b;rfl) λe=>BY e (λa b=>by subst a;subst b;rfl) AA) λ_ _=>id
def NX{i m:Nat}{es:List (Int×Nat)}{L:List (Nat×AO)}{p:Int×Nat}{K:ſ}(S:Bw a (.lst (ĭ ys)) mb op fb .none .none)(ht:AN nn tl=some tl)(h:CI ys i es L m)(hl:es.length<=i+1)(hp:p∈es)(hx:ys[i]?=some p.1)(hn:ys.length<=100000) :
  wL (pJ w) (EI (pJ w) EQ 29) (LC.2.drop 1) (Wj ys (Hy a (.lst (ĭ ys)) mb op fb (.ref 1) tl) (ML es) L m i p.1 (.ref (p.2+2))) (Eh (λσ=>∃τ,Ac σ τ/\mH ys a mb op fb tl (i+1) τ) K):=by
 have hi:=(aA5.mp hx).1
 have e:=h.at_ p hp
 have e':(Wj ys (Hy a (.lst (ĭ ys)) mb op fb (.ref 1) tl) (ML es) L m i p.1 (.ref (p.2+2))).H.lookup (p.2+2)=some (.list (Bb ys i p.1)):=e
 rw[k8,UU e']
 obtain⟨τ,q1,Ľ⟩:=QI S ht (h.add hp hx) hl hi
 exact F5 (P:=pJ w) (v:=.int (i:Int)) (Q:=λ_ σ=>∃τ,Ac σ τ/\mH ys a mb op fb tl (i+1) τ) e' (aA3 Ij (aA3 (aE4 hi) (aA3 hn (by decide)))) ⟨τ,Td.trans q1,Ľ⟩
def V9{bj:AV}(S:Bw a (.lst (ĭ ys)) mb op fb .none .none)(hj':bj.sub nn=some bj)(hn2:ys.length<200)(hq :∀ds ks,ŭ ys ds ks->Q .none [(aD,DB a (.lst (ĭ ys)) mb op fb (.dct ds) (.fset ks))]) :
  Hf LC.1=true/\AD nn (ĭ ys)=some (ĭ ys)/\Cc (Bj (ĭ ys)) (NA w) (wL (pJ w) (EI (pJ w) EQ 29) []) (Zi ys (Hy a (.lst (ĭ ys)) mb op fb (.ref 1) (Vd bj)) [] [] 0) (λfl υ=>Bn.rec (wL (pJ w) (Dv w) (Dx.drop 3) υ (AG 1 Q)) (AG 1 Q .brk υ) (AG 1 Q .cont υ) (λv=>AG 1 Q (.ret v) υ) fl):=by
 have ht':AN nn (Vd bj)=some (Vd bj):=JX hj' rfl
 have hn:ys.length<=100000:=aA3 (aE4 hn2) (by decide)
 have en:(Bj (ĭ ys)).length=ys.length:=(DY _).trans (AW ys)
 refine⟨by rfl',CB ys,mH ys a mb op fb (Vd bj),QI S ht' CI.nil (aA9 _) (aC7 _),λi τ v hv hI=>?_,λτ hI=>?_⟩
 ·have hi:i<ys.length:=en▸(aA5.mp hv).1
  obtain⟨es,L,m,rfl,h,hl⟩:=hI.1 hi
  have hx:ys[i]?=some (ys[i]'hi):=aA6 hi
  have hv':some v=some (.tup [.int (i:Int),.int (ys[i]'hi)]):=hv.symm.trans (Eo ((aC5 ..).trans (bO6 (aD8 AV.int) hx)))
  generalize ys[i]'hi=x at hx hv'
  cases hv'
  rw[bC]
  refine⟨rfl,aA3 (aB7 (aB0 ..)) (aA3 hl (aA3 (aE4 hi) (aA3 hn (by decide)))),λu hu=>?_,λhu=>?_⟩
  ·refine(Gf (es:=es) (f:=λp=>.ref (p.2+2)) (x:=x)).elim (λq=>?_) λq=>AA (q.2.symm.trans hu)
   obtain⟨p,hp,e1,e2⟩:=q
   cases aA1 (e2.symm.trans hu)
   subst e1
   exact NX S ht' h.gar (aI0 hl) hp hx hn
  ·refine(Gf (es:=es) (f:=λp=>.ref (p.2+2)) (x:=x)).elim (λq=>q.elim λp q=>AA (hu.symm.trans q.2.2)) λq=>?_
   have:dset (ML es) (.int x) (.ref (m+2))=ML (es++[(x,m)]):=by
    unfold dset
    rw[bO8]
    ·exact(aP0 (l₁:=es) (l₂:=[(x,m)]) (f:=λp:Int×Nat=>(AB.int p.1,AV.ref (p.2+2)))).symm
    ·intro z
     obtain⟨r,r1,r2⟩:=bF4.mp z
     obtain⟨p,p1,rfl⟩:=aM8.mp r1
     exact q.1 p p1 (AB.int.inj (bP2 r2))
   rw[this]
   exact NX S ht' (h.fresh q.1) (aA3 (aB7 aC3) (aG8 hl)) (p:=(x,m)) (bA0 _ (aB6.mpr rfl)) hx hn
 ·rw[en]at hI
  obtain⟨es,L,m,hC,hl,rfl⟩:=hI.2 rfl
  rw[EN]
  refine gB.mpr (Ml (aD1 hl hn2) (HV λp _=>A0 _) λks ks' ds hj hp hd=>hU.mpr ⟨aA3 (aB7 (AW ys)) (aA3 hn (by decide)),?_⟩)
  rw[gO (bP1 (by rw[AW];exists 1,0xf0000c89390000c89018,hn2))]
  have hB:=hC.bj hj hp hd
  have hd:(AV.dct ds).sub nn=some (.dct ds):=bO6 (aD8 AV.dct) hB.shut
  exact D7 (fl:=.next) (τ:=⟨[],[(0,.inst aD (DB a (.lst (ĭ ys)) mb op fb (.dct ds) (.fset ks)))],1,1⟩) rfl
   (Ac.re [0] [(1,.dct ds),(2,.fset ks),(3,.fset [])] rfl rfl rfl rfl (Aq rfl rfl rfl hd (Aq rfl rfl rfl rfl (Aq rfl rfl rfl rfl Bc))) Be (NP rfl rfl (Vw S rfl rfl) Bd)) rfl rfl (Bw.shut ⟨S.a,S.b,S.mb,S.op,S.fb,hd,rfl⟩) (hq ds ks hB)
def SU{f:aS6}{p:Str}(h :∀a:Value,aU7 f ⟨[a],[]⟩=pure ([(p,a)])) :∀vas:List Value,vas.length=1->aU7 f ⟨vas,[]⟩=pure (([p]:List Str).zip vas):=
 K1 λa=>Zf (h a)
def LB{d:Nat}:BP (lF w) (H0 w.params) (d+2) (.ref 188) Vy:=
 nO wJ (Qg _).2.2 (Qg _).1 (Qg _).2.1 (ps:=["self"]) (by decide) (by rfl') (λs vas _ e=>bJ4 (SU (λa=>by rfl') vas e)) λas os Q hh=>by
  obtain⟨ea,hh⟩:=hh
  subst ea
  refine hh.elim (λhh=>?_) λhh=>?_
  ·obtain⟨eo,hq⟩:=hh
   subst eo
   refine⟨⟨rfl,CR rfl⟩,cU.mpr ⟨rfl,λ_ τ=>τ=⟨[("self",.ref 0),("b",ŧ),("b2j",.ref 1)],[(0,.inst aD (Hy ŧ ŧ .none .none .none (.ref 1) [])),(1,.dict [])],2,1⟩,⟨_,.refl _,rfl⟩,λi τ v hv=>AA hv,λτ hI=>?_⟩⟩
   subst hI
   rw[EN]
   refine YY.mpr (Ml (ys:=[]) (es:=[]) (by decide) rfl λks ks' ds hj hp hd=>?_)
   cases aF5 (bI3.mp hj.2.1)
   cases aF5 (bI3.mp hd.len)
   refine lE.mpr ⟨by decide,?_⟩
   exact D7 (fl:=.next) (τ:=⟨[],[(0,.inst aD (DB ŧ ŧ .none .none .none (.dct []) (.fset [])))],1,1⟩) rfl
    (Ac.re [0] [(1,.dct []),(2,.fset []),(3,.fset [])] rfl rfl rfl rfl (Aq rfl rfl rfl rfl (Aq rfl rfl rfl rfl (Aq rfl rfl rfl rfl Bc))) Be (NP rfl rfl rfl Bd)) rfl rfl rfl hq
  ·obtain⟨ys,a,mb,op,fb,b2j,bj,hn,eo,S,hq⟩:=hh
   subst eo
   exact⟨⟨rfl,CR S.shut⟩,uW.mpr (V9 ⟨S.a,S.b,S.mb,S.op,S.fb,rfl,rfl⟩ S.bj hn hq)⟩
end
section
def I6{tr:Ŕ}{ρ:List (Str×AV)}{H:List (Nat×AO)}{n k:Nat}{D:aC1}{at_:List (Str×AV)}{as as':List AV}{Q:AV->St->Prop}(hs:AN nn at_=some at_)(hr:BV as=[0])(ha:AD (Kx [0]) as=some as')
  (h:tr as' [(D,at_)] λr os'=>Q r (St.sets ⟨ρ,(0,.inst D at_)::H,n,k⟩ [0] os')):BE tr as ⟨ρ,(0,.inst D at_)::H,n,k⟩ Q:=by
 refine .inl ?_
 unfold HN
 rw[hr,ha]
 exact⟨CR hs,h⟩
def aU:Ŕ:=λas os Q=>as=[.ref 0,ŧ]/\os=[(aD,Xo)]/\Q .none [(aD,DB ŧ ŧ .none .none .none (.dct []) (.fset []))]
def Jy{ys:List Int}{ds:List (AB×AV)}{ks:List AB}(h:ŭ ys ds ks):(AV.dct ds).sub nn=some (.dct ds):=bO6 (aD8 AV.dct) h.1
variable{w:aB9}{d:Nat}
def w1{a:aC1}{tr:Ŕ}(h:BP (lF w) (H0 w.params) (d+1) (.ref a) tr):LP (lF w) (H0 w.params) (p1 w a tr) d ļ L4 aM KQ aI:=
 Sz (λf t e=>BF (b:=aD0 f a) (x:=some tr) (y:=none) e (λq e=>aB4 q▸aA1 e▸h) AA) (λe=>nomatch e) (λe=>nomatch e) (λ_ e=>nomatch e)
def Ł{a b:aC1}{tr t2:Ŕ}(h:BP (lF w) (H0 w.params) (d+1) (.ref a) tr)(h2:BP (lF w) (H0 w.params) (d+1) (.ref b) t2):LP (lF w) (H0 w.params) (p2 w a tr b t2) d ļ L4 aM KQ aI:=
 Sz (λf t e=>BF (b:=aD0 f a) (x:=some tr) e (λq e=>aB4 q▸aA1 e▸h) λe=>BF (b:=aD0 f b) (x:=some t2) (y:=none) e (λq e=>aB4 q▸aA1 e▸h2) AA) (λe=>nomatch e) (λe=>nomatch e) (λ_ e=>nomatch e)
def T8:BP (lF w) (H0 w.params) (d+3) (.ref 181) aU:=
 Pf (w1 LB) (Ip _).2.2 (Ip _).1 (Ip _).2.1 (ps:=["self","b"]) (by decide) (by rfl') (Ka λa b=>by rfl') λas os Q hh=>by
  obtain⟨ea,eo,hq⟩:=hh
  subst ea;subst eo
  exact⟨⟨rfl,CR rfl⟩,gR.mpr (I6 (D:=aD) (at_:=nH) (as':=[.ref 0]) rfl rfl rfl ⟨rfl,.inl ⟨rfl,D7 (fl:=.next) rfl (.refl _) rfl rfl rfl hq⟩⟩)⟩
def J1:Ŕ:=λas os Q=>∃ys a b mb op fb b2j bj,as=[.ref 0,.lst (ĭ ys)]/\ys.length<200/\os=[(aD,DB a b mb op fb b2j bj)]/\Bw a b mb op fb b2j bj/\
 (∀ds ks,ŭ ys ds ks->Q .none [(aD,DB a (.lst (ĭ ys)) .none .none .none (.dct ds) (.fset ks))])/\wH b ys λlb=>Q .none [(aD,DB a (.lst (ĭ lb)) mb op fb b2j bj)]
def Sf:BP (lF w) (H0 w.params) (d+3) (.ref 181) J1:=
 Pf (w1 LB) (Ip _).2.2 (Ip _).1 (Ip _).2.1 (ps:=["self","b"]) (by decide) (by rfl') (Ka λa b=>by rfl') λas os Q hh=>by
  obtain⟨ys,a,b,mb,op,fb,b2j,bj,ea,hn,eo,S,h1,h2⟩:=hh
  subst ea;subst eo
  have go:BE Vy [.ref 0] (A7 [("self",.ref 0),("b",.lst (ĭ ys))] [(aD,DB a (.lst (ĭ ys)) .none .none .none b2j bj)]) λ_ σ=>AG 1 Q .next σ:=
   I6 (D:=aD) (at_:=DB a (.lst (ĭ ys)) .none .none .none b2j bj) (as':=[.ref 0]) (Bw.shut ⟨S.a,A0 ys,rfl,rfl,rfl,S.b2j,S.bj⟩) rfl rfl
    ⟨rfl,.inr ⟨ys,a,.none,.none,.none,b2j,bj,hn,rfl,⟨S.a,A0 ys,rfl,rfl,rfl,S.b2j,S.bj⟩,λds ks hB=>D7 (fl:=.next) rfl (.refl _) rfl rfl (Bw.shut ⟨S.a,A0 ys,rfl,rfl,rfl,Jy hB,rfl⟩) (h1 ds ks hB)⟩⟩
  refine⟨⟨rfl,CR S.shut⟩,h2.elim (λe=>by subst e;exact sQ.mpr go) λq=>?_⟩
  obtain⟨lb,e,q⟩:=q
  subst e
  exact gE.mpr (NM go λe=>D7 (fl:=.ret .none) rfl (.refl _) rfl rfl S.shut (q e))
def kA:Ŕ:=λas os Q=>as=[.ref 0,ŧ,ŧ]/\os=[(aD,Vx)]/\Q .none [(aD,DB ŧ ŧ .none .none .none (.dct []) (.fset []))]
def aX{t1 t2:Ŕ}{Q:AV->List Ob->Prop}:wL (p2 w 174 t1 181 t2) (EI (p2 w 174 t1 181 t2) V2 30) (TW.drop 2) (A7 [("self",.ref 0),("a",ŧ),("b",ŧ)] [(aD,Xo)]) (AG 1 Q) =
  BE t2 [.ref 0,ŧ] (A7 [("self",.ref 0),("a",ŧ),("b",ŧ)] [(aD,Xo)]) λ_ σ=>AG 1 Q .next σ:=by rfl'
def Sd{f:aS6}{p q r:Str}(h :∀a b c:Value,aU7 f ⟨[a,b,c],[]⟩=pure ([(p,a),(q,b),(r,c)])) :∀vas:List Value,vas.length=3->aU7 f ⟨vas,[]⟩=pure (([p,q,r]:List Str).zip vas):=
 K1 λa=>K1 λb=>K1 λc=>Zf (h a b c)
def Va:BP (lF w) (H0 w.params) (d+4) (.ref 167) kA:=
 Pf (Ł (OB (d:=d+1)) T8) (R7 _).2.2 (R7 _).1 (R7 _).2.1 (ps:=["self","a","b"]) (by decide) (by rfl') (Sd λa b c=>by rfl') λas os Q hh=>by
  obtain⟨ea,eo,hq⟩:=hh
  subst ea;subst eo
  exact⟨⟨rfl,CR rfl⟩,tQ.mpr (I6 (D:=aD) (at_:=Vx) (as':=[.ref 0,ŧ]) rfl rfl rfl (.inl ⟨rfl,rfl,aX.mpr (I6 (D:=aD) (at_:=Xo) (as':=[.ref 0,ŧ]) rfl rfl rfl
   ⟨rfl,rfl,D7 (fl:=.next) rfl (.refl _) rfl rfl rfl hq⟩)⟩))⟩
noncomputable def kb(fd:aS6)(vs:List Value):{k:Option (Array Value)->Sem (List (Str×Value)) // aU7 fd ⟨vs,[]⟩=seqItems? fd.defaults >>= k}:=⟨_,rfl⟩
def F3(P:aD3)(a:aC1):Option (Array Value):=match(ş P).lookup a with
 | some ⟨_,_,.seq it _,_⟩=>some it
 | _=>none
def Qa{P:aD3}{a:aC1}{it:Array Value}(h:F3 P a=some it) :∃o n,(H0 P).get? a=some o/\o.data = .seq it n:=by
 unfold F3 at h
 split at h
 ·rename_i o1 ĩ it' n o3 ho
  cases h
  exact⟨_,_,E2 P _ _ ho,rfl⟩
 ·cases h
def bQ{P:aD3}{f T:aC1}{p q r t u:Str}(hd:(CJ P f).defaults = .ref T)(hi:F3 P T=some ((F3 P T).getD #[]))(h :∀a b c d e:Value,(kb (CJ P f) [a,b,c,d,e]).1 (some ((F3 P T).getD #[]))=pure ([(p,a),(q,b),(r,c),(t,d),(u,e)]))(s:aA7)(vas:List Value)(hb :∀b o,(H0 P).get? b=some o->s.heap.get? b=some o):vas.length=5->bB4 s (CJ P f) ⟨vas,[]⟩ (([p,q,r,t,u]:List Str).zip vas):=by
 refine K1 (m:=λvas=>bB4 s (CJ P f) ⟨vas,[]⟩ (([p,q,r,t,u]:List Str).zip vas)) (λx=>K1 λy=>K1 λz=>K1 λt=>K1 λu=>Zf ?_) vas
 obtain⟨ob,n,q1,Ľ⟩:=Qa hi
 exact bB4.of_defaults (T:=T) (k:=(kb (CJ P f) [x,y,z,t,u]).1) hd (hb _ _ q1) Ľ (kb _ _).2 (h x y z t u)
def lG:List aE7:=(Bz Nn "__init__").1
def jT:Scope:=(Bz Nn "__init__").2
def QQ(P:aD3):(CJ P 160).body = .stmts lG/\(CJ P 160).scope=jT/\Av P 160=true:=⟨by rfl',by rfl',by rfl'⟩
def Dk(P:aD3):List Value:=((F3 P 153).getD #[]).toList.drop 1
def He(P:aD3):Dk P=[(Dk P).getD 0 .none,(Dk P).getD 1 .none,.bool true]/\Aa (.str "") ((Dk P).getD 0 .none)=true/\Aa (.str "") ((Dk P).getD 1 .none)=true:=⟨by rfl',by rfl',by rfl'⟩
def S2{P:aD3}{L:CU}{G:Ű}{h:aF0}{n:Nat}:A2 L G h n [ŧ,ŧ,.bool true] (Dk P):=by
 rw[(He P).1]
 exact⟨_,_,rfl,(He P).2.1,_,_,rfl,(He P).2.2,_,_,rfl,rfl,rfl⟩
def Tl(P:aD3)(a b:Value):(kb (CJ P 160) [a,b]).1 (some ((F3 P 153).getD #[]))=pure ((["self","isjunk","a","b","autojunk"]:List Str).zip ([a,b]++Dk P)):=by rfl'
def QK{P:aD3}(s:aA7)(vas:List Value)(hb :∀b o,(H0 P).get? b=some o->s.heap.get? b=some o)(e:vas.length+(Dk P).length=5):bB4 s (CJ P 160) ⟨vas,[]⟩ ((["self","isjunk","a","b","autojunk"]:List Str).zip (vas++Dk P)):=by
 have e1:vas.length=2:=aU8 (e.trans (bO6 (2 + ·) (show(Dk P).length=3 by rfl')).symm:vas.length+(Dk P).length=2+(Dk P).length)
 refine K1 (m:=λvas=>bB4 s (CJ P 160) ⟨vas,[]⟩ ((["self","isjunk","a","b","autojunk"]:List Str).zip (vas++Dk P))) (λx=>K1 λy=>Zf ?_) vas e1
 obtain⟨ob,n,q1,Ľ⟩:=Qa (P:=P) (a:=153) (it:=(F3 P 153).getD #[]) (by rfl')
 exact bB4.of_defaults (T:=153) (k:=(kb (CJ P 160) [x,y]).1) (by rfl') (hb _ _ q1) Ľ (kb _ _).2 (Tl P x y)
def rQ{tr:Ŕ}{Q:AV->List Ob->Prop}:wB (p1 w 167 tr) jT lG ((["self","isjunk","a","b","autojunk"]:List Str).zip ([.ref 0,.lam]++[ŧ,ŧ,.bool true])) [(aD,[])] Q =
  BE tr [.ref 0,ŧ,ŧ] (A7 [("self",.ref 0),("isjunk",.lam),("a",ŧ),("b",ŧ),("autojunk",.bool true)] [(aD,Vx)]) λ_ σ=>AG 1 Q .next σ:=by rfl'
def Rd:Ŕ:=λas os Q=>as=[.ref 0,.lam]/\os=[(aD,[])]/\Q .none [(aD,DB ŧ ŧ .none .none .none (.dct []) (.fset []))]
def V5:BP (lF w) (H0 w.params) (d+5) (.ref 160) Rd:=
 ð (es:=[ŧ,ŧ,.bool true]) (w1 Va) (QQ _).2.2 (QQ _).1 (QQ _).2.1 (ps:=["self","isjunk","a","b","autojunk"]) (by decide) (by rfl') QK S2 λas os Q hh=>by
  obtain⟨ea,eo,hq⟩:=hh
  subst ea;subst eo
  exact⟨⟨rfl,CR rfl⟩,rQ.mpr (I6 (D:=aD) (at_:=Vx) (as':=[.ref 0,ŧ,ŧ]) rfl rfl rfl ⟨rfl,rfl,D7 (fl:=.next) rfl (.refl _) rfl rfl rfl hq⟩)⟩
end
def iV(s:aE7):Expr×List aE7:=((Qv s).2.1,(Qv s).2.2.1)
noncomputable def Ak(s:aE7):List Expr:=(Qv s).1
def Ei:List aE7:=(Bz Nn "find_longest_match").1
def GG:Scope:=(Bz Nn "find_longest_match").2
def Ql(P:aD3):(CJ P 196).body = .stmts Ei/\(CJ P 196).scope=GG/\Av P 196=true:=⟨by rfl',by rfl',by rfl'⟩
noncomputable def Yl:Pos->Bool:=λp=>aD0 p.line 312
abbrev B8(w:aB9):Pm:=Qk w.params (λ_=>none) none true false Yl Qn
abbrev C7(w:aB9)(f:Nat):ĥ:=EI (B8 w) GG f
def ī:Expr×List aE7:=Cp (Ei.getD 7 (.Pass AM))
def fI:Expr×List aE7:=Cp (ī.2.getD 2 (.Pass AM))
def rG:List Expr:=Ak (fI.2.getD 2 (.Pass AM))
def rB(w:aB9):AV->St->ſ->Prop:=λv σ K=>(ws (B8 w) GG 29).A ī.1 v σ λσ=>wL (B8 w) (C7 w 29) ī.2 σ K
def qI(w:aB9):AV->St->ſ->Prop:=λv σ K=>(ws (B8 w) GG 28).A fI.1 v σ λσ=>wL (B8 w) (C7 w 28) fI.2 σ K
abbrev v8(la lb:List Int)(ds:List (AB×AV))(ks:List AB)(alo ahi blo bhi bi bj ĵ:Int)(tl:List (Str×AV)):List (Str×AV):=("self",.ref 0)::("alo",.int alo)::("ahi",.int ahi)::("blo",.int blo)::("bhi",.int bhi)::("a",.lst (ĭ la))::("b",.lst (ĭ lb))::("b2j",.dct ds)::("isbjunk",.bm .has (.fset ks))::("besti",.int bi)::("bestj",.int bj)::("bestsize",.int ĵ)::tl
abbrev eB(la lb:List Int)(mb op fb:AV)(ds:List (AB×AV))(ks:List AB):AO:=.inst aD (DB (.lst (ĭ la)) (.lst (ĭ lb)) mb op fb (.dct ds) (.fset ks))
abbrev EE(la lb:List Int)(mb op fb:AV)(ds:List (AB×AV))(ks:List AB)(alo ahi blo bhi bi bj ĵ:Int)(es:List (AB×AV)):St:=⟨v8 la lb ds ks alo ahi blo bhi bi bj ĵ [("j2len",.dct es),("nothing",.lst [])],[(0,eB la lb mb op fb ds ks)],1,1⟩
abbrev fA(la lb:List Int)(mb op fb:AV)(ds:List (AB×AV))(ks:List AB)(alo ahi blo bhi:Int):St:=⟨[("self",.ref 0),("alo",.int alo),("ahi",.int ahi),("blo",.int blo),("bhi",.int bhi),("a",.lst (ĭ la)),("b",.lst (ĭ lb)),("b2j",.dct ds),("isbjunk",.bm .has (.fset ks)),("bestsize",.int 0),("bestj",.int blo),("besti",.int alo),("j2len",.ref 1),("nothing",.lst [])],[(0,eB la lb mb op fb ds ks),(1,.dict [])],2,1⟩
abbrev L6(la lb:List Int)(mb op fb:AV)(ds:List (AB×AV))(ks:List AB)(alo ahi blo bhi bi bj ĵ:Int)(es es2:List (AB×AV))(i:Int)(u:AV)(tl:List (Str×AV)):St:=⟨v8 la lb ds ks alo ahi blo bhi bi bj ĵ (("j2len",u)::("nothing",.lst [])::("i",.int i)::("j2lenget",.bm .get (.dct es))::("newj2len",.ref 1)::tl),[(0,eB la lb mb op fb ds ks),(1,.dict es2)],2,1⟩
section
variable{w:aB9}{la lb:List Int}{mb op fb:AV}{ds es es2:List (AB×AV)}{ks:List AB}{alo ahi blo bhi bi bj ĵ i j r:Int}{K:ſ}{Q:AV->List Ob->Prop}{R:Bool->St->Prop}
def tE:wB (B8 w) GG Ei ((["self","alo","ahi","blo","bhi"]:List Str).zip [.ref 0,.int alo,.int ahi,.int blo,.int bhi]) [(aD,DB (.lst (ĭ la)) (.lst (ĭ lb)) mb op fb (.dct ds) (.fset ks))] Q =
  (4=4/\3=3/\BH alo ahi/\Cc (Ah alo (ahi-alo).toNat) (rB w) (wL (B8 w) (C7 w 29) []) (fA la lb mb op fb ds ks alo ahi blo bhi) (Ĭ (B8 w) (C7 w 30) (Ei.drop 8) (AG 1 Q))):=by rfl'
def lK:rB w (.int i) (EE la lb mb op fb ds ks alo ahi blo bhi bi bj ĵ es) K =
  (Ar i/\∃v,CD (ĭ la) i=some v/\D1 (B8 w) (.fn .get) [.dct ds,v,.lst []] (L6 la lb mb op fb ds ks alo ahi blo bhi bi bj ĵ es [] i (.dct es) []) λu σ=>Ab (T3 u) (λvs=>AD nn vs=some vs/\Cc vs (qI w) (wL (B8 w) (C7 w 28) []) σ (Ĭ (B8 w) (C7 w 29) (ī.2.drop 3) K))):=by rfl'
def lN{u:AV}:wL (B8 w) (C7 w 29) (ī.2.drop 3) (L6 la lb mb op fb ds ks alo ahi blo bhi bi bj ĵ es es2 i u []) K=K .next (L6 la lb mb op fb ds ks alo ahi blo bhi bi bj ĵ es es2 i (.ref 1) []):=by rfl'
def Zt{u:AV}:qI w (.int j) (L6 la lb mb op fb ds ks alo ahi blo bhi bi bj ĵ es es2 i u []) K=An (decide (j<blo)) (K .cont (L6 la lb mb op fb ds ks alo ahi blo bhi bi bj ĵ es es2 i u [("j",.int j)])) (An (decide (bhi<=j)) (K .brk (L6 la lb mb op fb ds ks alo ahi blo bhi bi bj ĵ es es2 i u [("j",.int j)]))
  (FL .Add ((es.lookup (.int (j-1))).getD (.int 0)) (.int 1) (L6 la lb mb op fb ds ks alo ahi blo bhi bi bj ĵ es es2 i u [("j",.int j)]) λv σ=>BG (ws (B8 w) GG 27).A rG v σ λσ=>wL (B8 w) (C7 w 28) (fI.2.drop 3) σ K)):=by rfl'
def e9{u:AV}:(BG (ws (B8 w) GG 27).A rG (.int r) (L6 la lb mb op fb ds ks alo ahi blo bhi bi bj ĵ es es2 i u [("j",.int j)]) λσ=>wL (B8 w) (C7 w 28) (fI.2.drop 3) σ K) =
  (AE es2.length/\An (decide (ĵ<r)) (3=3/\K .next (L6 la lb mb op fb ds ks alo ahi blo bhi (i-r+1) (j-r+1) r es (dset es2 (.int j) (.int r)) i u [("j",.int j),("k",.int r)])) (K .next (L6 la lb mb op fb ds ks alo ahi blo bhi bi bj ĵ es (dset es2 (.int j) (.int r)) i u [("j",.int j),("k",.int r)]))):=by rfl'
def ł(n:Nat):Expr×List aE7:=iV (Ei.getD n (.Pass AM))
abbrev mG(w:aB9)(n:Nat)(σ:St)(K:ſ):Prop:=Fr ((ws (B8 w) GG 29).B (ł n).1) (wL (B8 w) (C7 w 29) (ł n).2) (wL (B8 w) (C7 w 29) []) σ (Ĭ (B8 w) (C7 w 30) (Ei.drop (n+1)) K)
def Mv{σ:St}:(wL (B8 w) (C7 w 30) (Ei.drop 8) σ K=mG w 8 σ K/\wL (B8 w) (C7 w 30) (Ei.drop 9) σ K=mG w 9 σ K)/\wL (B8 w) (C7 w 30) (Ei.drop 10) σ K=mG w 10 σ K/\wL (B8 w) (C7 w 30) (Ei.drop 11) σ K=mG w 11 σ K:=⟨⟨by rfl',by rfl'⟩,by rfl',by rfl'⟩
abbrev nt(l:List Int)(k:Int)(X:AV->Prop):Prop:=Ar k/\∃v,CD (ĭ l) k=some v/\X v
def tA:(ws (B8 w) GG 29).B (ł 8).1 (EE la lb mb op fb ds ks alo ahi blo bhi bi bj ĵ es) R=An (decide (alo<bi)) (An (decide (blo<bj)) (nt lb (bj-1) λv=>Ab (BL v) λk=>An (!decide (k∈ks)) (nt la (bi-1) λu=>nt lb (bj-1) λv=>JG .Eq u v (EE la lb mb op fb ds ks alo ahi blo bhi bi bj ĵ es) λr σ=>CV r σ λb σ=>An b (R true σ) (R false σ)) (R false (EE la lb mb op fb ds ks alo ahi blo bhi bi bj ĵ es)))
  (R false (EE la lb mb op fb ds ks alo ahi blo bhi bi bj ĵ es))) (R false (EE la lb mb op fb ds ks alo ahi blo bhi bi bj ĵ es)):=by rfl'
def pK:(ws (B8 w) GG 29).B (ł 9).1 (EE la lb mb op fb ds ks alo ahi blo bhi bi bj ĵ es) R=An (decide (bi+ĵ<ahi)) (An (decide (bj+ĵ<bhi)) (nt lb (bj+ĵ) λv=>Ab (BL v) λk=>An (!decide (k∈ks)) (nt la (bi+ĵ) λu=>nt lb (bj+ĵ) λv=>JG .Eq u v (EE la lb mb op fb ds ks alo ahi blo bhi bi bj ĵ es) λr σ=>CV r σ λb σ=>An b (R true σ) (R false σ)) (R false (EE la lb mb op fb ds ks alo ahi blo bhi bi bj ĵ es)))
  (R false (EE la lb mb op fb ds ks alo ahi blo bhi bi bj ĵ es))) (R false (EE la lb mb op fb ds ks alo ahi blo bhi bi bj ĵ es)):=by rfl'
def eR:(ws (B8 w) GG 29).B (ł 10).1 (EE la lb mb op fb ds ks alo ahi blo bhi bi bj ĵ es) R=An (decide (alo<bi)) (An (decide (blo<bj)) (nt lb (bj-1) λv=>Ab (BL v) λk=>An (decide (k∈ks)) (nt la (bi-1) λu=>nt lb (bj-1) λv=>JG .Eq u v (EE la lb mb op fb ds ks alo ahi blo bhi bi bj ĵ es) λr σ=>CV r σ λb σ=>An b (R true σ) (R false σ)) (R false (EE la lb mb op fb ds ks alo ahi blo bhi bi bj ĵ es)))
  (R false (EE la lb mb op fb ds ks alo ahi blo bhi bi bj ĵ es))) (R false (EE la lb mb op fb ds ks alo ahi blo bhi bi bj ĵ es)):=by rfl'
def kI:(ws (B8 w) GG 29).B (ł 11).1 (EE la lb mb op fb ds ks alo ahi blo bhi bi bj ĵ es) R=An (decide (bi+ĵ<ahi)) (An (decide (bj+ĵ<bhi)) (nt lb (bj+ĵ) λv=>Ab (BL v) λk=>An (decide (k∈ks)) (nt la (bi+ĵ) λu=>nt lb (bj+ĵ) λv=>JG .Eq u v (EE la lb mb op fb ds ks alo ahi blo bhi bi bj ĵ es) λr σ=>CV r σ λb σ=>An b (R true σ) (R false σ)) (R false (EE la lb mb op fb ds ks alo ahi blo bhi bi bj ĵ es)))
  (R false (EE la lb mb op fb ds ks alo ahi blo bhi bi bj ĵ es))) (R false (EE la lb mb op fb ds ks alo ahi blo bhi bi bj ĵ es)):=by rfl'
def jB:wL (B8 w) (C7 w 29) (ł 10).2 (EE la lb mb op fb ds ks alo ahi blo bhi bi bj ĵ es) K=(3=3/\K .next (EE la lb mb op fb ds ks alo ahi blo bhi (bi-1) (bj-1) (ĵ+1) es)):=by rfl'
def lQ:wL (B8 w) (C7 w 29) (ł 11).2 (EE la lb mb op fb ds ks alo ahi blo bhi bi bj ĵ es) K=K .next (EE la lb mb op fb ds ks alo ahi blo bhi bi bj (ĵ+1) es):=by rfl'
def iR:wL (B8 w) (C7 w 30) (Ei.drop 12) (EE la lb mb op fb ds ks alo ahi blo bhi bi bj ĵ es) K=(((AV.int bi).sub nn=some (.int bi)/\(AV.int bj).sub nn=some (.int bj)/\(AV.int ĵ).sub nn=some (.int ĵ))/\K (.ret (.mat [.int bi,.int bj,.int ĵ])) (EE la lb mb op fb ds ks alo ahi blo bhi bi bj ĵ es)):=by rfl'
end
end Mine
end
namespace Mine
section
variable{α:Type} [DecidableEq α]
noncomputable def D6(la lb:List α)(alo blo i j:Nat):Bool:=decide (alo<=i)&&decide (blo<=j)&&(match la[i]?,lb[j]? with | some x,some y=>decide (x=y) | _,_=>false)
noncomputable def AY(la lb:List α)(alo blo:Nat):Nat->Nat->Nat
 | 0,j=>if D6 la lb alo blo 0 j then 1 else 0
 | i+1,0=>if D6 la lb alo blo (i+1) 0 then 1 else 0
 | i+1,j+1=>if D6 la lb alo blo (i+1) (j+1)then AY la lb alo blo i j+1 else 0
def TX(la lb:List α)(alo ahi blo bhi i j k:Nat):Prop:=alo<=i/\blo<=j/\i+k<=ahi/\j+k<=bhi/\∀d,d<k->∃x,la[i+d]?=some x/\lb[j+d]?=some x
def CK{la lb:List α}{alo blo i j:Nat}:D6 la lb alo blo i j=true↔alo<=i/\blo<=j/\∃x,la[i]?=some x/\lb[j]?=some x:=by
 unfold D6
 simp only[aH6,decide_eq_true_eq,and_assoc]
 refine and_congr_right λ_=>and_congr_right λ_=>?_
 cases la[i]?<;>cases lb[j]?<;>simp
 exact eq_comm
theorem GH{la lb:List α}{alo blo:Nat} :∀(i j n:Nat),n<=AY la lb alo blo i j->∀d,d<n->d<=i/\d<=j/\D6 la lb alo blo (i-d) (j-d)=true
 | 0,j,n,h,d,hd=>by
  unfold AY at h
  split at h
  ·rename_i e
   have:d=0:=by exists 2,0x802181081018,hd,h
   subst this
   exact⟨aA9 _,aC7 _,e⟩
  ·exact aA8 (ql [_,_] 0xa081081018 (by rfl') hd h)
 | i+1,0,n,h,d,hd=>by
  unfold AY at h
  split at h
  ·rename_i e
   have:d=0:=by exists 2,0x802181081018,hd,h
   subst this
   exact⟨aC7 _,aA9 _,e⟩
  ·exact aA8 (ql [_,_] 0xa081081018 (by rfl') hd h)
 | i+1,j+1,n,h,d,hd=>by
  unfold AY at h
  split at h
  ·rename_i e
   cases d with
   | zero=>exact⟨aC7 _,aC7 _,e⟩
   | succ d=>
    obtain⟨h1,h2,h3⟩:=GH (la:=la) (lb:=lb) (alo:=alo) (blo:=blo) i j (n-1) (by exists 2,0x1180b0181a008,h) d (by exists 2,0x181b011180a18,hd)
    refine⟨by(exists 2,0x181a180a01008,h1),by(exists 2,0x181a180a01008,h2),?_⟩
    rw[aZ5,aZ5]
    exact h3
  ·exact aA8 (ql [_,_] 0xa081081018 (by rfl') hd h)
theorem MG{la lb:List α}{alo blo:Nat} :∀(i j n:Nat),(∀d,d<n->d<=i/\d<=j/\D6 la lb alo blo (i-d) (j-d)=true)->n<=AY la lb alo blo i j
 | _,_,0,_=>aC7 _
 | 0,j,n+1,h=>by
  have h0:=(h 0 (by exists 1,0x180a081)).2.2
  simp only[bG7]at h0
  unfold AY
  rw[bO7 h0]
  have:n=0:=by
   cases n with
   | zero=>rfl
   | succ n=>have:=(h 1 (by exists 1,0x18180aa181)).1;exists 1,0x8180a2081808,this
  exists 1,0x18180a008028,this
 | i+1,0,n+1,h=>by
  have h0:=(h 0 (by exists 1,0x180a081)).2.2
  simp only[bG7]at h0
  unfold AY
  rw[bO7 h0]
  have:n=0:=by
   cases n with
   | zero=>rfl
   | succ n=>have:=(h 1 (by exists 1,0x18180aa181)).2.1;exists 1,0x8180a2081808,this
  exists 1,0x18180a008028,this
 | i+1,j+1,n+1,h=>by
  have h0:=(h 0 (by exists 1,0x180a081)).2.2
  simp only[bG7]at h0
  unfold AY
  rw[bO7 h0]
  have:=MG i j n λd hd=>by
   obtain⟨h1,h2,h3⟩:=h (d+1) (by exists 2,0x181a180a11018,hd)
   rw[aZ5,aZ5]at h3
   exact⟨by(exists 2,0x100181a180a08,h1),by(exists 2,0x100181a180a08,h2),h3⟩
  exists 2,0x181a180a01008,this
end
section
variable{α:Type} [DecidableEq α]
def Oe(i j i' j':Nat):Prop:=i<i'\/(i=i'/\j<j')
structure DF(la lb:List α)(alo blo bhi i j bi bj ĵ:Nat):Prop where
 zero:ĵ=0->bi=alo/\bj=blo
 here:0<ĵ->∃ei ej,Oe ei ej i j/\ej<bhi/\AY la lb alo blo ei ej=ĵ/\bi+ĵ=ei+1/\bj+ĵ=ej+1/\∀i' j',Oe i' j' ei ej->j'<bhi->AY la lb alo blo i' j'<ĵ
 all :∀i' j',Oe i' j' i j->j'<bhi->AY la lb alo blo i' j'<=ĵ
def DF.start{la lb:List α}{alo blo bhi:Nat}:DF la lb alo blo bhi alo 0 alo blo 0:=by
 refine⟨λ_=>⟨rfl,rfl⟩,λh=>bO9 h (by exists 0,0x80819),λi' j' h hj=>?_⟩
 refine aN5 λz=>?_
 have:=(GH i' j' 1 z 0 (by exists 0,0x18081)).2.2
 have:=(CK.mp this).1
 rcases h with h | h
 ·exists 2,0xa0118081b008,this,h
 ·exists 1,0xa08018,h.2
def DF.skip{la lb:List α}{alo blo bhi i j bi bj ĵ:Nat}(h:DF la lb alo blo bhi i j bi bj ĵ)(hr:j<bhi->AY la lb alo blo i j<=ĵ):DF la lb alo blo bhi i (j+1) bi bj ĵ:=by
 refine⟨h.zero,λz=>?_,λi' j' hb hj=>?_⟩
 ·obtain⟨ei,ej,h1,h2⟩:=h.here z
  exact⟨ei,ej,by rcases h1 with h1 | h1<;>unfold Oe<;>omega,h2⟩
 ·by_cases e:i'=i/\j'=j
  ·obtain⟨rfl,rfl⟩:=e;exact hr hj
  ·exact h.all i' j' (by unfold Oe at *;exists 4,0x32110261017183a21102610178322102698,e,hb) hj
def DF.take{la lb:List α}{alo blo bhi i j bi bj ĵ:Nat}(h:DF la lb alo blo bhi i j bi bj ĵ)(hj:j<bhi)(hr:ĵ<AY la lb alo blo i j){ci cj:Nat}(hi:ci+AY la lb alo blo i j=i+1)(hjj:cj+AY la lb alo blo i j=j+1) :
  DF la lb alo blo bhi i (j+1) ci cj (AY la lb alo blo i j):=by
 refine⟨λz=>bO9 z (by exists 2,0x81291018,hr),λ_=>⟨i,j,.inr ⟨rfl,by exists 1,0x180a01⟩,hj,rfl,hi,hjj,λi' j' hb hj'=>aD1 (h.all i' j' hb hj') hr⟩,λi' j' hb hj'=>?_⟩
 by_cases e:i'=i/\j'=j
 ·obtain⟨rfl,rfl⟩:=e;exact aA9 _
 ·exact aE4 (aD1 (h.all i' j' (by unfold Oe at *;exists 4,0x32110261017183a21102610178322102698,e,hb) hj') hr)
def DF.row{la lb:List α}{alo blo bhi i j bi bj ĵ:Nat}(h:DF la lb alo blo bhi i j bi bj ĵ)(hr :∀j',j<=j'->j'<bhi->AY la lb alo blo i j'<=ĵ):DF la lb alo blo bhi (i+1) 0 bi bj ĵ:=by
 refine⟨h.zero,λz=>?_,λi' j' hb hj=>?_⟩
 ·obtain⟨ei,ej,h1,h2⟩:=h.here z
  exact⟨ei,ej,by unfold Oe at *;(exists 4,0x821181a026181a017321102610178,h1),h2⟩
 ·by_cases e:i'=i/\j<=j'
  ·obtain⟨rfl,e⟩:=e;exact hr j' e hj
  ·exact h.all i' j' (by unfold Oe at *;exists 4,0x231102610170831181a026181a0178320102698,e,hb) hj
def DF.jump{la lb:List α}{alo blo bhi i j j' bi bj ĵ:Nat}(h:DF la lb alo blo bhi i j bi bj ĵ)(hj:j<=j')(hr :∀x,j<=x->x<j'->x<bhi->AY la lb alo blo i x<=ĵ):DF la lb alo blo bhi i j' bi bj ĵ:=by
 refine⟨h.zero,λz=>?_,λi' x hb hx=>?_⟩
 ·obtain⟨ei,ej,h1,h2⟩:=h.here z
  exact⟨ei,ej,by unfold Oe at *;(exists 5,0x141322632170413226321781008,hj,h1),h2⟩
 ·by_cases e:i'=i/\j<=x
  ·obtain⟨rfl,e⟩:=e;exact hr x e (by unfold Oe at hb;exists 3,0x211211002600178,hb) hx
  ·exact h.all i' x (by unfold Oe at *;exists 5,0x23110261017431102610178320102698,e,hb) hx
structure Ş(la lb:List α)(alo ahi blo bhi i j k:Nat):Prop where
 str:TX la lb alo ahi blo bhi i j k
 max :∀i' j' k',TX la lb alo ahi blo bhi i' j' k'->k'<=k
 fst:0<k->∀i' j',TX la lb alo ahi blo bhi i' j' k->i<i'\/(i=i'/\j<=j')
 zero:k=0->i=alo/\j=blo
def Nd{la lb:List α}{alo ahi blo bhi i j k:Nat}(h:TX la lb alo ahi blo bhi i j k)(hk:0<k):k<=AY la lb alo blo (i+k-1) (j+k-1):=by
 obtain⟨h1,h2,h3,ō,Ξ⟩:=h
 refine MG _ _ _ λd hd=>⟨by(exists 3,0x1812ab001018,hd),by(exists 3,0x1812ab001018,hd),CK.mpr ⟨by(exists 4,0x21831abb0032181008,h1,hd),by(exists 4,0x21831abb0032181008,h2,hd),?_⟩⟩
 obtain⟨x,x1,x2⟩:=Ξ (k-1-d) (by exists 2,0x1180bb100818,hk)
 exact⟨x,by rw[<-x1];congr 1;(exists 3,0x181bb2a01812abb21018,hd),by rw[<-x2];congr 1;exists 3,0x181bb2a01812abb21018,hd⟩
def DF.done{la lb:List α}{alo ahi blo bhi bi bj ĵ:Nat}(ha:alo<=ahi)(hb:blo<=bhi)(h:DF la lb alo blo bhi ahi 0 bi bj ĵ):Ş la lb alo ahi blo bhi bi bj ĵ:=by
 refine⟨?_,λi' j' k' hs=>?_,λhk i' j' hs=>?_,h.zero⟩
 ·by_cases z:ĵ=0
  ·obtain⟨rfl,rfl⟩:=h.zero z
   subst z
   exact⟨aA9 _,aA9 _,ha,hb,λd hd=>bO9 hd (by exists 1,0x8019)⟩
  ·obtain⟨ei,ej,h1,h2,h3,ō,Ξ,Ť⟩:=h.here (by exists 1,0x81080298,z)
   have hit :∀d,d<ĵ->_:=λd hd=>GH ei ej ĵ (aB7 h3.symm) d hd
   have hl:=CK.mp (hit (ĵ-1) (by exists 1,0x180b1080298,z)).2.2
   refine⟨by(exists 4,0x30181b2b308182a10a28,ō,hl.1),by(exists 4,0x30181b2b308182a10a28,Ξ,hl.2.1),by unfold Oe at h1;(exists 5,0x310a00841322632178182a10a28,ō,h1),by(exists 4,0x132a0180a32a281018,h2,Ξ),λd hd=>?_⟩
   obtain⟨_,_,x,x1,x2⟩:=CK.mp (hit (ĵ-1-d) (by exists 2,0x10181bb11018,hd)).2.2
   exact⟨x,by rw[<-x1];congr 1;(exists 4,0x3181bb2b30a21318182a10a28,ō,hd),by rw[<-x2];congr 1;exists 4,0x3181bb2b30a21318182a10a28,Ξ,hd⟩
 ·by_cases z:k'=0
  ·exists 2,0x10008028,z
  ·obtain⟨h1,h2,h3,ō,Ξ⟩:=hs
   exact aA3 (Nd ⟨h1,h2,h3,ō,Ξ⟩ (by exists 1,0x81080298,z)) (h.all _ _ (.inl (by exists 3,0x21810ab1081298210a08,h3,z)) (by exists 3,0x21810ab1081298210a08,ō,z))
 ·obtain⟨ei,ej,h1,h2,h3,ō,Ξ,Ť⟩:=h.here hk
  have r:=Nd hs hk
  obtain⟨s1,s2,s3,s4,s5⟩:=hs
  refine aG4 λz=>?_
  have:=Ť (i'+ĵ-1) (j'+ĵ-1) (by unfold Oe;exists 7,0x41806ab121805ab2621805ab176305126511798184a03a28182a01a2800818,hk,ō,Ξ,z) (by exists 3,0x21801ab1201a0800818,hk,s4)
  exists 2,0xa01181008,r,this
end
noncomputable def GY(l:List Int):List Int:=l.map λx=>2*x
def DN(l:List Int):List Int:=l.map λy=>bif CM y then 2*y+1 else 2*y
def Cy(la lb:List Int)(i j:Nat):Prop:=∃x,la[i]?=some x/\lb[j]?=some x/\CM x=true
def Dg(la lb:List Int)(i j:Nat):Prop:=∃x,la[i]?=some x/\lb[j]?=some x/\CM x=false
def Fc{l:List Int}{i:Nat}{x:Int}:(GY l)[i]?=some (2*x)↔l[i]?=some x:=by
 unfold GY
 rw[aC5]
 cases l[i]? with
 | none=>exact⟨λz=>(nomatch z),λz=>(nomatch z)⟩
 | some y=>exact⟨λz=>by have:2*y=2*x:=aA1 z;exact bO6 some (by exists[],[_,_],0x105102c002c58,this),λz=>by cases z;rfl⟩
def Dz{l:List Int}{i:Nat}{x:Int}:(DN l)[i]?=some (2*x)↔l[i]?=some x/\CM x=false:=by
 unfold DN
 rw[aC5]
 cases l[i]? with
 | none=>exact⟨λz=>(nomatch z),λz=>(nomatch z.1)⟩
 | some y=>
  show some (bif CM y then 2*y+1 else 2*y)=some (2*x)↔_
  cases j:CM y with
  | true=>exact⟨λz=>by have:2*y+1=2*x:=aA1 z;omega,λz=>by cases z.1;exact nomatch j.symm.trans z.2⟩
  | false=>
   refine⟨λz=>?_,λz=>by cases z.1;rfl⟩
   have:2*y=2*x:=aA1 z
   have e:y=x:=by exists[],[_,_],0x105102c002c58,this
   exact⟨bO6 some e,e▸j⟩
def J6{la lb:List Int}{i j:Nat}:(∃z,(GY la)[i]?=some z/\(DN lb)[j]?=some z)↔Dg la lb i j:=
 ⟨λ⟨z,h1,h2⟩=>by
  have h1':=h1
  unfold GY at h1'
  rw[aC5]at h1'
  cases e:la[i]? with
  | none=>rw[e]at h1';cases h1'
  | some x=>
   rw[e]at h1'
   have:2*x=z:=aA1 h1'
   subst this
   have q:=Dz.mp h2
   exact⟨x,e,q.1,q.2⟩,λ⟨x,h1,h2,h3⟩=>⟨2*x,Fc.mpr h1,Dz.mpr ⟨h2,h3⟩⟩⟩
def Mj{l:List Int}:(DN l).length=l.length:=aB0 ..
structure Od(la lb:List Int)(alo ahi blo bhi i j k:Nat):Prop where
 ex :∃c l r,Ş (GY la) (DN lb) alo ahi blo bhi (i+l) (j+l) c/\k=l+c+r/\(∀d,d<l->Cy la lb (i+d) (j+d))/\∀d,d<r->Cy la lb (i+l+c+d) (j+l+c+d)
 lo:alo<=i/\blo<=j
 hi:i+k<=ahi/\j+k<=bhi
 ml:alo<i->blo<j->¬ Cy la lb (i-1) (j-1)
 mr:i+k<ahi->j+k<bhi->¬ Cy la lb (i+k) (j+k)
def Od.str{la lb:List Int}{alo ahi blo bhi i j k:Nat}(h:Od la lb alo ahi blo bhi i j k):alo<=i/\blo<=j/\i+k<=ahi/\j+k<=bhi/\True:=⟨h.lo.1,h.lo.2,h.hi.1,h.hi.2,trivial⟩
structure Ur(la lb:List Int)(alo ahi blo bhi i j k:Nat):Prop where
 ex :∃c l,Ş (GY la) (DN lb) alo ahi blo bhi (i+l) (j+l) c/\k=l+c/\∀d,d<l->Cy la lb (i+d) (j+d)
 lo:alo<=i/\blo<=j
 hi:i+k<=ahi/\j+k<=bhi
def Ur.start{la lb:List Int}{alo ahi blo bhi i j k:Nat}(h:Ş (GY la) (DN lb) alo ahi blo bhi i j k):Ur la lb alo ahi blo bhi i j k:=
 ⟨⟨k,0,h,(aF3 k).symm,λd hd=>bO9 hd (aE6 d)⟩,⟨h.str.1,h.str.2.1⟩,h.str.2.2.1,h.str.2.2.2.1⟩
def Ur.step{la lb:List Int}{alo ahi blo bhi i j k:Nat}(h:Ur la lb alo ahi blo bhi (i+1) (j+1) k)(hi:alo<=i)(hj:blo<=j)(hh:Cy la lb i j):Ur la lb alo ahi blo bhi i j (k+1):=by
 obtain⟨⟨c,l,h1,h2,h3⟩,ō,Ξ⟩:=h
 refine⟨⟨c,l+1,?_,by(exists 3,0x2181aa180a221a028,h2),λd hd=>?_⟩,⟨hi,hj⟩,by(exists 3,0x2181a0a021180aa08,Ξ.1),by exists 3,0x2181a0a021180aa08,Ξ.2⟩
 ·rw[show i+(l+1)=i+1+l by(exists 2,0x1180aa181a0a2),show j+(l+1)=j+1+l by exists 2,0x1180aa181a0a2];exact h1
 ·cases d with
  | zero=>exact hh
  | succ d=>rw[show i+(d+1)=i+1+d by(exists 2,0x1180aa181a0a2),show j+(d+1)=j+1+d by exists 2,0x1180aa181a0a2];exact h3 d (aS2 hd)
structure VY(la lb:List Int)(alo ahi blo bhi i j k:Nat):Prop where
 ex :∃c l r,Ş (GY la) (DN lb) alo ahi blo bhi (i+l) (j+l) c/\k=l+c+r/\(∀d,d<l->Cy la lb (i+d) (j+d))/\∀d,d<r->Cy la lb (i+l+c+d) (j+l+c+d)
 lo:alo<=i/\blo<=j
 hi:i+k<=ahi/\j+k<=bhi
 ml:alo<i->blo<j->¬ Cy la lb (i-1) (j-1)
def Ur.fin{la lb:List Int}{alo ahi blo bhi i j k:Nat}(h:Ur la lb alo ahi blo bhi i j k)(ml:alo<i->blo<j->¬ Cy la lb (i-1) (j-1)):VY la lb alo ahi blo bhi i j k:=by
 obtain⟨⟨c,l,h1,h2,h3⟩,ō,Ξ⟩:=h
 exact⟨⟨c,l,0,h1,h2,h3,λd hd=>bO9 hd (aE6 d)⟩,ō,Ξ,ml⟩
def VY.step{la lb:List Int}{alo ahi blo bhi i j k:Nat}(h:VY la lb alo ahi blo bhi i j k)(hi:i+k<ahi)(hj:j+k<bhi)(hh:Cy la lb (i+k) (j+k)):VY la lb alo ahi blo bhi i j (k+1):=by
 obtain⟨⟨c,l,r,h1,h2,h3,Ť⟩,ō,Ξ,h7⟩:=h
 refine⟨⟨c,l,r+1,h1,by(exists 4,0x183a21aa180a2321aa028,h2),h3,λd hd=>?_⟩,ō,⟨hi,hj⟩,h7⟩
 rcases bE1 (aJ3 hd)with z | z
 ·exact Ť d z
 ·subst z;rw[show i+l+c+d=i+k by(exists 5,0x4a3214aaa2321aa028,h2),show j+l+c+d=j+k by exists 5,0x4a3214aaa2321aa028,h2];exact hh
def VY.fin{la lb:List Int}{alo ahi blo bhi i j k:Nat}(h:VY la lb alo ahi blo bhi i j k)(mr:i+k<ahi->j+k<bhi->¬ Cy la lb (i+k) (j+k)):Od la lb alo ahi blo bhi i j k:=
 ⟨h.ex,h.lo,h.hi,h.ml,mr⟩
end Mine
section
open PySem PySem.W PyProof.Rows
namespace Mine
section
variable{β:Type}{k k':AB}{v:β}{es:List (AB×β)}
def Yp:(es.map (λkv=>if kv.1=k then(kv.1,v)else kv)).lookup k'=if k'=k then(es.lookup k').map λ_=>v else es.lookup k':=
 aB5 (motive:=λes=>(es.map (λkv=>if kv.1=k then(kv.1,v)else kv)).lookup k'=if k'=k then(es.lookup k').map λ_=>v else es.lookup k') (by by_cases e:k'=k<;>(first | rw[bO7 e] | rw[bO8 e])<;>rfl) (λp r ih=>by
  refine Aj aM7 ?_;rw[AS,AS];refine Aj ih ?_
  by_cases h:p.1=k
  ·refine Aj (bO7 h) ?_
   by_cases e:k'=k
   ·refine Aj (bO7 e) ?_;refine Aj (bO7 e) ?_;refine Aj h ?_;refine Aj (show(k'==k)=true from beq_iff_eq.mpr e) ?_;rfl
   ·refine Aj (bO8 e) ?_;refine Aj (bO8 e) ?_;refine Aj h ?_;refine Aj (show(k'==k)=false from beq_eq_false_iff_ne.mpr e) ?_;rfl
  ·refine Aj (bO8 h) ?_
   by_cases e:k'=k
   ·refine Aj (bO7 e) ?_;refine Aj (bO7 e) ?_;refine Aj (show(k'==p.1)=false from beq_eq_false_iff_ne.mpr λz=>h (z.symm.trans e)) ?_;rfl
   ·refine Aj (bO8 e) ?_;refine Aj (bO8 e) ?_;rfl) es
def Q8:(es.any λkv=>decide (kv.1=k))=(es.lookup k).isSome:=
 aB5 (motive:=λes=>(es.any λkv=>decide (kv.1=k))=(es.lookup k).isSome) rfl (λp r ih=>by
  refine Aj List.any_cons ?_;rw[AS];refine Aj ih ?_
  by_cases h:p.1=k
  ·refine Aj (bP0 h) ?_;refine Aj (show(k==p.1)=true from beq_iff_eq.mpr h.symm) ?_;rfl
  ·refine Aj (bP1 h) ?_;refine Aj (show(k==p.1)=false from beq_eq_false_iff_ne.mpr λz=>h z.symm) ?_;rfl) es
def QN:(es++[(k,v)]).lookup k'=if(es.lookup k').isSome then es.lookup k' else if k'=k then some v else none:=
 aB5 (motive:=λes=>(es++[(k,v)]).lookup k'=if(es.lookup k').isSome then es.lookup k' else if k'=k then some v else none) (by
  show((k,v)::[]).lookup k'=_
  rw[AS]
  by_cases e:k'=k
  ·refine Aj (show(k'==k)=true from beq_iff_eq.mpr e) ?_;refine Aj (bO7 e) ?_;rfl
  ·refine Aj (show(k'==k)=false from beq_eq_false_iff_ne.mpr e) ?_;refine Aj (bO8 e) ?_;rfl) (λp r ih=>by
  refine Aj List.cons_append ?_;rw[AS,AS];refine Aj ih ?_
  cases k'==p.1<;>rfl) es
def GV:(dset es k v).lookup k'=if k'=k then some v else es.lookup k':=by
 unfold dset
 refine Aj Q8 ?_
 cases h:es.lookup k with
 | none=>
  refine Aj (bO8 (by exact λz=>nomatch z)) ?_;refine Aj QN ?_
  by_cases e:k'=k
  ·refine Aj (bO7 e) ?_;refine Aj (bO7 e) ?_;refine Aj e ?_;refine Aj h ?_;rfl
  ·refine Aj (bO8 e) ?_;refine Aj (bO8 e) ?_;cases es.lookup k'<;>rfl
 | some u=>
  refine Aj (bO7 (show(some u).isSome=true from rfl)) ?_;refine Aj Yp ?_
  by_cases e:k'=k
  ·refine Aj (bO7 e) ?_;refine Aj (bO7 e) ?_;refine Aj e ?_;refine Aj h ?_;rfl
  ·refine Aj (bO8 e) ?_;refine Aj (bO8 e) ?_;rfl
def Hh:(dset es k v).length<=es.length+1:=by
 unfold dset
 by_cases h:(es.any λkv=>decide (kv.1=k))=true
 ·refine Aj (bO7 h) ?_;rw[aB0];exact aK1 _
 ·refine Aj (bO8 h) ?_;refine Aj aC3 ?_;exact aA9 _
end
def LQ{es:List (AB×AV)}:AI nn es=some es↔∀p∈es,p.2.sub nn=some p.2:=
 aB5 (motive:=λes=>AI nn es=some es↔∀p∈es,p.2.sub nn=some p.2) ⟨λ_ _ h=>(nomatch h),λ_=>rfl⟩ (λp r ih=>Prod.casesOn (motive:=λp=>AI nn (p::r)=some (p::r)↔∀q∈p::r,q.2.sub nn=some q.2) p λk x=>⟨λe=>by
  obtain⟨b,e1,e⟩:=AF (show(x.sub nn).bind (λb=>(AI nn r).map ((k,b) :: ·))=_ from e)
  obtain⟨c,e2,e3⟩:=map_some e
  obtain⟨h1,h2⟩:=bL3.inj e3
  exact λq hq=>(aD7.mp hq).elim (λz=>z▸e1.trans (bO6 (λq:AB×AV=>some q.2) h1)) (ih.mp (e2.trans (bO6 some h2)) q),
  λh=>by
  show(x.sub nn).bind (λb=>(AI nn r).map ((k,b) :: ·))=_
  refine Aj (show x.sub nn=some x from h (k,x) (aC6 ..)) ?_;refine Aj (ih.mpr λq hq=>h q (aC9 _ hq)) ?_;rfl⟩) es
def Id{es:List (AB×AV)}{k:AB}{v:AV}(h:AI nn es=some es)(hv:v.sub nn=some v):AI nn (dset es k v)=some (dset es k v):=by
 have h:=LQ.mp h
 refine LQ.mpr λp hp=>?_
 unfold dset at hp
 by_cases c:(es.any λkv=>decide (kv.1=k))=true
 ·rw[bO7 c]at hp
  obtain⟨q,h1,rfl⟩:=aM8.mp hp
  by_cases e:q.1=k
  ·refine Aj (bO7 e) ?_;exact hv
  ·refine Aj (bO8 e) ?_;exact h q h1
 ·rw[bO8 c]at hp
  exact(aC0.mp hp).elim (h p) λz=>aB6.mp z▸hv
def F7{α:Type} [DecidableEq α] {la lb:List α} {alo blo i j:Nat}:0<AY la lb alo blo i j↔D6 la lb alo blo i j=true:=
 ⟨λh=>(GH i j 1 h 0 (aC2 0)).2.2,λh=>MG i j 1 λd hd=>by
  obtain rfl:d=0:=aZ6.mp hd
  exact⟨aC7 _,aC7 _,h⟩⟩
section
variable(la lb:List Int)(alo blo bhi:Nat)
def NJ(i J:Nat)(es:List (AB×AV)):Prop:=AI nn es=some es/\∀z:Int,es.lookup (.int z)=if 0<=z/\z<J/\z<bhi/\0<AY la lb alo blo i z.toNat then some (.int (AY la lb alo blo i z.toNat:Int))else none
def PJ(i:Nat)(es:List (AB×AV)):Prop:=AI nn es=some es/\∀j:Nat,j<bhi->D6 la lb alo blo i j=true->(es.lookup (.int ((j:Int)-1))).getD (.int 0) = .int ((AY la lb alo blo i j:Int)-1)
end
section
variable{la lb:List Int}{alo blo bhi:Nat}
def NJ.nil{i:Nat}:NJ la lb alo blo bhi i 0 []:=⟨rfl,λz=>(bO8 λh=>bO9 (bD5 h.1 h.2.1) (Int.lt_irrefl 0)).symm⟩
def PJ.nil:PJ la lb alo blo bhi alo []:=by
 refine⟨rfl,λj hj hh=>?_⟩
 have h1:=F7.mpr hh
 have:AY la lb alo blo alo j=1:=by
  refine bH1 (aN5 λz=>?_) h1
  have:=GH alo j 2 z 1 (by decide)
  have:=(CK.mp this.2.2).1
  rename_i u0;exists 1,0xa180b00801808,u0.1,this
 refine Aj this ?_
 rfl
def NJ.next{i J:Nat}{es:List (AB×AV)}(h:NJ la lb alo blo bhi i J es)(hn :∀y,J<=y->y<bhi->AY la lb alo blo i y=0):PJ la lb alo blo bhi (i+1) es:=by
 refine⟨h.1,λj hj hh=>?_⟩
 rw[h.2]
 cases j with
 | zero=>
  refine Aj (bO8 (by exists 3,0x208110f18080fb4600f18080fb4618080fb08369)) ?_
  unfold AY
  refine Aj (bO7 hh) ?_
  rfl
 | succ y=>
  have e:((y+1:Nat):Int)-1=(y:Int):=aX1 (y:Int) 1
  refine Aj e ?_
  have e2:AY la lb alo blo (i+1) (y+1)=AY la lb alo blo i y+1:=by
   conv=>lhs;unfold AY
   refine Aj (bO7 hh) ?_;rfl
  refine Aj e2 ?_;rw[aH9]
  by_cases z:0<AY la lb alo blo i y
  ·have:y<J:=bA3 λq=>bO9 z (hn y q (Nat.lt_of_succ_lt hj)▸aM6 0)
   refine Aj (bO7 ⟨aL1 y,aD4.mpr this,aD4.mpr (Nat.lt_of_succ_lt hj),z⟩) ?_
   exact bO6 AV.int (aX1 _ 1).symm
  ·refine Aj (bO8 λq=>z q.2.2.2) ?_;refine Aj (aL5 z) ?_
   rfl
def NJ.jump{i J J':Nat}{es:List (AB×AV)}(h:NJ la lb alo blo bhi i J es)(hJ:J<=J')(hr :∀x,J<=x->x<J'->x<bhi->AY la lb alo blo i x=0):NJ la lb alo blo bhi i J' es:=by
 refine⟨h.1,λz=>?_⟩
 rw[h.2]
 by_cases c:0<=z/\z<J/\z<bhi/\0<AY la lb alo blo i z.toNat
 ·refine Aj (bO7 c) ?_;refine Aj (bO7 ⟨c.1,aW8 c.2.1 (aM2.mpr hJ),c.2.2⟩) ?_;rfl
 ·refine Aj (bO8 c) ?_;rw[bO8]
  rintro ⟨c1,c2,c3,c4⟩
  have:=hr z.toNat (by exists[_,_,_,_],[_],0x230108100f04630f0460083698080e20f581081800f04800838,c1,c3,c4,(aD6 _),c) (by exists[_,_],[_],0x11080e10f5800f04800838,c1,c2,(aD6 _)) (by exists[_,_],[_],0x11080e10f5800f04800838,c1,c3,(aD6 _))
  exact bO9 c4 (this▸aM6 0)
def NJ.take{i j:Nat}{es:List (AB×AV)}(h:NJ la lb alo blo bhi i j es)(hj:j<bhi)(hr:0<AY la lb alo blo i j):NJ la lb alo blo bhi i (j+1) (dset es (.int (j:Int)) (.int (AY la lb alo blo i j:Int))):=by
 refine⟨Id h.1 rfl,λz=>?_⟩
 refine Aj GV ?_;rw[h.2]
 by_cases e:z=(j:Int)
 ·subst e
  refine Aj (bO7 rfl) ?_;rw[aH9];refine Aj (bO7 ⟨aL1 j,aD4.mpr (aC2 j),aD4.mpr hj,hr⟩) ?_;rfl
 ·refine Aj (bO8 λq=>e (AB.int.inj q)) ?_
  by_cases c:0<=z/\z<j/\z<bhi/\0<AY la lb alo blo i z.toNat
  ·refine Aj (bO7 c) ?_;refine Aj (bO7 ⟨c.1,bC9 c.2.1 (aD4.mpr (aC2 j)),c.2.2⟩) ?_;rfl
  ·refine Aj (bO8 c) ?_;refine Aj (bO8 λq=>c ⟨q.1,Int.lt_iff_le_and_ne.mpr ⟨Int.le_of_lt_add_one q.2.1,e⟩,q.2.2⟩) ?_;rfl
end
def Ii{ys:List Int}{x:Int}{y:Nat}:y∈CF ys ys.length x↔ys[y]?=some x:=by
 unfold CF
 rw[aI5,aR0]
 exact⟨λh=>bP2 h.2,λh=>⟨(aA5.mp h).1,bP0 h⟩⟩
def Iy(ys:List Int)(n:Nat)(x:Int):(CF ys n x).Pairwise (· < ·):=aV6.filter _ aY5
structure CP(la lb:List Int)(alo blo bhi i:Nat)(ps:List Nat)(t bi bj ĵ:Nat)(es:List (AB×AV)):Prop where
 ex :∃J,DF la lb alo blo bhi i J bi bj ĵ/\NJ la lb alo blo bhi i J es/\(∀p∈ps.drop t,J<=p)/\(∀y,J<=y->D6 la lb alo blo i y=true->y∈ps.drop t)
 len:es.length<=t
def CP.start{la lb:List Int}{alo blo bhi i bi bj ĵ:Nat}{x:Int}(hk:la[i]?=some x)(h:DF la lb alo blo bhi i 0 bi bj ĵ):CP la lb alo blo bhi i (CF lb lb.length x) 0 bi bj ĵ []:=by
 refine⟨⟨0,h,NJ.nil,λ_ _=>aC7 _,λy _ hy=>?_⟩,aA9 _⟩
 obtain⟨_,_,x,x1,x2⟩:=CK.mp hy
 rw[x1]at hk
 cases hk
 exact Ii.mpr x2
def Jv(la lb:List Int)(alo blo bhi i bi bj ĵ:Nat)(es:List (AB×AV)):Prop:=DF la lb alo blo bhi (i+1) 0 bi bj ĵ/\PJ la lb alo blo bhi (i+1) es
def Rv{la lb:List Int}{alo blo bhi i J bi bj ĵ:Nat}{es:List (AB×AV)}(h:DF la lb alo blo bhi i J bi bj ĵ)(hn:NJ la lb alo blo bhi i J es)(hz :∀y,J<=y->y<bhi->D6 la lb alo blo i y=true->False):Jv la lb alo blo bhi i bi bj ĵ es:=by
 have z :∀y,J<=y->y<bhi->AY la lb alo blo i y=0:=λy h1 h2=>aL5 λq=>hz y h1 h2 (F7.mp q)
 exact⟨h.row λj h1 h2=>by refine Aj (z j h1 h2) ?_;exact aC7 _,hn.next z⟩
def CP.fin{la lb:List Int}{alo blo bhi i bi bj ĵ:Nat}{ps:List Nat}{es:List (AB×AV)}(h:CP la lb alo blo bhi i ps ps.length bi bj ĵ es):Jv la lb alo blo bhi i bi bj ĵ es:=by
 obtain⟨⟨J,h1,h2,h3,ō⟩,Ξ⟩:=h
 refine Rv h1 h2 λy y1 y2 y3=>?_
 have:=ō y y1 y3
 rw[bB1]at this
 exact nomatch this
def Ft{α:Type}{l:List α}{t:Nat}{x:α}(h:l[t]?=some x):l.drop t=x::l.drop (t+1):=by
 obtain⟨h1,h2⟩:=aA5.mp h
 refine Aj (aQ2 h1) ?_;refine Aj h2 ?_;rfl
section
variable{la lb:List Int}{alo blo bhi i t j bi bj ĵ:Nat}{ps:List Nat}{es:List (AB×AV)}
def CP.brk(h:CP la lb alo blo bhi i ps t bi bj ĵ es)(hs:ps.Pairwise (· < ·))(hj:ps[t]?=some j)(hb:bhi<=j):Jv la lb alo blo bhi i bi bj ĵ es:=by
 obtain⟨⟨J,h1,h2,h3,ō⟩,Ξ⟩:=h
 refine Rv h1 h2 λy y1 y2 y3=>?_
 have:=ō y y1 y3
 have hs:=hs.sublist (aY4 t ps)
 rw[Ft hj]at this hs
 exact(aD7.mp this).elim (λz=>bO9 (z▸y2) (aM3.mpr hb)) λz=>bO9 (aY3 ((aR7.mp hs).1 y z) y2) (aM3.mpr hb)
def CP.upto(h:CP la lb alo blo bhi i ps t bi bj ĵ es)(hs:ps.Pairwise (· < ·))(hj:ps[t]?=some j):DF la lb alo blo bhi i j bi bj ĵ/\NJ la lb alo blo bhi i j es/\(∀p∈ps.drop (t+1),j+1<=p)/\(∀y,j+1<=y->D6 la lb alo blo i y=true->y∈ps.drop (t+1)):=by
 obtain⟨⟨J,h1,h2,h3,ō⟩,Ξ⟩:=h
 have hs:=hs.sublist (aY4 t ps)
 rw[Ft hj]at h3 ō hs
 have hJ:=h3 j (aC6 ..)
 have hs:=(aR7.mp hs).1
 have z :∀x,J<=x->x<j->x<bhi->AY la lb alo blo i x=0:=λx x1 x2 x3=>aL5 λq=>
  (aD7.mp (ō x x1 (F7.mp q))).elim (λe=>bO9 x2 (e▸aM6 _)) λe=>bO9 (hs x e) (Nat.lt_asymm x2)
 exact⟨h1.jump hJ λx x1 x2 x3=>by refine Aj (z x x1 x2 x3) ?_;exact aC7 _,h2.jump hJ z,λp hp=>hs p hp,λy y1 y2=>
  (aD7.mp (ō y (aA3 hJ (aN0 y1)) y2)).elim (λe=>bO9 (e▸y1) (bB9 _)) id⟩
def CP.cont(h:CP la lb alo blo bhi i ps t bi bj ĵ es)(hs:ps.Pairwise (· < ·))(hj:ps[t]?=some j)(hb:j<blo):CP la lb alo blo bhi i ps (t+1) bi bj ĵ es:=by
 obtain⟨h1,h2,h3,ō⟩:=h.upto hs hj
 have z:AY la lb alo blo i j=0:=aL5 λq=>bO9 (CK.mp (F7.mp q)).2.1 (bG6.mpr hb)
 exact⟨⟨j+1,h1.skip λ_=>z▸aC7 _,h2.jump (aK1 _) λx x1 x2 x3=>bH1 (aJ3 x2) x1▸z,h3,ō⟩,aI0 h.len⟩
def CP.keep(h:CP la lb alo blo bhi i ps t bi bj ĵ es)(hs:ps.Pairwise (· < ·))(hj:ps[t]?=some j)(hb:j<bhi)(hr:0<AY la lb alo blo i j)(hk:AY la lb alo blo i j<=ĵ):CP la lb alo blo bhi i ps (t+1) bi bj ĵ (dset es (.int (j:Int)) (.int (AY la lb alo blo i j:Int))):=by
 obtain⟨h1,h2,h3,ō⟩:=h.upto hs hj
 exact⟨⟨j+1,h1.skip λ_=>hk,h2.take hb hr,h3,ō⟩,aA3 Hh (aG8 h.len)⟩
def CP.better(h:CP la lb alo blo bhi i ps t bi bj ĵ es)(hs:ps.Pairwise (· < ·))(hj:ps[t]?=some j)(hb:j<bhi)(hk:ĵ<AY la lb alo blo i j){ci cj:Nat}(hi:ci+AY la lb alo blo i j=i+1)(hjj:cj+AY la lb alo blo i j=j+1) :
  CP la lb alo blo bhi i ps (t+1) ci cj (AY la lb alo blo i j) (dset es (.int (j:Int)) (.int (AY la lb alo blo i j:Int))):=by
 obtain⟨h1,h2,h3,ō⟩:=h.upto hs hj
 exact⟨⟨j+1,h1.take hb hk hi hjj,h2.take hb (Nat.zero_lt_of_lt hk),h3,ō⟩,aA3 Hh (aG8 h.len)⟩
end
def OI{α:Type} [DecidableEq α] {la lb:List α} {alo blo i j:Nat}:AY la lb alo blo i j<=i+1/\AY la lb alo blo i j<=j+1:=by
 by_cases h:AY la lb alo blo i j=0
 ·exists 3,0x182a00181a00608028,h
 ·have:=GH (la:=la) (lb:=lb) (alo:=alo) (blo:=blo) i j _ (aA9 _) (AY la lb alo blo i j-1) (by exists 1,0x180b1080298,h)
  exists 3,0x182a00181a0062180b081180b08,this.1,this.2.1
def U0{la lb:List Int}{alo ahi blo bhi i j k:Nat}{x:Int}(h:Ş la lb alo ahi blo bhi i j k)(hi:alo<i)(hj:blo<j)(hx:la[i-1]?=some x)(hy:lb[j-1]?=some x):False:=by
 obtain⟨s1,s2,s3,s4,s5⟩:=h.str
 have:=h.max (i-1) (j-1) (k+1) ⟨by(exists 2,0x181b001018,hi),by(exists 2,0x181b001018,hj),by(exists 4,0x3182a181ba0321a081018,hi,s3),by(exists 4,0x3182a181ba0321a081018,hj,s4),λd hd=>?_⟩
 ·exact bO9 this (bB9 k)
 ·cases d with
  | zero=>exact⟨x,hx,hy⟩
  | succ d=>
   obtain⟨z,Š,z2⟩:=s5 d (aS2 hd)
   exact⟨z,by refine Aj Š.symm ?_;congr 1;(exists 3,0x21a182a181ba21018,hi),by refine Aj z2.symm ?_;congr 1;exists 3,0x21a182a181ba21018,hj⟩
def lR{la lb:List Int}{alo ahi blo bhi i j k:Nat}{x:Int}(h:Ş la lb alo ahi blo bhi i j k)(hi:i+k<ahi)(hj:j+k<bhi)(hx:la[i+k]?=some x)(hy:lb[j+k]?=some x):False:=by
 obtain⟨s1,s2,s3,s4,s5⟩:=h.str
 refine bO9 (h.max i j (k+1) ⟨s1,s2,hi,hj,λd hd=>?_⟩) (bB9 k)
 by_cases e:d=k
 ·exact e▸⟨x,hx,hy⟩
 ·exact s5 d (Nat.lt_iff_le_and_ne.mpr ⟨aJ3 hd,e⟩)
def Fu{p:Prop} [Decidable p] {A B:Prop} (a:p->A) (b:¬ p->B):An (decide p) A B:=
 if h:p then(bP0 h).symm▸a h else(bP1 h).symm▸b h
def big{n:Nat}(h:n<=100000):AE n:=aA3 h (by decide)
def BR{n:Nat}(h:n<=100000):Ar (n:Int):=⟨aQ3 (by decide) (aL1 n),bD5 (aM2.mpr h) (by decide)⟩
def Ch{l:List Int}{i:Nat}{x:Int}(h:l[i]?=some x):CD (ĭ l) (i:Int)=some (.int x):=by
 have hl:=(aA5.mp h).1
 have e:seqIndex? (i:Int) (ĭ l).length=some i:=by
  unfold seqIndex?
  rw[bO8 (bA7.mpr (aL1 i)),AW,bO7 (aE8.mpr ⟨bP0 (aL1 i),bP0 (aD4.mpr hl)⟩)];rfl
 unfold CD
 rw[e]
 exact(aC5 ..).trans (bO6 (aD8 AV.int) h)
def EK{l:List Int}{k:Int}{n:Nat}{y:Int}{X:AV->Prop}(hk:k=(n:Int))(h:l[n]?=some y)(hl:l.length<=100000)(x:X (.int y)):nt l k X:=by
 subst hk
 exact⟨BR (aA3 (aE4 (aA5.mp h).1) hl),_,Ch h,x⟩
def CA{l m:List (Str×AV)}{x:Str}{v:AV}(h:l.lookup x=some v):(l++m).lookup x=some v:=by
 rw[List.lookup_append,h];rfl
def H5{test:St->(Bool->St->Prop)->Prop}{body els:St->ſ->Prop}{σ:St}{Q:ſ}(h :∀R:Bool->St->Prop,R false σ->test σ R)(fin:els σ Q):Fr test body els σ Q:=
 ⟨λ_ τ=>τ=σ,0,⟨σ,.refl σ,rfl⟩,λm τ e=>by subst e;exact h _ fin⟩
def Kz{x y:Int}{σ:St}{R:Bool->St->Prop}(h1:x=y->R true σ)(h2:R false σ):JG .Eq (.int x) (.int y) σ λr σ=>CV r σ λb σ=>An b (R true σ) (R false σ):=by
 show An (decide (AB.int x=AB.int y)) (R true σ) (R false σ)
 exact Fu (λe=>h1 (AB.int.inj e)) λ_=>h2
def U8{P:Pm}{ds:List (AB×AV)}{x:Int}{d:AV}{σ:St}{Q:AV->St->Prop}:D1 P (.fn .get) [.dct ds,.int x,d] σ Q=Q ((ds.lookup (.int x)).getD d) σ:=rfl
def OS{l:List Int}{n:Nat}(h:n<l.length) :∃x,l[n]?=some x:=⟨_,aA6 h⟩
def B9:Ŕ:=λas os Q=>∃(la lb:List Int) (mb op fb:AV) (ds:List (AB×AV)) (ks:List AB) (alo ahi blo bhi:Nat),as=[.ref 0,.int (alo:Int),.int (ahi:Int),.int (blo:Int),.int (bhi:Int)]/\os=[(aD,DB (.lst (ĭ la)) (.lst (ĭ lb)) mb op fb (.dct ds) (.fset ks))]/\(Bw (.lst (ĭ la)) (.lst (ĭ lb)) mb op fb (.dct ds) (.fset ks)/\ŭ lb ds ks)/\(la.length<=100000/\lb.length<=100000)/\
 (alo<=ahi/\ahi<=la.length)/\(blo<=bhi/\bhi<=lb.length)/\∀(i j k:Nat),Od la lb alo ahi blo bhi i j k->Q (.mat [.int (i:Int),.int (j:Int),.int (k:Int)]) [(aD,DB (.lst (ĭ la)) (.lst (ĭ lb)) mb op fb (.dct ds) (.fset ks))]
section
variable{w:aB9}{la lb:List Int}{mb op fb:AV}{ds es es2:List (AB×AV)}{ks:List AB}{alo ahi blo bhi bi bj ĵ i j r:Int}{K:ſ}{u:AV}
def QZ{g:Nat->Option AV}(S:Bw (.lst (ĭ la)) (.lst (ĭ lb)) mb op fb (.dct ds) (.fset ks)):(eB la lb mb op fb ds ks).sub g=some (eB la lb mb op fb ds ks):=N0 (bO6 (aD8 (AO.inst aD)) S.shut)
def XQ(S:Bw (.lst (ĭ la)) (.lst (ĭ lb)) mb op fb (.dct ds) (.fset ks)):Ac (fA la lb mb op fb ds ks alo ahi blo bhi) (EE la lb mb op fb ds ks alo ahi blo bhi alo blo 0 []):=
 .re [0] [(1,.dct [])] rfl rfl rfl rfl (Aq rfl rfl rfl rfl Bc) (Bo rfl rfl (Bo rfl rfl (Bo rfl rfl (Bo rfl rfl (Bo rfl rfl (Bo rfl (AK _ _ (A0 la)) (Bo rfl (AK _ _ (A0 lb)) (Bo rfl (AK _ _ S.b2j) (Bo rfl rfl (Bo rfl rfl (Bo rfl rfl (Bo rfl rfl (Bo rfl rfl (Bo rfl rfl Be)))))))))))))) (NP rfl rfl (QZ S) Bd)
def Yv(S:Bw (.lst (ĭ la)) (.lst (ĭ lb)) mb op fb (.dct ds) (.fset ks))(h:AI nn es2=some es2):Ac (L6 la lb mb op fb ds ks alo ahi blo bhi bi bj ĵ es es2 i (.ref 1) []) (EE la lb mb op fb ds ks alo ahi blo bhi bi bj ĵ es2):=
 .re [0] [(1,.dct es2)] rfl rfl rfl rfl (Aq rfl rfl rfl (bO6 (aD8 AV.dct) h) Bc) (Bo rfl rfl (Bo rfl rfl (Bo rfl rfl (Bo rfl rfl (Bo rfl rfl (Bo rfl (AK _ _ (A0 la)) (Bo rfl (AK _ _ (A0 lb)) (Bo rfl (AK _ _ S.b2j) (Bo rfl rfl (Bo rfl rfl (Bo rfl rfl (Bo rfl rfl (Bo rfl rfl (Bo rfl rfl Be)))))))))))))) (NP rfl rfl (QZ S) Bd)
def KK{tl:List (Str×AV)}:Ac (L6 la lb mb op fb ds ks alo ahi blo bhi bi bj ĵ es es2 i u tl) (L6 la lb mb op fb ds ks alo ahi blo bhi bi bj ĵ es es2 i u []):=
 .less (ρ:=(L6 la lb mb op fb ds ks alo ahi blo bhi bi bj ĵ es es2 i u []).ρ++tl) (λx v e=>CA e) λ_ _=>id
end
section
variable{w:aB9}{la lb:List Int}{mb op fb:AV}{ds es es2:List (AB×AV)}{ks:List AB}{alo ahi blo bhi bi bj ĵ i:Nat}{K:ſ}{x:Int}
def İ(la lb:List Int)(mb op fb:AV)(ds:List (AB×AV))(ks:List AB)(alo ahi blo bhi i:Nat)(σ:St):Prop:=∃bi bj ĵ es,DF (GY la) (DN lb) alo blo bhi i 0 bi bj ĵ/\PJ (GY la) (DN lb) alo blo bhi i es/\σ=EE la lb mb op fb ds ks alo ahi blo bhi bi bj ĵ es
def Ŭ(la lb:List Int)(mb op fb:AV)(ds:List (AB×AV))(ks:List AB)(alo ahi blo bhi:Nat)(es:List (AB×AV))(i:Nat)(ps:List Nat)(t:Nat)(σ:St):Prop:=∃bi bj ĵ es2,CP (GY la) (DN lb) alo blo bhi i ps t bi bj ĵ es2/\σ=L6 la lb mb op fb ds ks alo ahi blo bhi bi bj ĵ es es2 i (.dct es) []
def Nt(S:Bw (.lst (ĭ la)) (.lst (ĭ lb)) mb op fb (.dct ds) (.fset ks))(h:Jv (GY la) (DN lb) alo blo bhi i bi bj ĵ es2):Ĭ (B8 w) (C7 w 29) (ī.2.drop 3) (Eh (λσ=>∃τ,Ac σ τ/\İ la lb mb op fb ds ks alo ahi blo bhi (i+1) τ) K) .next (L6 la lb mb op fb ds ks alo ahi blo bhi bi bj ĵ es es2 i (.dct es) []):=
 lN.mpr ⟨_,Yv S h.2.1,bi,bj,ĵ,es2,h.1,h.2,rfl⟩
def Rq{ys:List Int}:(bif CM x then []else Bb ys ys.length x)=Bb (DN ys) (DN ys).length (2*x):=by
 have e:CF (DN ys) (DN ys).length (2*x)=bif CM x then []else CF ys ys.length x:=by
  unfold CF
  rw[Mj]
  cases j:CM x with
  | true=>exact List.filter_eq_nil_iff.mpr λa _ z=>nomatch j.symm.trans (Dz.mp (bP2 z)).2
  | false=>exact List.filter_congr λa _=>decide_eq_decide.mpr ⟨λz=>(Dz.mp z).1,λz=>Dz.mpr ⟨z,j⟩⟩
 unfold Bb cS
 rw[e]
 cases CM x<;>rfl
def PW{t:Nat}{v:AV}(h:(Bb (DN lb) (DN lb).length (2*x))[t]?=some v) :∃j:Nat,(CF (DN lb) (DN lb).length (2*x))[t]?=some j/\v = .int (j:Int):=by
 obtain⟨z,h1,h2⟩:=aL4.mp ((aC5 ..).symm.trans h)
 obtain⟨j,h3,ō⟩:=aL4.mp ((aC5 ..).symm.trans h1)
 exact⟨j,h3,by rw[<-h2,<-ō]⟩
def VF{t:Nat}{v:AV}{σ:St}(S:Bw (.lst (ĭ la)) (.lst (ĭ lb)) mb op fb (.dct ds) (.fset ks))(hl:lb.length<=100000)(hp:PJ (GY la) (DN lb) alo blo bhi i es)(ha:alo<=i)(hk:(GY la)[i]?=some (2*x))(hv:(Bb (DN lb) (DN lb).length (2*x))[t]?=some v)(hI:Ŭ la lb mb op fb ds ks alo ahi blo bhi es i (CF (DN lb) (DN lb).length (2*x)) t σ) :
  qI w v σ (Eh (λσ=>∃τ,Ac σ τ/\Ŭ la lb mb op fb ds ks alo ahi blo bhi es i (CF (DN lb) (DN lb).length (2*x)) (t+1) τ) (Ĭ (B8 w) (C7 w 29) (ī.2.drop 3) (Eh (λσ=>∃τ,Ac σ τ/\İ la lb mb op fb ds ks alo ahi blo bhi (i+1) τ) K))):=by
 obtain⟨bi,bj,ĵ,es2,hI,rfl⟩:=hI
 obtain⟨j,hj,rfl⟩:=PW hv
 have hs:=Iy (DN lb) (DN lb).length (2*x)
 have hjb:=Ii.mp (aB8 hj)
 have htl:t<lb.length:=aB3 (aA5.mp hv).1 (aA3 Ij (aB7 Mj))
 rw[Zt]
 refine Fu (λc=>⟨_,KK,bi,bj,ĵ,es2,hI.cont hs hj (aD4.mp c),rfl⟩) λc1=>Fu (λc=>⟨_,KK,Nt S (hI.brk hs hj (aM2.mp c))⟩) λc2=>?_
 have h1:blo<=j:=aM2.mp (bA7.mp c1)
 have h2:j<bhi:=aD4.mp (bM6.mp c2)
 have hh:D6 (GY la) (DN lb) alo blo i j=true:=CK.mpr ⟨ha,h1,_,hk,hjb⟩
 have hr:=F7.mpr hh
 have hrb:=OI (la:=GY la) (lb:=DN lb) (alo:=alo) (blo:=blo) (i:=i) (j:=j)
 rw[hp.2 j h2 hh]
 show BG (ws (B8 w) GG 27).A rG (.int ((AY (GY la) (DN lb) alo blo i j:Int)-1+1)) _ _
 rw[Int.sub_add_cancel]
 refine e9.mpr ⟨aA3 hI.len (big (aA3 (aE4 htl) hl)),Fu (λc3=>⟨rfl,_,KK,i+1-AY (GY la) (DN lb) alo blo i j,j+1-AY (GY la) (DN lb) alo blo i j,AY (GY la) (DN lb) alo blo i j,_,hI.better hs hj h2 (aD4.mp c3) (Nat.sub_add_cancel hrb.1) (Nat.sub_add_cancel hrb.2),?_⟩) λc3=>⟨_,KK,bi,bj,ĵ,_,hI.keep hs hj h2 hr (aM2.mp (bA7.mp c3)),rfl⟩⟩
 rw[show(i:Int)-(AY (GY la) (DN lb) alo blo i j:Int)+1=((i+1-AY (GY la) (DN lb) alo blo i j:Nat):Int)by(exists 2,0x181ab0f1800f10fba5181a008,hrb.1),show(j:Int)-(AY (GY la) (DN lb) alo blo i j:Int)+1=((j+1-AY (GY la) (DN lb) alo blo i j:Nat):Int)by exists 2,0x181ab0f1800f10fba5181a008,hrb.2]
def ST{σ:St}(S:Bw (.lst (ĭ la)) (.lst (ĭ lb)) mb op fb (.dct ds) (.fset ks))(hB:ŭ lb ds ks)(hla:la.length<=100000)(hl:lb.length<=100000)(ha:alo<=i)(hi:i<la.length)(hI:İ la lb mb op fb ds ks alo ahi blo bhi i σ) :
  rB w (.int (i:Int)) σ (Eh (λσ=>∃τ,Ac σ τ/\İ la lb mb op fb ds ks alo ahi blo bhi (i+1) τ) K):=by
 obtain⟨bi,bj,ĵ,es,hb,hp,rfl⟩:=hI
 obtain⟨x,hx⟩:=OS hi
 rw[lK]
 refine⟨BR (aA3 (aE4 hi) hla),_,Ch hx,?_⟩
 rw[U8,hB.at_ x,Rq]
 refine⟨CB _,Ŭ la lb mb op fb ds ks alo ahi blo bhi es i (CF (DN lb) (DN lb).length (2*x)),⟨_,.refl _,bi,bj,ĵ,[],CP.start (Fc.mpr hx) hb,rfl⟩,λt σ v hv hI=>VF S hl hp ha (Fc.mpr hx) hv hI,λσ hI=>?_⟩
 obtain⟨ci,cj,ck,es2,hI,rfl⟩:=hI
 rw[show(Bb (DN lb) (DN lb).length (2*x)).length=(CF (DN lb) (DN lb).length (2*x)).length from(aB0 ..).trans (aB0 ..)]at hI
 rw[Cn]
 exact Nt S hI.fin
def LX{x y:Int}{σ:St}{R:Bool->St->Prop}(h1:x=y->R true σ)(h2:x≠y->R false σ):JG .Eq (.int x) (.int y) σ λr σ=>CV r σ λb σ=>An b (R true σ) (R false σ):=by
 show An (decide (AB.int x=AB.int y)) (R true σ) (R false σ)
 exact Fu (λe=>h1 (AB.int.inj e)) λn=>h2 λe=>n (bO6 AB.int e)
def Mw{p:Prop} [Decidable p] {A B:Prop} (a:¬ p->A) (b:p->B):An (!decide p) A B:=
 if h:p then(bP0 h).symm▸b h else(bP1 h).symm▸a h
def LK{test:St->(Bool->St->Prop)->Prop}{body els:St->ſ->Prop}{σ:St}{Q:ſ}(I:Nat->St->Prop)(m:Nat)(h0:I m σ)(ht :∀m σ (R:Bool->St->Prop),I m σ->(∀τ,els τ Q->R false τ)->(∀τ,body τ (Eh (λσ=>∃m' τ,m'<m/\Ac σ τ/\I m' τ) Q)->R true τ)->test σ R):Fr test body els σ Q:=
 ⟨I,m,⟨σ,.refl σ,h0⟩,λm σ h=>ht m σ _ h (λ_ q=>q) λ_ q=>q⟩
def qL(hB:ŭ lb ds ks)(hla:la.length<=100000)(hl:lb.length<=100000)(hL:Ur la lb alo ahi blo bhi bi bj ĵ)(h2:ahi<=la.length)(ō:bhi<=lb.length)
  (hK :∀i j k,VY la lb alo ahi blo bhi i j k->wL (B8 w) (C7 w 30) (Ei.drop 11) (EE la lb mb op fb ds ks alo ahi blo bhi (i:Nat) (j:Nat) (k:Nat) es) K):wL (B8 w) (C7 w 30) (Ei.drop 10) (EE la lb mb op fb ds ks alo ahi blo bhi bi bj ĵ es) K:=by
 rw[Mv.2.1]
 refine LK (λm τ=>∃j k,Ur la lb alo ahi blo bhi m j k/\τ=EE la lb mb op fb ds ks alo ahi blo bhi (m:Nat) (j:Nat) (k:Nat) es) bi ⟨bj,ĵ,hL,rfl⟩ λi τ R hI hf ht=>?_
 obtain⟨j,k,h,rfl⟩:=hI
 have out:(alo<i->blo<j->¬ Cy la lb (i-1) (j-1))->R false (EE la lb mb op fb ds ks alo ahi blo bhi (i:Nat) (j:Nat) (k:Nat) es):=λq=>hf _ (by rw[Cn];exact hK i j k (h.fin q))
 rw[eR]
 refine Fu (λc1=>Fu (λc2=>?_) λc2=>out λ_ z=>bO9 (aD4.mpr z) c2) λc1=>out λz _=>bO9 (aD4.mpr z) c1
 have c1:=aD4.mp c1
 have c2:=aD4.mp c2
 cases i with
 | zero=>exact bO9 c1 (aE6 _)
 | succ i=>
 cases j with
 | zero=>exact bO9 c2 (aE6 _)
 | succ j=>
 have ei:((i+1:Nat):Int)-1=(i:Int):=aX1 (i:Int) 1
 have ej:((j+1:Nat):Int)-1=(j:Int):=aX1 (j:Int) 1
 obtain⟨x,hx⟩:=OS (l:=la) (n:=i) (by have:=h.hi.1;exists 4,0x12103182aa081008,h2,this)
 obtain⟨y,hy⟩:=OS (l:=lb) (n:=j) (by have:=h.hi.2;exists 4,0x12103182aa081008,ō,this)
 refine EK ej hy hl (Fu (λm=>EK ei hx hla (EK ej hy hl (LX (λe=>?_) λn=>out λ_ _ ⟨z,Š,z2,_⟩=>n (aA1 (hx.symm.trans (Š.trans (z2.symm.trans hy))))))) λm=>out λ_ _ ⟨z,Š,z2,ĳ⟩=>?_)
 ·refine ht _ ?_
  rw[jB,ei,ej]
  exact⟨rfl,i,_,aC2 i,.refl _,j,k+1,h.step (aJ3 c1) (aJ3 c2) ⟨x,hx,e▸hy,e▸(hB.junk y (aB8 hy)).mp m⟩,rfl⟩
 ·have e:z=y:=aA1 (z2.symm.trans hy)
  exact m ((hB.junk y (aB8 hy)).mpr (e▸ĳ))
def sP(hB:ŭ lb ds ks)(hla:la.length<=100000)(hl:lb.length<=100000)(hL:VY la lb alo ahi blo bhi bi bj ĵ)(h2:ahi<=la.length)(ō:bhi<=lb.length)
  (hK :∀k,Od la lb alo ahi blo bhi bi bj k->wL (B8 w) (C7 w 30) (Ei.drop 12) (EE la lb mb op fb ds ks alo ahi blo bhi bi bj (k:Nat) es) K):wL (B8 w) (C7 w 30) (Ei.drop 11) (EE la lb mb op fb ds ks alo ahi blo bhi bi bj ĵ es) K:=by
 rw[Mv.2.2]
 refine LK (λm τ=>∃k,k+m=ahi/\VY la lb alo ahi blo bhi bi bj k/\τ=EE la lb mb op fb ds ks alo ahi blo bhi bi bj (k:Nat) es) (ahi-ĵ) ⟨ĵ,by have:=hL.hi.1;(exists 3,0x212b1a2210a08,this),hL,rfl⟩ λm τ R hI hf ht=>?_
 obtain⟨k,hm,h,rfl⟩:=hI
 have out:(bi+k<ahi->bj+k<bhi->¬ Cy la lb (bi+k) (bj+k))->R false (EE la lb mb op fb ds ks alo ahi blo bhi bi bj (k:Nat) es):=λq=>hf _ (by rw[Cn];exact hK k (h.fin q))
 rw[kI]
 refine Fu (λc1=>Fu (λc2=>?_) λc2=>out λ_ z=>bO9 (aD4.mpr z) c2) λc1=>out λz _=>bO9 (aD4.mpr z) c1
 have c1:=aD4.mp c1
 have c2:=aD4.mp c2
 obtain⟨x,hx⟩:=OS (l:=la) (n:=bi+k) (aB3 c1 h2)
 obtain⟨y,hy⟩:=OS (l:=lb) (n:=bj+k) (aB3 c2 ō)
 refine EK rfl hy hl (Fu (λmk=>EK rfl hx hla (EK rfl hy hl (LX (λe=>?_) λn=>out λ_ _ ⟨z,Š,z2,_⟩=>n (aA1 (hx.symm.trans (Š.trans (z2.symm.trans hy))))))) λm=>out λ_ _ ⟨z,Š,z2,ĳ⟩=>?_)
 ·refine ht _ ?_
  rw[lQ]
  exact⟨m-1,_,by rename_i u0 _;(exists 4,0x1181b120f00f30fa48210a28,hm,u0),.refl _,k+1,by rename_i u0 _;(exists 4,0x2181b180aa220f00f30fa48210a28,hm,u0),h.step c1 c2 ⟨x,hx,e▸hy,e▸(hB.junk y (aB8 hy)).mp mk⟩,rfl⟩
 ·have e:z=y:=aA1 (z2.symm.trans hy)
  exact m ((hB.junk y (aB8 hy)).mpr (e▸ĳ))
def Xe{Q:AV->List Ob->Prop}(S:Bw (.lst (ĭ la)) (.lst (ĭ lb)) mb op fb (.dct ds) (.fset ks))(hB:ŭ lb ds ks)(hla:la.length<=100000)(hl:lb.length<=100000)(hL:Ş (GY la) (DN lb) alo ahi blo bhi bi bj ĵ)(h2:ahi<=la.length)(ō:bhi<=lb.length)
  (hq :∀i j k:Nat,Od la lb alo ahi blo bhi i j k->Q (.mat [.int (i:Int),.int (j:Int),.int (k:Int)]) [(aD,DB (.lst (ĭ la)) (.lst (ĭ lb)) mb op fb (.dct ds) (.fset ks))]):wL (B8 w) (C7 w 30) (Ei.drop 8) (EE la lb mb op fb ds ks alo ahi blo bhi bi bj ĵ es) (AG 1 Q):=by
 obtain⟨s1,s2,s3,s4,s5⟩:=hL.str
 have sa:=aA3 s3 h2
 have sb:=aA3 s4 ō
 have bk1 :∀{a:Nat} {alo:Nat} {l:List Int},(alo:Int)<(a:Int)->a+ĵ<=l.length->∃y,(a:Int)-1=((a-1:Nat):Int)/\l[a-1]?=some y:=λ{a alo l} c e=>by
  have c:=aD4.mp c
  obtain⟨y,hy⟩:=OS (l:=l) (n:=a-1) (by rename_i u1;exists 4,0x3181b1321a0810f00f48,u1,e)
  exact⟨y,by rename_i u1;(exists 2,0x181b0f1810fb510f00f48,u1),hy⟩
 have jk :∀{y:Int} {n:Nat},lb[n]?=some y->AB.int y∉ks->CM y=false:=λ{y n} h m=>aZ3.mpr λz=>m ((hB.junk y (aB8 h)).mpr z)
 rw[Mv.1.1]
 refine H5 (λR hR=>tA.mpr (Fu (λc1=>Fu (λc2=>?_) λ_=>hR) λ_=>hR)) ?_
 ·obtain⟨x,e1,hx⟩:=bk1 c1 sa
  obtain⟨y,e2,hy⟩:=bk1 c2 sb
  exact EK e2 hy hl (Mw (λm=>EK e1 hx hla (EK e2 hy hl (Kz (λe=>(U0 hL (aD4.mp c1) (aD4.mp c2) (Fc.mpr hx) (e▸Dz.mpr ⟨hy,jk hy m⟩)).elim) hR))) λ_=>hR)
 rw[Cn]
 rw[Mv.1.2]
 refine H5 (λR hR=>pK.mpr (Fu (λc1=>Fu (λc2=>?_) λ_=>hR) λ_=>hR)) ?_
 ·obtain⟨x,hx⟩:=OS (aB3 (aD4.mp c1) h2)
  obtain⟨y,hy⟩:=OS (aB3 (aD4.mp c2) ō)
  exact EK rfl hy hl (Mw (λm=>EK rfl hx hla (EK rfl hy hl (Kz (λe=>(lR hL (aD4.mp c1) (aD4.mp c2) (Fc.mpr hx) (e▸Dz.mpr ⟨hy,jk hy m⟩)).elim) hR))) λ_=>hR)
 rw[Cn]
 refine qL hB hla hl (.start hL) h2 ō λi j k h=>sP hB hla hl h h2 ō λk h=>?_
 rw[iR]
 exact⟨⟨rfl,rfl,rfl⟩,D7 (fl:=.ret _) rfl (.refl _) rfl rfl S.shut (hq i j k h)⟩
end
def Ua(P:aD3)(a b c d e:Value):(kb (CJ P 196) [a,b,c,d,e]).1 (some ((F3 P 189).getD #[]))=pure ([(("self":Str),a),(("alo":Str),b),(("ahi":Str),c),(("blo":Str),d),(("bhi":Str),e)]):=by rfl'
def sR{w:aB9}{d:Nat}:LP (lF w) (H0 w.params) (B8 w) (d+2) ļ L4 aM KQ aI:=Sz (λ_ _ e=>nomatch e) (λ_=>ZH) (λe=>nomatch e) (λ_ e=>nomatch e)
def WR{w:aB9}{d:Nat}:BP (lF w) (H0 w.params) (d+4) (.ref 196) B9:=
 nO sR (Ql _).2.2 (Ql _).1 (Ql _).2.1 (ps:=["self","alo","ahi","blo","bhi"]) (by decide) (by rfl') (bQ (T:=189) (by rfl') (by rfl') (Ua _)) λas os Q hh=>by
  obtain⟨la,lb,mb,op,fb,ds,ks,alo,ahi,blo,bhi,ea,eo,⟨S,hB⟩,⟨hla,hl⟩,⟨h1,h2⟩,⟨h3,ō⟩,hq⟩:=hh
  subst ea;subst eo
  have en:(Ah (alo:Int) ((ahi:Int)-(alo:Int)).toNat).length=ahi-alo:=(AQ _ _).trans (by exists 3,0x21b020820f10fbe00f58,(aD6 _))
  refine⟨⟨rfl,CR S.shut⟩,tE.mpr ⟨rfl,rfl,⟨by(exists 1,0xf0f424091f3),by(exists 3,0xf4240910f3020821080186a09008,hla,h1,h2),by(exists 1,0xf0f424091f3),by exists 2,0xf4240910f301080186a09008,hla,h2⟩,λt σ=>İ la lb mb op fb ds ks alo ahi blo bhi (alo+t) σ,⟨_,XQ S,alo,blo,0,[],DF.start,PJ.nil,rfl⟩,λt σ v hv hI=>?_,λσ hI=>?_⟩⟩
  ·have ht:=(aA5.mp hv).1
   rw[en]at ht
   have hi:alo+t<la.length:=by exists 4,0x123a130b2181008,h2,ht
   have e:some v=some (.int ((alo+t:Nat):Int)):=hv.symm.trans (As (by exists 4,0x3010820f10fbe30f5821b018,ht,(aD6 _)))
   cases aA1 e
   exact ST S hB hla hl (aE1 _ _) hi hI
  ·rw[en,Nat.add_sub_cancel' h1]at hI
   obtain⟨bi,bj,ĵ,es,hb,hp,rfl⟩:=hI
   rw[Cn]
   exact Xe S hB hla hl (hb.done h1 h3) h2 ō hq
def Bl(s:aE7):Expr:=(Qv s).2.1
def C0:List aE7:=(Bz Nn "get_matching_blocks").1
def G4:Scope:=(Bz Nn "get_matching_blocks").2
def QF(P:aD3):(CJ P 203).body = .stmts C0/\(CJ P 203).scope=G4/\Av P 203=true:=⟨by rfl',by rfl',by rfl'⟩
noncomputable def cY:Pos->Bool:=λp=>aD0 p.line 368
abbrev BB(w:aB9)(tr:Ŕ):Pm:=Qk w.params (Y3 196 tr) none false true Qn cY
abbrev B5(w:aB9)(tr:Ŕ)(f:Nat):ĥ:=EI (BB w tr) G4 f
abbrev MO(w:aB9)(tr:Ŕ)(f:Nat):WA:=(ws (BB w tr) G4 f).A
def Nl:Expr×List aE7:=iV (C0.getD 5 (.Pass AM))
def w8:List Expr:=Ak (Nl.2.getD 0 (.Pass AM))
def v6:List Expr:=Ak (Nl.2.getD 1 (.Pass AM))
def ĵ:List aE7:=B4 (Nl.2.getD 2 (.Pass AM))
def fN:Expr×List aE7:=Cp (C0.getD 9 (.Pass AM))
def w5:aE7:=C0.getD 7 (.Pass AM)
def lY:Expr:=Bl (C0.getD 12 (.Pass AM))
def v7:List Expr:=Ak (C0.getD 12 (.Pass AM))
def uD(w:aB9)(tr:Ŕ):AV->St->ſ->Prop:=λv σ K=>MO w tr 29 fN.1 v σ λσ=>wL (BB w tr) (B5 w tr 29) fN.2 σ K
abbrev gA(la lb:List Int)(mb op fb:AV)(ds:List (AB×AV))(ks:List AB):AO:=.inst aD (DB (.lst (ĭ la)) (.lst (ĭ lb)) mb op fb (.dct ds) (.fset ks))
abbrev FX(la lb:List Int)(mb op fb:AV)(ds:List (AB×AV))(ks:List AB)(n m:Int)(qs ms:List AV)(tl:List (Str×AV)):St:=⟨("self",.ref 0)::("lb",.int m)::("la",.int n)::("queue",.ref 1)::("matching_blocks",.ref 2)::tl,[(0,gA la lb mb op fb ds ks),(1,.list qs),(2,.list ms)],3,1⟩
abbrev wY(alo ahi blo bhi:Int):List (Str×AV):=[("alo",.int alo),("ahi",.int ahi),("blo",.int blo),("bhi",.int bhi)]
abbrev Mn(alo ahi blo bhi i j k:Int):List (Str×AV):=[("alo",.int alo),("ahi",.int ahi),("blo",.int blo),("bhi",.int bhi),("i",.int i),("j",.int j),("k",.int k),("x",.mat [.int i,.int j,.int k])]
abbrev wQ(la lb:List Int)(mb op fb:AV)(ds:List (AB×AV))(ks:List AB)(n m:Int)(ms:List AV):St:=⟨[("self",.ref 0),("lb",.int m),("la",.int n),("matching_blocks",.lst ms)],[(0,gA la lb mb op fb ds ks)],1,1⟩
abbrev GA(la lb:List Int)(mb op fb:AV)(ds:List (AB×AV))(ks:List AB)(n m:Int)(ms:List AV)(i j k:Int)(na:List AV)(tl:List (Str×AV)):St:=⟨("self",.ref 0)::("lb",.int m)::("la",.int n)::("matching_blocks",.lst ms)::("i1",.int i)::("j1",.int j)::("k1",.int k)::("non_adjacent",.ref 1)::tl,[(0,gA la lb mb op fb ds ks),(1,.list na)],2,1⟩
abbrev Cs(i j k:Int):AV:=.tup [.int i,.int j,.int k]
abbrev Km(i j k:Int):AV:=.mat [.int i,.int j,.int k]
abbrev RW(a b c d:Int):AV:=.tup [.int a,.int b,.int c,.int d]
section
variable{w:aB9}{tr:Ŕ}{la lb:List Int}{mb op fb:AV}{ds:List (AB×AV)}{ks:List AB}{alo ahi blo bhi i j k n m i1 j1 ľ:Int}{qs ms na out:List AV}{K:ſ}{Q:AV->List Ob->Prop}{R:Bool->St->Prop}{σ:St}
def nM:wB (BB w tr) G4 C0 ((["self"]:List Str).zip [.ref 0]) [(aD,DB (.lst (ĭ la)) (.lst (ĭ lb)) .none op fb (.dct ds) (.fset ks))] Q =
  (AE (ĭ la).length/\AE (ĭ lb).length/\2=2/\Fr ((ws (BB w tr) G4 29).B Nl.1) (wL (BB w tr) (B5 w tr 29) Nl.2) (wL (BB w tr) (B5 w tr 29) []) (FX la lb .none op fb ds ks (ĭ la).length (ĭ lb).length [RW 0 (ĭ la).length 0 (ĭ lb).length] [] []) (Ĭ (BB w tr) (B5 w tr 30) (C0.drop 6) (AG 1 Q))):=by rfl'
def aF:wB (BB w tr) G4 C0 (((["self"]:List Str).zip [.ref 0])) [(aD,DB (.lst (ĭ la)) (.lst (ĭ lb)) (.lst out) op fb (.dct ds) (.fset ks))] Q=AG 1 Q (.ret (.lst out)) (A7 [("self",.ref 0)] [(aD,DB (.lst (ĭ la)) (.lst (ĭ lb)) (.lst out) op fb (.dct ds) (.fset ks))]):=by rfl'
def iK:(ws (BB w tr) G4 29).B Nl.1 (FX la lb mb op fb ds ks n m qs ms []) R=(AE qs.length/\R (!qs.isEmpty) (FX la lb mb op fb ds ks n m qs ms [])):=by rfl'
def eH:wL (BB w tr) (B5 w tr 29) Nl.2 (FX la lb mb op fb ds ks n m qs ms []) K=(AE qs.length/\∃v,qs.getLast?=some v/\BG (MO w tr 28) w8 v (FX la lb mb op fb ds ks n m qs.dropLast ms []) λσ=>wL (BB w tr) (B5 w tr 29) (Nl.2.drop 1) σ K):=by rfl'
def eE:(BG (MO w tr 28) w8 (RW alo ahi blo bhi) (FX la lb mb op fb ds ks n m qs ms []) λσ=>wL (BB w tr) (B5 w tr 29) (Nl.2.drop 1) σ K) =
  (4=4/\BE tr [.ref 0,.int alo,.int ahi,.int blo,.int bhi] (FX la lb mb op fb ds ks n m qs ms (wY alo ahi blo bhi)) λr σ=>BG (MO w tr 28) v6 r σ λσ=>wL (BB w tr) (B5 w tr 29) (Nl.2.drop 2) σ K):=by rfl'
def f9:(BG (MO w tr 28) v6 (Km i j k) (FX la lb mb op fb ds ks n m qs ms (wY alo ahi blo bhi)) λσ=>wL (BB w tr) (B5 w tr 29) (Nl.2.drop 2) σ K) =
  (3=3/\An (k != 0) (AE ms.length/\An (decide (alo<i)) (An (decide (blo<j)) (AE qs.length/\wL (BB w tr) (B5 w tr 28) (ĵ.drop 2) (FX la lb mb op fb ds ks n m (qs++[RW alo i blo j]) (ms++[Km i j k]) (Mn alo ahi blo bhi i j k)) (Ĭ (BB w tr) (B5 w tr 29) [] K))
   (wL (BB w tr) (B5 w tr 28) (ĵ.drop 2) (FX la lb mb op fb ds ks n m qs (ms++[Km i j k]) (Mn alo ahi blo bhi i j k)) (Ĭ (BB w tr) (B5 w tr 29) [] K))) (wL (BB w tr) (B5 w tr 28) (ĵ.drop 2) (FX la lb mb op fb ds ks n m qs (ms++[Km i j k]) (Mn alo ahi blo bhi i j k)) (Ĭ (BB w tr) (B5 w tr 29) [] K)))
   (K .next (FX la lb mb op fb ds ks n m qs ms (Mn alo ahi blo bhi i j k)))):=by rfl'
def fE:wL (BB w tr) (B5 w tr 28) (ĵ.drop 2) (FX la lb mb op fb ds ks n m qs ms (Mn alo ahi blo bhi i j k)) K=An (decide (i+k<ahi)) (An (decide (j+k<bhi)) (AE qs.length/\K .next (FX la lb mb op fb ds ks n m (qs++[RW (i+k) ahi (j+k) bhi]) ms (Mn alo ahi blo bhi i j k)))
  (K .next (FX la lb mb op fb ds ks n m qs ms (Mn alo ahi blo bhi i j k)))) (K .next (FX la lb mb op fb ds ks n m qs ms (Mn alo ahi blo bhi i j k))):=by rfl'
def iA:wL (BB w tr) (B5 w tr 30) (C0.drop 6) (FX la lb mb op fb ds ks n m qs ms []) K=H2 [.ref 2] (FX la lb mb op fb ds ks n m qs ms []) λ_ σ=>wL (BB w tr) (B5 w tr 30) (C0.drop 7) σ K:=by rfl'
def eY:wL (BB w tr) (B5 w tr 30) (C0.drop 7) σ K =∃τ,Ac σ τ/\B5 w tr 30 w5 τ (Ĭ (BB w tr) (B5 w tr 30) (C0.drop 8) K):=by rfl'
def gZ:B5 w tr 30 w5 (wQ la lb mb op fb ds ks n m ms) (Ĭ (BB w tr) (B5 w tr 30) (C0.drop 8) K)=(AD nn ms=some ms/\Cc ms (uD w tr) (wL (BB w tr) (B5 w tr 29) []) (GA la lb mb op fb ds ks n m ms 0 0 0 [] []) (Ĭ (BB w tr) (B5 w tr 30) (C0.drop 10) K)):=by rfl'
def eL:uD w tr (Km i j k) (GA la lb mb op fb ds ks n m ms i1 j1 ľ na []) K=(3=3/\An (decide (AB.int (i1+ľ)=AB.int i)) (An (decide (AB.int (j1+ľ)=AB.int j)) (K .next (GA la lb mb op fb ds ks n m ms i1 j1 (ľ+k) na [("i2",.int i),("j2",.int j),("k2",.int k)]))
  (An (ľ != 0) (AE na.length/\3=3/\K .next (GA la lb mb op fb ds ks n m ms i j k (na++[Cs i1 j1 ľ]) [("i2",.int i),("j2",.int j),("k2",.int k)])) (3=3/\K .next (GA la lb mb op fb ds ks n m ms i j k na [("i2",.int i),("j2",.int j),("k2",.int k)]))))
  (An (ľ != 0) (AE na.length/\3=3/\K .next (GA la lb mb op fb ds ks n m ms i j k (na++[Cs i1 j1 ľ]) [("i2",.int i),("j2",.int j),("k2",.int k)])) (3=3/\K .next (GA la lb mb op fb ds ks n m ms i j k na [("i2",.int i),("j2",.int j),("k2",.int k)])))):=by rfl'
def aL:wL (BB w tr) (B5 w tr 30) (C0.drop 10) (GA la lb mb op fb ds ks n m ms i1 j1 ľ na []) K=An (ľ != 0) (AE na.length/\wL (BB w tr) (B5 w tr 30) (C0.drop 11) (GA la lb mb op fb ds ks n m ms i1 j1 ľ (na++[Cs i1 j1 ľ]) []) K) (wL (BB w tr) (B5 w tr 30) (C0.drop 11) (GA la lb mb op fb ds ks n m ms i1 j1 ľ na []) K):=by rfl'
def kW:wL (BB w tr) (B5 w tr 30) (C0.drop 11) (GA la lb mb op fb ds ks n m ms i1 j1 ľ na []) K=(AE na.length/\dD (BB w tr) G4 (AU lY).1 (AU lY).2.1 (GA la lb mb op fb ds ks n m ms i1 j1 ľ (na++[Cs n m 0]) []) λv σ=>BG (MO w tr 29) v7 v σ λσ=>wL (BB w tr) (B5 w tr 30) (C0.drop 13) σ K):=by rfl'
def jK:(BG (MO w tr 29) v7 (.lst out) (GA la lb mb op fb ds ks n m ms i1 j1 ľ na []) λσ=>wL (BB w tr) (B5 w tr 30) (C0.drop 13) σ K)=K (.ret (.lst out)) (GA la lb (.lst out) op fb ds ks n m ms i1 j1 ľ na []):=by rfl'
end
end Mine
end
namespace Mine
abbrev BN:=Nat×Nat×Nat
inductive GU(la lb:List Int):Nat->Nat->Nat->Nat->List BN->Prop
 | zero {alo ahi blo bhi i j:Nat} (h:Od la lb alo ahi blo bhi i j 0):GU la lb alo ahi blo bhi []
 | step {alo ahi blo bhi i j k:Nat} {L R:List BN} (h:Od la lb alo ahi blo bhi i j k) (hk:0<k) (l:GU la lb alo i blo j L) (r:GU la lb (i+k) ahi (j+k) bhi R):GU la lb alo ahi blo bhi (L++(i,j,k)::R)
def S4{la lb:List Int}{alo ahi blo bhi:Nat}(ha:alo<=ahi)(hb:blo<=bhi)(h:¬ (alo<ahi/\blo<bhi)):Od la lb alo ahi blo bhi alo blo 0:=
 ⟨⟨0,0,0,⟨⟨aA9 _,aA9 _,ha,hb,λd hd=>bO9 hd (aE6 d)⟩,λi' j' k' ⟨h1,h2,h3,ō,_⟩=>by(exists 7,0x840621501698643a08541a0832081008,h1,h2,h3,ō,h),λh=>bO9 h (aM6 0),λ_=>⟨rfl,rfl⟩⟩,rfl,λd hd=>bO9 hd (aE6 d),λd hd=>bO9 hd (aE6 d)⟩,
  ⟨aA9 _,aA9 _⟩,⟨ha,hb⟩,λh=>bO9 h (aM6 _),λh1 h2=>bO9 ⟨h1,h2⟩ h⟩
def P2{la lb:List Int}{alo ahi blo bhi:Nat}(ha:alo<=ahi)(hb:blo<=bhi)(h:¬ (alo<ahi/\blo<bhi)):GU la lb alo ahi blo bhi []:=.zero (S4 ha hb h)
abbrev Jz:=Nat×Nat×Nat×Nat
def ű(la lb:List Int):List Jz->List BN->Prop
 | [],B=>B=[]
 | (alo,ahi,blo,bhi)::q,B=>∃L B',GU la lb alo ahi blo bhi L/\ű la lb q B'/\B=L++B'
def Hg(la lb:List Int)(n m:Nat)(st:List Jz)(ms:List BN):Prop:=∀B,ű la lb st B->∃bs,GU la lb 0 n 0 m bs/\bs.Perm (ms++B)
def Hg.start{la lb:List Int}{n m:Nat}:Hg la lb n m [(0,n,0,m)] []:=by
 rintro B ⟨L,B',h1,h2,rfl⟩
 have h2:B'=[]:=h2
 subst h2
 exact⟨L,h1,by simp⟩
theorem Hg.zero{la lb:List Int}{n m alo ahi blo bhi i j:Nat}{st:List Jz}{ms:List BN}(h:Hg la lb n m ((alo,ahi,blo,bhi)::st) ms)(hL:Od la lb alo ahi blo bhi i j 0):Hg la lb n m st ms:=λB hB=>h B ⟨[],B,.zero hL,hB,rfl⟩
def Hg.fin{la lb:List Int}{n m:Nat}{ms:List BN}(h:Hg la lb n m [] ms) :∃bs,GU la lb 0 n 0 m bs/\bs.Perm ms:=by
 obtain⟨bs,h1,h2⟩:=h [] rfl
 exact⟨bs,h1,by simpa using h2⟩
noncomputable def psh(c:Bool)(w:Jz)(st:List Jz):List Jz:=if c then w::st else st
theorem ű.psh{la lb:List Int}{c:Bool}{alo ahi blo bhi:Nat}{st:List Jz}{B:List BN}(ha:alo<=ahi)(hb:blo<=bhi)(hc:c=decide (alo<ahi/\blo<bhi))(h:ű la lb (psh c (alo,ahi,blo,bhi) st) B) :∃L B',GU la lb alo ahi blo bhi L/\ű la lb st B'/\B=L++B':=by
 cases c with
 | true=>exact h
 | false=>exact⟨[],B,P2 ha hb (of_decide_eq_false hc.symm),h,rfl⟩
theorem Hg.step{la lb:List Int}{n m alo ahi blo bhi i j k:Nat}{st:List Jz}{ms:List BN}{c d:Bool}(h:Hg la lb n m ((alo,ahi,blo,bhi)::st) ms)(hL:Od la lb alo ahi blo bhi i j k)(hk:0<k)(hc:c=decide (alo<i/\blo<j))(hd:d=decide (i+k<ahi/\j+k<bhi)) :
  Hg la lb n m (psh d (i+k,ahi,j+k,bhi) (psh c (alo,i,blo,j) st)) (ms++[(i,j,k)]):=by
 intro B hB
 obtain⟨s1,s2,s3,s4,s5⟩:=hL.str
 obtain⟨R,B1,r1,r2,rfl⟩:=ű.psh s3 s4 hd hB
 obtain⟨L,B2,l1,l2,rfl⟩:=ű.psh s1 s2 hc r2
 obtain⟨bs,b1,b2⟩:=h ((L++(i,j,k)::R)++B2) ⟨_,_,.step hL hk l1 r1,l2,rfl⟩
 refine⟨bs,b1,b2.trans ?_⟩
 rw[aL8 ms]
 refine aZ9 ms ?_
 rw[aL8]
 refine(List.perm_append_comm_assoc L _ B2).trans ?_
 simp only[List.cons_append,List.nil_append]
 exact bI7.refl _
noncomputable def wt:List Jz->Nat
 | []=>0
 | (alo,ahi,_,_)::q=>2*(ahi-alo)+1+wt q
def Pk(c:Bool)(alo ahi blo bhi:Nat)(st:List Jz):wt (psh c (alo,ahi,blo,bhi) st)<=2*(ahi-alo)+1+wt st:=by
 cases c
 ·show wt st<=_;exact id (ql [_,_,_] 0x1821b02caa00 (by rfl'))
 ·exact aA9 _
def U7{la lb:List Int}{alo ahi blo bhi i j k:Nat}{st:List Jz}{c d:Bool}(hL:Od la lb alo ahi blo bhi i j k)(hk:0<k):wt (psh d (i+k,ahi,j+k,bhi) (psh c (alo,i,blo,j) st))<wt ((alo,ahi,blo,bhi)::st):=by
 obtain⟨s1,s2,s3,s4,s5⟩:=hL.str
 have h1:=Pk d (i+k) ahi (j+k) bhi (psh c (alo,i,blo,j) st)
 have h2:=Pk c alo i blo j st
 show _<2*(ahi-alo)+1+wt st
 exact id (ql [_,_,_,_,_,_,_] 0x61813b02caa4161812b02caa50851802a3b02caa408302a08210800818 (by rfl') hk s1 s3 h1 h2)
def lO(n m:Nat)(st:List Jz):Prop:=∀x∈st,x.1<=x.2.1/\x.2.1<=n/\x.2.2.1<=x.2.2.2/\x.2.2.2<=m
theorem lO.psh{n m:Nat}{st:List Jz}{c:Bool}{x:Jz}(h:lO n m st)(hx:x.1<=x.2.1/\x.2.1<=n/\x.2.2.1<=x.2.2.2/\x.2.2.2<=m):lO n m (psh c x st):=by
 cases c
 ·exact h
 ·intro y hy
  rcases aD7.mp hy with rfl | hy
  ·exact hx
  ·exact h y hy
theorem RM :∀st:List Jz,st.length<=wt st
 | []=>aA9 _
 | (a,b,c,d)::r=>by
  have:=RM r
  show r.length+1<=2*(b-a)+1+wt r
  exact id (ql [_,_,_,_] 0x11832b02caa180a01008 (by rfl') this)
def GU.within{la lb:List Int}{alo ahi blo bhi:Nat}{bs:List BN}(h:GU la lb alo ahi blo bhi bs) :∀b∈bs,alo<=b.1/\b.1+b.2.2<=ahi/\blo<=b.2.1/\b.2.1+b.2.2<=bhi/\0<b.2.2:=by
 induction h with
 | zero h=>intro b hb;cases hb
 | step h hk l r ihl ihr=>
  obtain⟨s1,s2,s3,s4,s5⟩:=h.str
  intro b hb
  rcases aC0.mp hb with hb | hb
  ·have:=ihl b hb;exists 10,0x7081473fa063f2f06276a06650670818373fa083f2f08076a086508413a08210a08,s3,s4,this.1,this.2.1,this.2.2.1,this.2.2.2.1,this.2.2.2.2
  ·rcases aD7.mp hb with rfl | hb
   ·exact⟨s1,s3,s2,s4,hk⟩
   ·have:=ihr b hb;exists 10,0x60813f62fa062f206765a065006608183f62fa082f43a08765a08541a0832081008,s1,s2,this.1,this.2.1,this.2.2.1,this.2.2.2.1,this.2.2.2.2
def GU.sorted{la lb:List Int}{alo ahi blo bhi:Nat}{bs:List BN}(h:GU la lb alo ahi blo bhi bs):bs.Pairwise λa b=>a.1+a.2.2<=b.1/\a.2.1+a.2.2<=b.2.1:=by
 induction h with
 | zero h=>exact .nil
 | step h hk l r ihl ihr=>
  obtain⟨s1,s2,s3,s4,s5⟩:=h.str
  rw[List.pairwise_append]
  refine⟨ihl,aR7.mpr ⟨λb hb=>?_,ihr⟩,λa ha b hb=>?_⟩
  ·have:=r.within b hb
   exact⟨this.1,this.2.2.1⟩
  ·have h1:=l.within a ha
   rcases aD7.mp hb with rfl | hb
   ·exact⟨h1.2.1,h1.2.2.2.1⟩
   ·have h2:=r.within b hb;exists 8,0x713a0610a06754a08652a08413a08210a08,h1.2.1,h1.2.2.2.1,h2.1,h2.2.2.1
noncomputable def Et:BN->List BN->List BN
 | (i,j,k),[]=>if k=0 then []else [(i,j,k)]
 | (i,j,k),(i2,j2,k2)::r=>if i+k=i2/\j+k=j2 then Et (i,j,k+k2) r else if k=0 then Et (i2,j2,k2) r else(i,j,k)::Et (i2,j2,k2) r
end Mine
section
open PySem PySem.W PyProof.Rows
namespace Mine
def Zc{k:Nat}{A B:Prop}(a:0<k->A)(b:k=0->B):An ((k:Int) != 0) A B:=by
 by_cases h:k=0
 ·subst h;exact b rfl
 ·rw[show((k:Int) != 0)=true from bne_iff_ne.mpr λz=>h (aS9 z)];exact a (aI6 h)
def YZ{p q:Prop} [Decidable p] [Decidable q] {A B:Prop} (a:p/\q->A) (b:¬ (p/\q)->B):An (decide p) (An (decide q) A B) B:=Fu (λh=>Fu (λh'=>a ⟨h,h'⟩) λh'=>b λz=>h' z.2) λh=>b λz=>h z.1
noncomputable abbrev Ψ(x:Nat):Int:=x
def Ib(b:BN):AV:=Km (Ψ b.1) (Ψ b.2.1) (Ψ b.2.2)
def DU(b:BN):AV:=Cs (Ψ b.1) (Ψ b.2.1) (Ψ b.2.2)
def NG(x:Jz):AV:=RW (Ψ x.1) (Ψ x.2.1) (Ψ x.2.2.1) (Ψ x.2.2.2)
def b9(b:BN):List AV:=[.int (Ψ b.1),.int (Ψ b.2.1),.int (Ψ b.2.2)]
def Eb{α:Type}{f:α->AV}(h :∀b,(f b).sub nn=some (f b))(l:List α):AD nn (l.map f)=some (l.map f):=aB5 (motive:=λl=>AD nn (l.map f)=some (l.map f)) rfl (λa r ih=>AH (h a) ih) l
def Zb{α:Type}{g:AV->Option Int}{f:α->AV}{x:α->Int}(h :∀b,g (f b)=some (x b))(l:List α):I7 g (l.map f)=some (l.map x):=aB5 (motive:=λl=>I7 g (l.map f)=some (l.map x)) rfl (λa r ih=>by
 show(g (f a)).bind (λy=>(I7 g (r.map f)).map (y :: ·))=_
 rw[h,ih];rfl) l
def Os{α:Type}{x:α->Int}{as bs:List α}(h:as.Perm bs)(h1:(as.map x).Pairwise (· < ·))(h2:(bs.map x).Pairwise (· < ·)):as=bs:=
 bI7.eq_of_pairwise (le:=λa b=>x a<x b) (λa b _ _ p q=>bO9 (bC9 p q) (Int.lt_irrefl _)) (aT4.mp h1) (aT4.mp h2) h
def Nc{α β:Type}{d:α}{e:β}(f:α->β)(ms:List α){p:List Nat}(hp:p.Perm (aC8 ms.length)):(p.map λi=>(ms.map f).getD i e)=(p.map λi=>ms.getD i d).map f:=by
 rw[aO2]
 refine List.map_congr_left λi hi=>?_
 have hi:=aR0.mp (hp.mem_iff.mp hi)
 show(ms.map f).getD i e=f (ms.getD i d)
 rw[aB2,aB2,aC5,aA6 hi];rfl
def Yr{α:Type}{g:AV->Option Int}{f:α->AV}{x:α->Int}(h :∀b,g (f b)=some (x b)){ms bs:List α}(hp:bs.Perm ms)(hs:(bs.map x).Pairwise (· < ·))(hl:bs.length<64)(d:α){K:List AV->Prop}(q:K (bs.map f)):Yz g (ms.map f) K:=by
 have hl2:(ms.map x).length=ms.length:=aB0 ..
 refine⟨ms.map x,Zb h ms,⟨hl2▸hp.length_eq▸hl,(hp.map x).nodup_iff.mp (hs.imp λz=>Int.ne_of_lt z)⟩,λp h1 h2=>?_⟩
 rw[hl2]at h1
 rw[Nc (d:=d) x ms h1]at h2
 have hpp:(p.map λi=>ms.getD i d).Perm ms:=by
  have z:=h1.map λi=>ms.getD i d
  rw[Hk]at z
  exact z
 rw[Nc (d:=d) f ms h1,Os (hpp.trans hp.symm) h2 hs]
 exact q
def PI{la lb:List Int}{a b c d:Nat}{bs:List BN}(h:GU la lb a b c d bs):(bs.map λb=>Ψ b.1).Pairwise (· < ·):=
 aT4.mpr (aV6.imp_of_mem (λ{a b} ha _ z=>aD4.mpr (aB3 (aM5 (h.within a ha).2.2.2.2) z.1)) h.sorted)
def Wt{w:aB9}{tr:Ŕ}{la lb:List Int}{mb op fb:AV}{ds:List (AB×AV)}{ks:List AB}{n m i j k:Int}{ms na:List AV}{Q:AV->St->Prop}{vss:List (List AV)}(e:na=vss.map .tup)(ht:HO vss)(hl:vss.length<=1000000)(q:Q (.lst (Em vss)) (GA la lb mb op fb ds ks n m ms i j k na [])) :
  dD (BB w tr) G4 (AU lY).1 (AU lY).2.1 (GA la lb mb op fb ds ks n m ms i j k na []) Q:=by
 refine⟨"list",⟨380,31,380,35⟩,"map",⟨380,36,380,39⟩,"Match",⟨380,40,380,45⟩,⟨380,40,380,51⟩,"non_adjacent",⟨380,53,380,65⟩,⟨380,36,380,66⟩,⟨by rfl',by rfl'⟩,by rfl',⟨by rfl',by rfl',by rfl'⟩,⟨by rfl',by rfl',by rfl'⟩,?_⟩
 have h:(∃vss,BK (GA la lb mb op fb ds ks n m ms i j k na []) (.ref 1)=some (vss.map .tup)/\HO vss/\vss.length<=1000000/\Q (.lst (Em vss)) (GA la lb mb op fb ds ks n m ms i j k na [])):=⟨vss,bO6 some e,ht,hl,q⟩
 exact(show(∃vss,BK (GA la lb mb op fb ds ks n m ms i j k na []) (.ref 1)=some (vss.map .tup)/\HO vss/\vss.length<=1000000/\Q (.lst (Em vss)) (GA la lb mb op fb ds ks n m ms i j k na []))=H9 (BB w tr) G4 "non_adjacent" (GA la lb mb op fb ds ks n m ms i j k na []) (λv σ=>∃vss,BK σ v=some (vss.map .tup)/\HO vss/\vss.length<=1000000/\Q (.lst (Em vss)) σ)from by rfl').mp h
def G5(bs:List BN)(n m:Nat):List AV:=(Et (0,0,0) bs++[(n,m,0)]).map Ib
def I2(bs:List BN)(n m:Nat):(AV.lst (G5 bs n m)).sub nn=some (.lst (G5 bs n m)):=AR (Eb (λ_=>rfl) _)
def RD{c:Bool}{x:Jz}{st:List Jz}:((psh c x st).map NG).reverse=(st.map NG).reverse++bif c then [NG x]else []:=by
 cases c with
 | true=>exact(bO6 List.reverse (aM7 ..)).trans (aT7 ..)
 | false=>exact(aF8 _).symm
section
variable{w:aB9}{la lb:List Int}{mb op fb:AV}{ds:List (AB×AV)}{ks:List AB}{n m:Int}{alo ahi blo bhi:Nat}{qs ms:List AV}{K:ſ}
def RY{a b c d x y z:Int}:Ac (FX la lb mb op fb ds ks n m qs ms (Mn a b c d x y z)) (FX la lb mb op fb ds ks n m qs ms []):=
 .less (ρ:=(FX la lb mb op fb ds ks n m qs ms []).ρ++Mn a b c d x y z) (λx v e=>CA e) λ_ _=>id
def aA{a b c d:Int}:AD (Kx [0]) [.ref 0,.int a,.int b,.int c,.int d]=some [.ref 0,.int a,.int b,.int c,.int d]:=rfl
def ZZ(S:Bw (.lst (ĭ la)) (.lst (ĭ lb)) mb op fb (.dct ds) (.fset ks))(hB:ŭ lb ds ks)(hla:la.length<=100000/\lb.length<=100000)(ha:alo<=ahi/\ahi<=la.length)(hb:blo<=bhi/\bhi<=lb.length)(hq:qs.length+2<=1000000)(hm:ms.length<=1000000)
  (h :∀i j k,Od la lb alo ahi blo bhi i j k->(k=0->K .next (FX la lb mb op fb ds ks n m qs ms (Mn alo ahi blo bhi i j k)))/\(0<k->K .next (FX la lb mb op fb ds ks n m (qs++(bif decide (alo<i/\blo<j)then [NG (alo,i,blo,j)]else [])++(bif decide (i+k<ahi/\j+k<bhi)then [NG (i+k,ahi,j+k,bhi)]else [])) (ms++[Ib (i,j,k)]) (Mn alo ahi blo bhi i j k)))) :
  wL (BB w B9) (B5 w B9 29) Nl.2 (FX la lb mb op fb ds ks n m (qs++[NG (alo,ahi,blo,bhi)]) ms []) K:=by
 rw[eH]
 refine⟨aA3 (aB7 aC3) (aN0 hq),_,List.getLast?_concat,?_⟩
 rw[List.dropLast_concat]
 refine eE.mpr ⟨rfl,I6 (D:=aD) (at_:=DB (.lst (ĭ la)) (.lst (ĭ lb)) mb op fb (.dct ds) (.fset ks)) S.shut rfl aA ⟨la,lb,mb,op,fb,ds,ks,alo,ahi,blo,bhi,rfl,rfl,⟨S,hB⟩,hla,ha,hb,λi j k hL=>?_⟩⟩
 obtain⟨h0,h1⟩:=h i j k hL
 refine f9.mpr ⟨rfl,Zc (λhk=>⟨hm,?_⟩) h0⟩
 have h1:=h1 hk
 have fin :∀q:List AV,q.length<=1000000->K .next (FX la lb mb op fb ds ks n m (q++(bif decide (i+k<ahi/\j+k<bhi)then [NG (i+k,ahi,j+k,bhi)]else [])) (ms++[Ib (i,j,k)]) (Mn alo ahi blo bhi i j k))->wL (BB w B9) (B5 w B9 28) (ĵ.drop 2) (FX la lb mb op fb ds ks n m q (ms++[Km i j k]) (Mn alo ahi blo bhi i j k)) (Ĭ (BB w B9) (B5 w B9 29) [] K):=λq hq z=>by
  refine fE.mpr (YZ (λc=>⟨hq,?_⟩) λc=>?_)
  ·rw[bP0 (show i+k<ahi/\j+k<bhi from⟨aD4.mp c.1,aD4.mp c.2⟩)]at z
   exact z
  ·rw[bP1 (show ¬ (i+k<ahi/\j+k<bhi)from λz=>c ⟨aD4.mpr z.1,aD4.mpr z.2⟩)]at z
   exact(aF8 q)▸z
 refine YZ (λc=>⟨aN0 (aN0 hq),fin _ (aA3 (aB7 aC3) (aN0 hq)) ?_⟩) λc=>fin _ (aN0 (aN0 hq)) ?_
 ·rw[bP0 (show alo<i/\blo<j from⟨aD4.mp c.1,aD4.mp c.2⟩)]at h1
  exact h1
 ·rw[bP1 (show ¬ (alo<i/\blo<j)from λz=>c ⟨aD4.mpr z.1,aD4.mpr z.2⟩)]at h1
  exact(aF8 qs)▸h1
end
section
section
variable{w:aB9}{la lb:List Int}{mb op fb:AV}{ds:List (AB×AV)}{ks:List AB}{K:ſ}{Q:AV->List Ob->Prop}{n m:Nat}{bs ms:List BN}
def MM{n m a b c:Int}{x y z:Int}{ms na:List AV}:Ac (GA la lb mb op fb ds ks n m ms a b c na [("i2",.int x),("j2",.int y),("k2",.int z)]) (GA la lb mb op fb ds ks n m ms a b c na []):=
 .less (ρ:=(GA la lb mb op fb ds ks n m ms a b c na []).ρ++([("i2",.int x),("j2",.int y),("k2",.int z)]:List (Str×AV))) (λx v e=>CA e) λ_ _=>id
def Ŏ(la lb:List Int)(mb op fb:AV)(ds:List (AB×AV))(ks:List AB)(n m:Nat)(bs:List BN)(t:Nat)(σ:St):Prop:=∃(i j k:Nat) (na:List BN),na++Et (i,j,k) (bs.drop t)=Et (0,0,0) bs/\na.length<=t/\σ=GA la lb mb op fb ds ks (Ψ n) (Ψ m) (bs.map Ib) (Ψ i) (Ψ j) (Ψ k) (na.map DU) []
def J5{α:Type}{f:α->AV}{na:List α}{t:Nat}(h:na.length<=t)(ht:t<=100):AE (na.map f).length:=aA3 (aB7 (aB0 ..)) (aA3 h (aA3 ht (by decide)))
def Db{α:Type}{f:α->AV}{na:List α}{b:α}:na.map f++[f b]=(na++[b]).map f:=(aP0 (l₁:=na) (l₂:=[b]) (f:=f)).symm
def dX(l:List BN):l.map DU=(l.map b9).map .tup:=(aO2 (l:=l) (f:=b9) (g:=AV.tup)).symm
def fX(l:List BN):Em (l.map b9)=l.map Ib:=aO2 (l:=l) (f:=b9) (g:=AV.mat)
def X9{t:Nat}{v:AV}{σ:St}(hl:bs.length<64)(hv:(bs.map Ib)[t]?=some v)(hI:Ŏ la lb mb op fb ds ks n m bs t σ):uD w B9 v σ (Eh (λσ=>∃τ,Ac σ τ/\Ŏ la lb mb op fb ds ks n m bs (t+1) τ) K):=by
 obtain⟨i,j,k,na,h1,h2,rfl⟩:=hI
 obtain⟨b,hb,rfl⟩:=aL4.mp ((aC5 ..).symm.trans hv)
 obtain⟨ht,hb⟩:=aA5.mp hb
 rw[aQ2 ht,hb]at h1
 obtain⟨i2,j2,k2⟩:=b
 have hsz:na.length<=63:=aA3 h2 (aJ3 (aB3 ht (aE4 hl)))
 have ne:¬ (AB.int (Ψ i+Ψ k)=AB.int (Ψ i2)/\AB.int (Ψ j+Ψ k)=AB.int (Ψ j2))->¬ (i+k=i2/\j+k=j2):=λc z=>c ⟨z.1▸rfl,z.2▸rfl⟩
 refine eL.mpr ⟨rfl,YZ (λc=>⟨_,MM,i,j,k+k2,na,?_,aI0 h2,rfl⟩) λc=>Zc (λhk=>⟨J5 hsz (by decide),rfl,_,MM,i2,j2,k2,na++[(i,j,k)],?_,aA3 (aB7 aC3) (aG8 h2),?_⟩) λhk=>⟨rfl,_,MM,i2,j2,k2,na,?_,aI0 h2,rfl⟩⟩
 ·have e:i+k=i2/\j+k=j2:=⟨aS9 (AB.int.inj c.1),aS9 (AB.int.inj c.2)⟩
  rw[Et,bO7 e]at h1
  exact h1
 ·rw[Et,bO8 (ne c),bO8 (aJ6 hk)]at h1
  rw[aL8]
  exact h1
 ·exact bO6 (λl=>GA la lb mb op fb ds ks (Ψ n) (Ψ m) (bs.map Ib) (Ψ i2) (Ψ j2) (Ψ k2) l []) (Db (f:=DU) (b:=(i,j,k)))
 ·rw[Et,bO8 (ne c),bO7 hk]at h1
  exact h1
def lA{σ:St}(S:Bw (.lst (ĭ la)) (.lst (ĭ lb)) mb op fb (.dct ds) (.fset ks))(hl:bs.length<64)(hI:Ŏ la lb mb op fb ds ks n m bs bs.length σ)(hq:Q (.lst (G5 bs n m)) [(aD,DB (.lst (ĭ la)) (.lst (ĭ lb)) (.lst (G5 bs n m)) op fb (.dct ds) (.fset ks))]):wL (BB w B9) (B5 w B9 30) (C0.drop 10) σ (AG 1 Q):=by
 obtain⟨i,j,k,na,h1,h2,rfl⟩:=hI
 rw[bB1]at h1
 have fin :∀na':List BN,na'=Et (0,0,0) bs->na'.length<=64->wL (BB w B9) (B5 w B9 30) (C0.drop 11) (GA la lb mb op fb ds ks (Ψ n) (Ψ m) (bs.map Ib) (Ψ i) (Ψ j) (Ψ k) (na'.map DU) []) (AG 1 Q):=λna' e hz=>by
  subst e
  have so:=I2 bs n m
  refine kW.mpr ⟨J5 hz (by decide),Wt (vss:=(Et (0,0,0) bs++[(n,m,0)]).map b9) ((Db (f:=DU) (b:=(n,m,0))).trans (dX _)) (λa vs e=>?_) (aA3 (aB7 ((aB0 ..).trans aC3)) (aA3 (aG8 hz) (by decide))) (jK.mpr ?_)⟩
  ·obtain⟨b,_,rfl⟩:=aL4.mp ((aC5 ..).symm.trans e)
   exact⟨rfl,rfl⟩
  ·rw[fX (Et (0,0,0) bs++[(n,m,0)])]
   exact D7 (fl:=.ret _) (at_:=DB (.lst (ĭ la)) (.lst (ĭ lb)) (.lst (G5 bs n m)) op fb (.dct ds) (.fset ks)) rfl (.refl _) rfl so (Bw.shut ⟨S.a,S.b,so,S.op,S.fb,S.b2j,S.bj⟩) hq
 have hz:na.length<=63:=aA3 h2 (aJ3 hl)
 refine aL.mpr (Zc (λhk=>⟨J5 hz (by decide),?_⟩) λhk=>?_)
 ·rw[Et,bO8 (aJ6 hk)]at h1
  have:=fin (na++[(i,j,k)]) h1 (aA3 (aB7 aC3) (aG8 hz))
  rw[<-Db]at this
  exact this
 ·rw[Et,bO7 hk,aF8]at h1
  exact fin na h1 (aI0 hz)
def kN(S:Bw (.lst (ĭ la)) (.lst (ĭ lb)) mb op fb (.dct ds) (.fset ks))(hR:GU la lb 0 n 0 m bs)(hp:bs.Perm ms)(hl:bs.length<64)(hq:Q (.lst (G5 bs n m)) [(aD,DB (.lst (ĭ la)) (.lst (ĭ lb)) (.lst (G5 bs n m)) op fb (.dct ds) (.fset ks))]) :
  wL (BB w B9) (B5 w B9 30) (C0.drop 6) (FX la lb mb op fb ds ks (Ψ n) (Ψ m) [] (ms.map Ib) []) (AG 1 Q):=by
 have hs:AD nn (bs.map Ib)=some (bs.map Ib):=Eb (λ_=>rfl) bs
 rw[iA]
 show AE (ms.map Ib).length/\Yz uZ (ms.map Ib) λws=>wL (BB w B9) (B5 w B9 30) (C0.drop 7) (FX la lb mb op fb ds ks (Ψ n) (Ψ m) [] ws []) (AG 1 Q)
 refine⟨J5 (aE4 (hp.length_eq▸hl)) (by decide),Yr (x:=λb=>Ψ b.1) (λ_=>rfl) hp (PI hR) hl (0,0,0) ?_⟩
 rw[eY]
 refine⟨wQ la lb mb op fb ds ks (Ψ n) (Ψ m) (bs.map Ib),.re [0] [(2,.lst (bs.map Ib))] rfl rfl rfl rfl (Aq rfl rfl rfl (bO6 (aD8 (AV.seq .lst)) hs) Bc) (Bo rfl rfl (Bo rfl rfl (Bo rfl rfl (Bo rfl rfl Be)))) (NP rfl rfl (QZ S) Bd),?_⟩
 rw[gZ]
 refine⟨hs,Ŏ la lb mb op fb ds ks n m bs,⟨_,.refl _,0,0,0,[],rfl,aA9 _,rfl⟩,λt σ v hv hI=>X9 hl hv hI,λσ hI=>?_⟩
 rw[aB0]at hI
 rw[Cn]
 exact lA S hl hI hq
def Ţ(la lb:List Int)(mb op fb:AV)(ds:List (AB×AV))(ks:List AB)(k:Nat)(σ:St):Prop:=∃(st:List Jz) (ms:List BN),wt st=k/\(wt st+ms.length<=2*la.length+1/\lO la.length lb.length st)/\Hg la lb la.length lb.length st ms/\σ=FX la lb mb op fb ds ks (Ψ la.length) (Ψ lb.length) ((st.map NG).reverse) (ms.map Ib) []
def MB(la lb:List Int)(mb:AV):Prop:=mb = .none\/∃bs,GU la lb 0 la.length 0 lb.length bs/\mb = .lst (G5 bs la.length lb.length)
def Mr:Ŕ:=λas os Q=>∃(la lb:List Int) (mb op fb:AV) (ds:List (AB×AV)) (ks:List AB),as=[.ref 0]/\os=[(aD,DB (.lst (ĭ la)) (.lst (ĭ lb)) mb op fb (.dct ds) (.fset ks))]/\(Bw (.lst (ĭ la)) (.lst (ĭ lb)) mb op fb (.dct ds) (.fset ks)/\ŭ lb ds ks)/\MB la lb mb/\(la.length<=100000/\lb.length<=100000)/\
 ∀bs,GU la lb 0 la.length 0 lb.length bs->bs.length<64/\Q (.lst (G5 bs la.length lb.length)) [(aD,DB (.lst (ĭ la)) (.lst (ĭ lb)) (.lst (G5 bs la.length lb.length)) op fb (.dct ds) (.fset ks))]
def CH{b:Bool}{A B:Prop}(e:b=false)(h:B):An b A B:=e▸h
def DD{b:Bool}{A B:Prop}(e:b=true)(h:A):An b A B:=e▸h
def Wd{k:Nat}{σ:St}(S:Bw (.lst (ĭ la)) (.lst (ĭ lb)) mb op fb (.dct ds) (.fset ks))(hB:ŭ lb ds ks)(hz:la.length<=100000/\lb.length<=100000)(hq :∀bs,GU la lb 0 la.length 0 lb.length bs->bs.length<64/\Q (.lst (G5 bs la.length lb.length)) [(aD,DB (.lst (ĭ la)) (.lst (ĭ lb)) (.lst (G5 bs la.length lb.length)) op fb (.dct ds) (.fset ks))])(hI:Ţ la lb mb op fb ds ks k σ) :
  (ws (BB w B9) G4 29).B Nl.1 σ λc σ=>An c (wL (BB w B9) (B5 w B9 29) Nl.2 σ (Eh (λσ=>∃m' τ,m'<k/\Ac σ τ/\Ţ la lb mb op fb ds ks m' τ) K)) (wL (BB w B9) (B5 w B9 29) [] σ (Ĭ (BB w B9) (B5 w B9 30) (C0.drop 6) (AG 1 Q))):=by
 obtain⟨st,ms,rfl,⟨hw,ho⟩,hP,rfl⟩:=hI
 have hst:=RM st
 have Ξ :∀{x:Nat},x<=2*la.length+1->x+2<=1000000:=λh=>by exists 2,0xf42409281a018002ca1080186a09008,hz.1,h
 have hsz:((st.map NG).reverse).length=st.length:=(aN3 ..).trans (aB0 ..)
 have hms:(ms.map Ib).length<=1000000:=aA3 (aB7 (aB0 ..)) (aN1 (Ξ (aA3 (Nat.le_add_left ..) hw)))
 rw[iK]
 refine⟨aA3 (aB7 hsz) (aN1 (Ξ (aA3 hst (aA3 (aE1 ..) hw)))),?_⟩
 cases st with
 | nil=>
  obtain⟨bs,b1,b2⟩:=hP.fin
  refine CH rfl ?_
  rw[Cn]
  exact kN S b1 b2 (hq bs b1).1 (hq bs b1).2
 | cons x st=>
  obtain⟨alo,ahi,blo,bhi⟩:=x
  have hx:=ho _ (aC6 ..)
  have ho':lO la.length lb.length st:=λy hy=>ho y (aC9 _ hy)
  have e:(((alo,ahi,blo,bhi)::st).map NG).reverse=(st.map NG).reverse++[NG (alo,ahi,blo,bhi)]:=(bO6 List.reverse (aM7 ..)).trans (aT7 ..)
  have e2:(!((((alo,ahi,blo,bhi)::st).map NG).reverse).isEmpty)=true:=by rw[e];cases(st.map NG).reverse<;>rfl
  refine DD e2 ?_
  rw[e]
  refine ZZ S hB hz ⟨hx.1,hx.2.1⟩ ⟨hx.2.2.1,hx.2.2.2⟩ (Ξ (aA3 (aB7 ((aN3 ..).trans (aB0 ..))) (aA3 (aN0 hst) (aA3 (aE1 ..) hw)))) hms λi j k hL=>⟨λhk=>?_,λhk=>?_⟩
  ·subst hk
   have:wt st<wt ((alo,ahi,blo,bhi)::st):=aB3 (aC2 _) (by show _<=2*(ahi-alo)+1+wt st;omega)
   exact⟨wt st,_,this,RY,st,ms,rfl,⟨by(exists 4,0x18202ca13a0031818202ca10a08,hw,this),ho'⟩,hP.zero hL,rfl⟩
  ·have lt:=U7 (st:=st) (c:=decide (alo<i/\blo<j)) (d:=decide (i+k<ahi/\j+k<bhi)) hL hk
   obtain⟨s1,s2,s3,s4,s5⟩:=hL.str
   refine⟨_,_,lt,RY,_,ms++[(i,j,k)],rfl,⟨?_,(ho'.psh ⟨s1,aA3 (aN1 s3) hx.2.1,s2,aA3 (aN1 s4) hx.2.2.2⟩).psh ⟨s3,hx.2.1,s4,hx.2.2.2⟩⟩,hP.step hL hk rfl rfl,?_⟩
   ·rw[aC3]
    show _+(ms.length+1)<=_
    exact id (ql [_,_,_,_] 0x18202ca181a3a0031818202ca10a08 (by rfl') hw lt)
   ·rw[RD,RD,<-Db]
end
variable{w:aB9}{d:Nat}
def oL:LP (lF w) (H0 w.params) (BB w B9) (d+3) ļ L4 aM KQ aI:=
 Sz (λf t e=>BF (b:=aD0 f 196) (x:=some B9) (y:=none) e (λq e=>aB4 q▸aA1 e▸WR) AA) (λe=>nomatch e) (λ_=>UT) (λ_ e=>nomatch e)
def ZM:BP (lF w) (H0 w.params) (d+5) (.ref 203) Mr:=
 Pf oL (QF _).2.2 (QF _).1 (QF _).2.1 (ps:=["self"]) (by decide) (by rfl') (SU λa=>by rfl') λas os Q hh=>by
  obtain⟨la,lb,mb,op,fb,ds,ks,ea,eo,⟨S,hB⟩,hmb,hz,hq⟩:=hh
  subst ea;subst eo
  refine⟨⟨rfl,CR S.shut⟩,?_⟩
  rcases hmb with rfl | ⟨bs,hR,rfl⟩
  rotate_left
  ·exact aF.mpr (D7 (fl:=.ret _) rfl (.refl _) rfl S.mb S.shut (hq bs hR).2)
  show wB (BB w B9) G4 C0 _ _ Q
  rw[nM,AW,AW]
  refine⟨big hz.1,big hz.2,rfl,Ţ la lb .none op fb ds ks,2*la.length+1,⟨_,.refl _,[(0,la.length,0,lb.length)],[],rfl,⟨aA9 _,λx hx=>?_⟩,.start,rfl⟩,λm σ hI=>?_⟩
  ·rw[aB6.mp hx]
   exact⟨aC7 _,aA9 _,aC7 _,aA9 _⟩
  ·exact Wd S hB hz hq hI
end
structure SQ(la lb:List Int)(mb op fb:AV)(ds:List (AB×AV))(ks:List AB):Prop where
 S:Bw (.lst (ĭ la)) (.lst (ĭ lb)) mb op fb (.dct ds) (.fset ks)
 B:ŭ lb ds ks
 M:MB la lb mb
def SQ.of{xs ys:List Int}{ds:List (AB×AV)}{ks:List AB}{fb:AV}(hf:fb.sub nn=some fb)(hB:ŭ ys ds ks):SQ xs ys .none .none fb ds ks:=⟨⟨A0 xs,A0 ys,rfl,rfl,hf,Jy hB,rfl⟩,hB,.inl rfl⟩
def r8(s:aE7):Expr:=(Qv s).2.1
noncomputable def Tu(e:Expr):List Expr:=V8 e
noncomputable def ZY(e:Expr):Expr×Expr:=(Tt e 0,Tt e 1)
noncomputable def Jd(e:Expr):Expr×List aF6×Scope:=(Tt e 0,aO e)
noncomputable def uS(e:Expr):(Expr×Expr)×List aF6×Scope:=((Tt e 0,Tt e 1),aO e)
abbrev CL:=Expr×List aF6×Scope
def mJ:aF6:=⟨.Name ("":Str) AM,.Name ("":Str) AM,[],0⟩
def Ej(P:Pm)(f:Nat)(sc:Scope)(q:CL)(n:Nat):AV->St->(St->Prop)->Prop:=DV (Li P f (CQ q.2.2 sc)) (q.2.1.getD 0 mJ) (Ni P (CQ q.2.2 sc) (Li P f (CQ q.2.2 sc)) (XJ q.1 (Li P f (CQ q.2.2 sc)) n) (q.2.1.drop 1))
def PA{β:Type}{l:List (Nat×β)}{x:Nat}{u v:β}:Al (Al l x u) x v=Al l x v:=
 aB5 (motive:=λl=>Al (Al l x u) x v=Al l x v) (show(bif x==x then(x,v)::[]else _)=_ by rw[bP3];rfl) (λp r ih=>by
  show Al (bif p.1==x then(p.1,u)::r else p::Al r x u) x v=bif p.1==x then(p.1,v)::r else p::Al r x v
  cases h:p.1==x with
  | true=>exact(bO6 (λb:Bool=>bif b then(p.1,v)::r else(p.1,u)::Al r x v) h).trans rfl
  | false=>exact(bO6 (λb:Bool=>bif b then(p.1,v)::Al r x u else p::Al (Al r x u) x v) h).trans (bO6 (p :: ·) ih)) l
def E4{ρ:List (Str×AV)}{H:List (Nat×AO)}{n m a:Nat}{u:AV}{L:List AV}{K:St->Prop}(hz:L.length<=1000000)(q:K ⟨ρ,Al H n (.list (L++[u])),m,a⟩):BO .append [.ref n,u] ⟨ρ,Al H n (.list L),m,a⟩ λ_ τ=>K τ:=by
 show Ab (aD8 (n,·) ((Al H n (.list L)).lookup n)) λp=>Ab p.2.lst λvs=>AE vs.length/\K ((⟨ρ,Al H n (.list L),m,a⟩:St).set p.1 (.list (vs++[u])))
 rw[KH]
 refine⟨hz,?_⟩
 show K ⟨ρ,Al (Al H n (.list L)) n (.list (L++[u])),m,a⟩
 rw[PA];exact q
def Dl{items:List AV}{tn:AV->St->(St->Prop)->Prop}{xs:List Str}{ρ₀:List (Str×AV)}{H:List (Nat×AO)}{n a:Nat}{Q:AV->St->Prop}(F:Nat->List AV)(I:List (Str×AV)->Prop)(h0:I (pick ρ₀ xs))(hs :∀ρ H' n',I ρ->ER ⟨ρ,H',n',a⟩ ⟨ρ₀,H,n,a⟩ xs)
  (hl:items.length<=1000000) (hF :∀k,(F k).length<=1)
  (ht :∀k v,items[k]?=some v->∀ρ L (K:St->Prop),I ρ->L.length<=1000000->(∀ρ',I ρ'->K ⟨ρ',Al H n (.list (L++F k)),n+1,a⟩)->tn v ⟨ρ,Al H n (.list L),n+1,a⟩ K)
  (q:Q (.ref n) ⟨ρ₀,Al H n (.list ((aC8 items.length).flatMap F)),n+1,a⟩):BC (.list []) items tn xs ⟨ρ₀,H,n,a⟩ Q:=by
 have len :∀k,((aC8 k).flatMap F).length<=k:=λk=>by
  induction k with
  | zero=>exact aA9 _
  | succ k ih=>rw[aS8,List.flatMap_append,aC3,List.flatMap_singleton];exact Nat.add_le_add ih (hF k)
 refine⟨λk τ=>∃ρ,I ρ/\τ=⟨ρ,Al H n (.list ((aC8 k).flatMap F)),n+1,a⟩,⟨_,h0,rfl⟩,λk v τ hv hJ=>?_,λτ hJ=>?_⟩
 ·obtain⟨ρ,hI,rfl⟩:=hJ
  refine ht k v hv ρ _ _ hI (aA3 (len k) (aA3 (aE4 (aA5.mp hv).1) hl)) λρ' hI'=>⟨ρ',hI',?_⟩
  rw[aS8,List.flatMap_append,List.flatMap_singleton]
 ·obtain⟨ρ,hI,rfl⟩:=hJ
  exact⟨hs _ _ _ hI,q⟩
end Mine
end
namespace Mine
def EG(s:Nat×Nat)(x:Int):Nat×Nat:=(max s.1 (bif CM x then 0 else s.2+1),bif CM x then 0 else s.2+1)
def AJ(l:List Int):Nat:=(l.foldl EG (0,0)).1
end Mine
section
open PySem PySem.W PyProof.Rows
namespace Mine
def GP{fl:Bn}{σ:St}{r:AV}{Q:AV->List Ob->Prop}(hf:Gw fl r)(hr:r.sub nn=some r)(hq:Q r []):AG 0 Q fl σ:=⟨r,σ,[],hf,.refl _,hr,rfl,B6,λ_ _=>AA,hq⟩
def Qb:List aE7:=(Bz pw.main.body "_law_clear").1
def Lz:Scope:=(Bz pw.main.body "_law_clear").2
def Q6(P:aD3):(CJ P 253).body = .stmts Qb/\(CJ P 253).scope=Lz/\Av P 253=true:=⟨by rfl',by rfl',by rfl'⟩
def gN:Expr×List aE7:=Cp (Qb.getD 1 (.Pass AM))
def Vv(w:aB9):AV->St->ſ->Prop:=λv σ K=>(ws (ž w) Lz 29).A gN.1 v σ λσ=>wL (ž w) (EI (ž w) Lz 29) gN.2 σ K
abbrev Fg(l:List Int)(h b:Int)(r:List (Str×AV)):St:=⟨("lines",.lst (ĭ l))::("best",.int b)::("here",.int h)::r,[],0,0⟩
section
variable{w:aB9}{l:List Int}{h b x:Int}{K:ſ}
def tM:wL (ž w) (EI (ž w) Lz 30) Qb (A7 [("lines",.lst (ĭ l))] []) K=(2=2/\AD nn (ĭ l)=some (ĭ l)/\Cc (ĭ l) (Vv w) (wL (ž w) (EI (ž w) Lz 29) []) (Fg l 0 0 []) (Ĭ (ž w) (EI (ž w) Lz 30) (Qb.drop 2) K)):=by rfl'
def cN:Vv w (.int x) (Fg l h b []) K=((3:Int)≠0/\An (decide (AB.int (x.fmod 3)=AB.int 2)) (K .next (Fg l 0 (max b 0) [("line",.int x)])) (K .next (Fg l (h+1) (max b (h+1)) [("line",.int x)]))):=by rfl'
def jM:wL (ž w) (EI (ž w) Lz 30) (Qb.drop 2) (Fg l h b []) K=K (.ret (.int b)) (Fg l h b []):=by rfl'
def RI:decide (AB.int (x.fmod 3)=AB.int 2)=CM x:=(NV _ _).symm
def Nu:Ac (Fg l h b [("line",.int x)]) (Fg l h b []):=.less (ρ:=(Fg l h b []).ρ++([("line",.int x)]:List (Str×AV))) (λx v e=>CA e) λ_ _=>id
end
def GR:Ŕ:=λas os Q=>∃l:List Int,as=[.lst (ĭ l)]/\os=[]/\Q (.int ((AJ l:Nat):Int)) []
def RV{w:aB9}{d:Nat}:BP (lF w) (H0 w.params) (d+2) (.ref 253) GR:=
 Pf w0 (Q6 _).2.2 (Q6 _).1 (Q6 _).2.1 (ps:=["lines"]) (by decide) (by rfl') (SU λa=>by rfl') λas os Q hh=>by
  obtain⟨l,ea,eo,hq⟩:=hh
  subst ea;subst eo
  refine⟨⟨rfl,B6⟩,tM.mpr ⟨rfl,CB l,λk τ=>τ=Fg l (((l.take k).foldl EG (0,0)).2:Nat) (((l.take k).foldl EG (0,0)).1:Nat) [],⟨_,.refl _,rfl⟩,λk τ v hv hI=>?_,λτ hI=>?_⟩⟩
  ·subst hI
   obtain⟨x,hx,rfl⟩:=map_some ((aC5 ..).symm.trans hv)
   have e:(l.take (k+1)).foldl EG (0,0)=EG ((l.take k).foldl EG (0,0)) x:=by rw[C8 hx,List.foldl_append];rfl
   rw[cN,RI]
   refine⟨by decide,?_⟩
   have f :∀t:Nat×Nat,t=(l.take (k+1)).foldl EG (0,0)->Fg l (t.2:Nat) (t.1:Nat) []=Fg l (((l.take (k+1)).foldl EG (0,0)).2:Nat) (((l.take (k+1)).foldl EG (0,0)).1:Nat) []:=λt e=>by rw[e]
   generalize (l.take k).foldl EG (0,0)=s at e ⊢
   cases j:CM x with
   | true=>exact⟨_,Nu,(bO6 (λb=>Fg l 0 b []) (show max (s.1:Int) 0=((max s.1 0:Nat):Int)by exists 1,0x80e0f0800fe5)).trans (f (max s.1 0,0) (by rw[e];unfold EG;rw[j];rfl))⟩
   | false=>exact⟨_,Nu,(bO6 (λb=>Fg l ((s.2:Int)+1) b []) (show max (s.1:Int) ((s.2:Int)+1)=((max s.1 (s.2+1):Nat):Int)by exists 2,0x181a0e0f1810fa00fe5)).trans (f (max s.1 (s.2+1),s.2+1) (by rw[e];unfold EG;rw[j];rfl))⟩
  ·subst hI
   rw[AW,aR3]
   rw[Cn,jM]
   exact GP (fl:=.ret _) rfl rfl hq
noncomputable def F6(s:aE7):List aE7:=(Qv s).2.2.2
def Ex:List aE7:=(Bz pw.main.body "_law_deed").1
def Bf:Scope:=(Bz pw.main.body "_law_deed").2
def Sm(P:aD3):(CJ P 258).body = .stmts Ex/\(CJ P 258).scope=Bf/\Av P 258=true:=⟨by rfl',by rfl',by rfl'⟩
noncomputable def aQ:Pos->Bool:=λ_=>true
noncomputable def jC:Pos->Bool:=λp=>aD0 p.line 450
abbrev ħ(w:aB9):Pm:=Qk w.params (Y3 253 GR) none false false aQ jC
abbrev Ō(w:aB9)(f:Nat):ĥ:=EI (ħ w) Bf f
abbrev nG(a b:Int):Prop:=aE0.divisionGoesByPylong a b=false
abbrev Le:Prop:=(none:Option Int)≠some 0
abbrev dS(x2 made kd at_ two one:Int)(tx:List Int)(tl hd:List AV)(r:List (Str×AV)):St:=⟨("x",.int x2)::("text",.lst (ĭ tx))::("made",.int made)::("kind",.int kd)::("at",.int at_)::("two",.int two)::("one",.int one)::("tail",.lst tl)::("head",.lst hd)::r,[],0,0⟩
def kX:aE7:=Ex.getD 5 (.Pass AM)
def Zg:aE7:=(F6 kX).getD 0 (.Pass AM)
def L5:aE7:=(F6 Zg).getD 0 (.Pass AM)
def Js:aE7:=(F6 L5).getD 0 (.Pass AM)
abbrev kD(w:aB9)(K:ſ):ſ:=Ĭ (ħ w) (Ō w 30) (Ex.drop 6) K
abbrev rD(rs dr:List AV):List (Str×AV):=[("rest",.lst rs),("drop",.lst dr)]
section
variable{w:aB9}{x x2 made kd at_ two one n:Int}{tx:List Int}{tl hd M:List AV}{r:List (Str×AV)}{K:ſ}
def sX:wL (ħ w) (Ō w 30) Ex (A7 [("x",.int x),("text",.lst (ĭ tx)),("made",.int made)] []) K =
  ((5:Int)≠0/\(5:Int)≠0/\nG x 5/\2=2/\AE (ĭ tx).length/\((ĭ tx).length:Int)+1≠0/\AE (ĭ tx).length/\((ĭ tx).length:Int)+1≠0/\nG (x.fdiv 5) (((ĭ tx).length:Int)+1)/\2=2/\(4:Int)≠0/\(4:Int)≠0/\nG ((x.fdiv 5).fdiv (((ĭ tx).length:Int)+1)) 4/\(4:Int)≠0/\2=2/\
   (none:Option Int)≠some 0/\AE (ĭ tx).length/\(none:Option Int)≠some 0/\AE (ĭ tx).length/\2=2/\2=2/\
   wL (ħ w) (Ō w 30) (Ex.drop 5) (dS ((x.fdiv 5).fdiv (((ĭ tx).length:Int)+1)) made (x.fmod 5) ((x.fdiv 5).fmod (((ĭ tx).length:Int)+1)) (1+(((x.fdiv 5).fdiv (((ĭ tx).length:Int)+1)).fdiv 4).fmod 4) (1+((x.fdiv 5).fdiv (((ĭ tx).length:Int)+1)).fmod 4) tx
    (Ag (ĭ tx) (some ((x.fdiv 5).fmod (((ĭ tx).length:Int)+1))) none none) (Ag (ĭ tx) none (some ((x.fdiv 5).fmod (((ĭ tx).length:Int)+1))) none) (rD (Ag (ĭ tx) (some ((x.fdiv 5).fmod (((ĭ tx).length:Int)+1))) none none) [])) K):=by rfl'
def cA{σ:St}(e:σ=dS x2 made kd at_ two one tx tl hd (rD tl [])):wL (ħ w) (Ō w 30) (Ex.drop 5) σ K=An (decide (AB.int kd=AB.int 0)) (wL (ħ w) (Ō w 29) (B4 kX) σ (kD w K)) (wL (ħ w) (Ō w 29) [Zg] σ (kD w K))/\
  wL (ħ w) (Ō w 29) [Zg] σ (kD w K)=An (decide (AB.int kd=AB.int 1)) (wL (ħ w) (Ō w 28) (B4 Zg) σ (kD w K)) (wL (ħ w) (Ō w 28) [L5] σ (kD w K))/\
  wL (ħ w) (Ō w 28) [L5] σ (kD w K)=An (decide (AB.int kd=AB.int 2)) (wL (ħ w) (Ō w 27) (B4 L5) σ (kD w K)) (wL (ħ w) (Ō w 27) [Js] σ (kD w K))/\
  wL (ħ w) (Ō w 27) [Js] σ (kD w K)=An (decide (AB.int kd=AB.int 3)) (wL (ħ w) (Ō w 26) (B4 Js) σ (kD w K)) (wL (ħ w) (Ō w 26) (F6 Js) σ (kD w K)):=by
 subst e
 exact⟨by rfl',by rfl',by rfl',by rfl'⟩
end
def s0:aE7:=(B4 kX).getD 0 (.Pass AM)
def c0:CL:=Jd (Bl s0)
def r6:aE7:=(B4 Js).getD 2 (.Pass AM)
def c3:CL:=Jd (Bl r6)
def vR:aE7:=(B4 Js).getD 3 (.Pass AM)
def Zm:CL:=Jd (Bl vR)
def sI:aE7:=(F6 Js).getD 0 (.Pass AM)
def c4:CL:=Jd (Bl sI)
section
variable{w:aB9}{x x2 made kd at_ two one n:Int}{tx:List Int}{tl hd M p q rs dr:List AV}{r:List (Str×AV)}{K:ſ}
def d0:wL (ħ w) (Ō w 29) (B4 kX) (dS x2 made kd at_ two one tx tl hd (rD tl [])) K=(AE (ĭ tx).length/\BH 0 (min one (12-((ĭ tx).length:Int)))/\BC (.list []) (Ah 0 (min one (12-((ĭ tx).length:Int))-0).toNat) (Ej (ħ w) 27 Bf c0 0) (Bh c0.2.2) (dS x2 made kd at_ two one tx tl hd (rD tl [])) λv σ=>BG (ws (ħ w) Bf 28).A (Ak s0) v σ λσ=>K .next σ):=by rfl'
def y6{k:Int}{H:List (Nat×AO)}{m a:Nat}{R:St->Prop}:Ej (ħ w) 27 Bf c0 0 (.int k) ⟨[("made",.int made)],H,m,a⟩ R=BO .append [.ref 0,.int (made+k)] ⟨[("made",.int made),("k",.int k)],H,m,a⟩ λ_ τ=>R τ:=by rfl'
def Æ{k l:Int}{H:List (Nat×AO)}{m a:Nat}{R:St->Prop}:Ej (ħ w) 27 Bf c0 0 (.int k) ⟨[("made",.int made),("k",.int l)],H,m,a⟩ R=BO .append [.ref 0,.int (made+k)] ⟨[("made",.int made),("k",.int k)],H,m,a⟩ λ_ τ=>R τ:=by rfl'
def Ú{R:St->Prop}:BG (ws (ħ w) Bf 28).A (Ak s0) (.ref 0) ⟨(dS x2 made kd at_ two one tx tl hd (rD tl [])).ρ,[(0,.list M)],1,0⟩ R=R ⟨(dS x2 made kd at_ two one tx tl hd (rD tl []++([("middle",.ref 0)]:List (Str×AV)))).ρ,[(0,.list M)],1,0⟩:=by rfl'
def d1:wL (ħ w) (Ō w 28) (B4 Zg) (dS x2 made kd at_ two one tx tl hd (rD tl [])) K=(Le/\AE tl.length/\2=2/\K .next (dS x2 made kd at_ two one tx tl hd (rD (Ag tl (some one) none none) []++([("middle",.lst [])]:List (Str×AV))))):=by rfl'
def d2:wL (ħ w) (Ō w 27) (B4 L5) (dS x2 made kd at_ two one tx tl hd (rD tl [])) K=(Le/\AE tl.length/\Le/\AE tl.length/\Le/\AE tl.length/\3=3/\wL (ħ w) (Ō w 27) ((B4 L5).drop 1) (dS x2 made kd at_ two one tx tl hd (rD (Ag tl (some (one+two)) none none) []++([("q",.lst (Ag tl (some one) (some (one+two)) none)),("p",.lst (Ag tl none (some one) none))]:List (Str×AV)))) K):=by rfl'
def ň:wL (ħ w) (Ō w 26) (B4 Js) (dS x2 made kd at_ two one tx tl hd (rD tl [])) K=(Le/\AE tl.length/\Le/\AE tl.length/\2=2/\wL (ħ w) (Ō w 26) ((B4 Js).drop 1) (dS x2 made kd at_ two one tx tl hd (rD (Ag tl (some (one+two)) none none) []++([("turned",.lst (Ag tl none (some (one+two)) none))]:List (Str×AV)))) K):=by rfl'
def Ì:wL (ħ w) (Ō w 26) ((B4 Js).drop 1) (dS x2 made kd at_ two one tx tl hd (rD rs []++([("turned",.lst p)]:List (Str×AV)))) K=(some (-1:Int)≠some 0/\AE p.length/\AD nn p=some p/\BC (.list []) p (Ej (ħ w) 24 Bf c3 0) (Bh c3.2.2) (dS x2 made kd at_ two one tx tl hd (rD rs []++([("turned",.lst p),("middle",.lst (Ag p none none (some (-1))))]:List (Str×AV)))) λv σ=>BG (ws (ħ w) Bf 25).A (Ak r6) v σ λσ=>wL (ħ w) (Ō w 26) ((B4 Js).drop 3) σ K):=by rfl'
def yG{k:Int}{ρ:List (Str×AV)}{H:List (Nat×AO)}{m a:Nat}{R:St->Prop}:Ej (ħ w) 24 Bf c3 0 (.int k) ⟨[],H,m,a⟩ R=((3:Int)≠0/\An (!decide (AB.int (k.fmod 3)=AB.int 2)) (BO .append [.ref 0,.int k] ⟨[("line",.int k)],H,m,a⟩ λ_ τ=>R τ) (R ⟨[("line",.int k)],H,m,a⟩)):=by rfl'
def Ī:wL (ħ w) (Ō w 26) (F6 Js) (dS x2 made kd at_ two one tx tl hd (rD tl [])) K=(BH 0 made/\BC (.list []) (Ah 0 (made-0).toNat) (Ej (ħ w) 24 Bf c4 0) (Bh c4.2.2) (dS x2 made kd at_ two one tx tl hd (rD tl [])) λv σ=>BG (ws (ħ w) Bf 25).A (Ak sI) v σ λσ=>wL (ħ w) (Ō w 26) ((F6 Js).drop 1) σ K):=by rfl'
def ô{k:Int}{H:List (Nat×AO)}{m a:Nat}{R:St->Prop}:Ej (ħ w) 24 Bf c4 0 (.int k) ⟨[("text",.lst (ĭ tx))],H,m,a⟩ R=Ab (BQ (ĭ tx)) λks=>An (!decide (AB.int k∈ks)) (BO .append [.ref 0,.int k] ⟨[("text",.lst (ĭ tx)),("line",.int k)],H,m,a⟩ λ_ τ=>R τ) (R ⟨[("text",.lst (ĭ tx)),("line",.int k)],H,m,a⟩):=by rfl'
def yX{k l:Int}{H:List (Nat×AO)}{m a:Nat}{R:St->Prop}:Ej (ħ w) 24 Bf c4 0 (.int k) ⟨[("text",.lst (ĭ tx)),("line",.int l)],H,m,a⟩ R=Ab (BQ (ĭ tx)) λks=>An (!decide (AB.int k∈ks)) (BO .append [.ref 0,.int k] ⟨[("text",.lst (ĭ tx)),("line",.int k)],H,m,a⟩ λ_ τ=>R τ) (R ⟨[("text",.lst (ĭ tx)),("line",.int k)],H,m,a⟩):=by rfl'
end
def Sy(e:Expr):Expr×Expr×Expr:=(Tt e 0,Tt e 1,Tt e 2)
def Xk(e:Expr):Expr×List Expr:=(Tt e 0,(V8 e).drop 1)
def mQ:aE7:=(B4 L5).getD 2 (.Pass AM)
def T2:Expr:=(Sy (Bl mQ)).1
def wP:Expr:=(Xk T2).2.getD 0 Jt
section
variable{w:aB9}{x x2 made kd at_ two one n m k:Int}{tx:List Int}{tl hd M p q rs dr:List AV}{r:List (Str×AV)}{K:ſ}{R:Bool->St->Prop}{E:AV->St->Prop}
abbrev Nf(x2 made kd at_ two one:Int)(tx:List Int)(tl hd rs dr p q md:List AV):St:=dS x2 made kd at_ two one tx tl hd [("rest",.lst rs),("drop",.lst dr),("q",.lst q),("p",.lst p),("middle",.lst md)]
abbrev wX(w:aB9)(K:ſ):AV->St->Prop:=λv σ=>BG (ws (ħ w) Bf 26).A (Ak mQ) v σ λσ=>wL (ħ w) (Ō w 27) ((B4 L5).drop 3) σ K
abbrev R2(w:aB9)(K:ſ):Bool->St->Prop:=λc σ=>An c ((ws (ħ w) Bf 25).E (Sy (Bl mQ)).2.1 σ (wX w K)) ((ws (ħ w) Bf 25).E (Sy (Bl mQ)).2.2 σ (wX w K))
def ë:wL (ħ w) (Ō w 27) ((B4 L5).drop 1) (dS x2 made kd at_ two one tx tl hd (rD rs []++([("q",.lst q),("p",.lst p)]:List (Str×AV)))) K=(AE (q.length+p.length)/\(ws (ħ w) Bf 25).B T2 (Nf x2 made kd at_ two one tx tl hd rs [] p q (q++p)) (R2 w K)):=by rfl'
def yO:(ws (ħ w) Bf 25).B T2 (Nf x2 made kd at_ two one tx tl hd rs [] p q M) R=BE GR [.lst p] (Nf x2 made kd at_ two one tx tl hd rs [] p q M) λu σ=>(ws (ħ w) Bf 24).E wP σ λv σ=>Cm .GtE u v σ λb σ=>CV b σ R:=by rfl'
def Í:(ws (ħ w) Bf 24).E wP (Nf x2 made kd at_ two one tx tl hd rs [] p q M) E=BE GR [.lst q] (Nf x2 made kd at_ two one tx tl hd rs [] p q M) E:=by rfl'
def v4:R2 w K true (Nf x2 made kd at_ two one tx tl hd rs [] p q M)=wL (ħ w) (Ō w 27) ((B4 L5).drop 3) (Nf x2 made kd at_ two one tx tl hd rs q p q M) K/\R2 w K false (Nf x2 made kd at_ two one tx tl hd rs [] p q M)=wL (ħ w) (Ō w 27) ((B4 L5).drop 3) (Nf x2 made kd at_ two one tx tl hd rs p p q M) K:=⟨by rfl',by rfl'⟩
def xT:wL (ħ w) (Ō w 27) ((B4 L5).drop 3) (Nf x2 made kd at_ two one tx tl hd rs dr p q M) K=BE GR [.lst M] (Nf x2 made kd at_ two one tx tl hd rs dr p q M) λu σ=>Cm .Eq u (.int 0) σ λb σ=>CV b σ λc σ=>An c (wL (ħ w) (Ō w 26) (B4 ((B4 L5).getD 3 (.Pass AM))) σ (Ĭ (ħ w) (Ō w 27) [] K)) (K .next σ):=by rfl'
def yP:wL (ħ w) (Ō w 26) (B4 ((B4 L5).getD 3 (.Pass AM))) (Nf x2 made kd at_ two one tx tl hd rs dr p q M) K=K .next (Nf x2 made kd at_ two one tx tl hd rs M p q M):=by rfl'
def zA{k l:Int}{H:List (Nat×AO)}{m a:Nat}{R:St->Prop}:Ej (ħ w) 24 Bf c3 0 (.int k) ⟨[("line",.int l)],H,m,a⟩ R=((3:Int)≠0/\An (!decide (AB.int (k.fmod 3)=AB.int 2)) (BO .append [.ref 0,.int k] ⟨[("line",.int k)],H,m,a⟩ λ_ τ=>R τ) (R ⟨[("line",.int k)],H,m,a⟩)):=by rfl'
abbrev cT(x2 made kd at_ two one:Int)(tx:List Int)(tl hd rs p md:List AV)(r:List (Str×AV)):List (Str×AV):=(dS x2 made kd at_ two one tx tl hd (("rest",.lst rs)::("drop",.lst [])::("turned",.lst p)::("middle",.lst md)::r)).ρ
def Ĉ{R:St->Prop}:BG (ws (ħ w) Bf 25).A (Ak r6) (.ref 0) ⟨cT x2 made kd at_ two one tx tl hd rs p q [],[(0,.list M)],1,0⟩ R=R ⟨cT x2 made kd at_ two one tx tl hd rs p q [("clear",.ref 0)],[(0,.list M)],1,0⟩:=by rfl'
def xS:wL (ħ w) (Ō w 26) ((B4 Js).drop 3) ⟨cT x2 made kd at_ two one tx tl hd rs p q [("clear",.ref 0)],[(0,.list M)],1,0⟩ K=(AD nn p=some p/\BC (.list []) p (Ej (ħ w) 24 Bf Zm 1) (Bh Zm.2.2) ⟨cT x2 made kd at_ two one tx tl hd rs p q [("clear",.ref 0)],[(0,.list M)],1,0⟩ λv σ=>BG (ws (ħ w) Bf 25).A (Ak vR) v σ λσ=>K .next σ):=by rfl'
def xW{k:Int}{L:List AV}{R:St->Prop}:Ej (ħ w) 24 Bf Zm 1 (.int k) ⟨[("clear",.ref 0)],[(0,.list M),(1,.list L)],2,0⟩ R=(Le/\AE M.length/\Ab (BQ (Ag M none (some 1) none)) λks=>An (!decide (AB.int k∈ks)) (BO .append [.ref 1,.int k] ⟨[("clear",.ref 0),("line",.int k)],[(0,.list M),(1,.list L)],2,0⟩ λ_ τ=>R τ) (R ⟨[("clear",.ref 0),("line",.int k)],[(0,.list M),(1,.list L)],2,0⟩)):=by rfl'
def Ć{k l:Int}{L:List AV}{R:St->Prop}:Ej (ħ w) 24 Bf Zm 1 (.int k) ⟨[("clear",.ref 0),("line",.int l)],[(0,.list M),(1,.list L)],2,0⟩ R=(Le/\AE M.length/\Ab (BQ (Ag M none (some 1) none)) λks=>An (!decide (AB.int k∈ks)) (BO .append [.ref 1,.int k] ⟨[("clear",.ref 0),("line",.int k)],[(0,.list M),(1,.list L)],2,0⟩ λ_ τ=>R τ) (R ⟨[("clear",.ref 0),("line",.int k)],[(0,.list M),(1,.list L)],2,0⟩)):=by rfl'
def Č{R:St->Prop}:BG (ws (ħ w) Bf 25).A (Ak sI) (.ref 0) ⟨(dS x2 made kd at_ two one tx tl hd (rD tl [])).ρ,[(0,.list M)],1,0⟩ R=R ⟨(dS x2 made kd at_ two one tx tl hd (rD tl []++([("out",.ref 0)]:List (Str×AV)))).ρ,[(0,.list M)],1,0⟩:=by rfl'
def û:wL (ħ w) (Ō w 26) ((F6 Js).drop 1) ⟨(dS x2 made kd at_ two one tx tl hd (rD tl []++([("out",.ref 0)]:List (Str×AV)))).ρ,[(0,.list M)],1,0⟩ K=((16:Int)≠0/\nG x2 16/\AE M.length/\(M.length:Int)+1≠0/\wL (ħ w) (Ō w 26) ((F6 Js).drop 2) ⟨(dS x2 made kd at_ two one tx tl hd (rD tl []++([("out",.ref 0),("first",.int ((x2.fdiv 16).fmod ((M.length:Int)+1)))]:List (Str×AV)))).ρ,[(0,.list M)],1,0⟩ K):=by rfl'
def Þ:wL (ħ w) (Ō w 26) ((F6 Js).drop 2) ⟨(dS x2 made kd at_ two one tx tl hd (rD tl []++([("out",.ref 0),("first",.int n)]:List (Str×AV)))).ρ,[(0,.list M)],1,0⟩ K=(AE (ĭ tx).length/\Le/\AE M.length/\K .next ⟨(dS x2 made kd at_ two one tx tl hd (rD tl []++([("out",.ref 0),("first",.int n),("middle",.lst (Ag M (some n) (some (n+min one (12-((ĭ tx).length:Int)))) none))]:List (Str×AV)))).ρ,[(0,.list M)],1,0⟩):=by rfl'
end
theorem KX{α:Type}(vs:List α)(a:Nat) :∀n,((aC8 n).filterMap λk=>vs[a+k]?)=(vs.drop a).take n
 | 0=>rfl
 | n+1=>by
  rw[aS8,aT2,KX vs a n,aY8,aO0]
  congr 1
def E3{α:Type}(vs:List α)(a b:Nat):(sliceRange (a:Int) (b:Int) 1).filterMap (vs[·]?)=(vs.drop a).take (b-a):=by
 unfold sliceRange
 simp only[show((1:Int)>0)=True from by simp,if_true]
 have e:((if(a:Int)<(b:Int)then((b:Int)-(a:Int)+1-1) / 1 else 0).toNat)=b-a:=by
  split
  ·rw[bK6];exists 3,0x21b0208181820f10fbabe00f58,(aD6 _)
  ·rename_i u0;exists 3,0x1b220808e20f5810f00f498,u0,(aD6 _)
 rw[e,List.filterMap_map,<-KX]
 congr 1
 funext k
 show vs[((a:Int)+1*(k:Int)).toNat]?=_
 congr 1
 exists 3,0x21a020820f01c10fae00f58,(aD6 _)
def M6{α:Type}(vs:List α)(k:Nat):Ag vs (some (k:Int)) none none=vs.drop k:=by
 unfold Ag sliceBounds
 simp only[bG0,show((1:Int)>0)=True from by simp,if_true,show ¬ ((k:Int)<0)by(exists 1,0x800f49),if_false]
 have e:max (0:Int) (min (k:Int) (vs.length:Int))=((min k vs.length:Nat):Int):=by exists 2,0x10d0f10f00fd08e5
 rw[e,E3]
 by_cases h:k<=vs.length
 ·rw[aW0 h,aP2 (by rw[aJ1];exact aA9 _)]
 ·rw[bF2 (by exists 2,0x1010098,h),bB1,List.drop_of_length_le (by exists 2,0x1010098,h)]
  simp
def Gn{α:Type}(vs:List α)(k:Nat):Ag vs none (some (k:Int)) none=vs.take k:=by
 unfold Ag sliceBounds
 simp only[bG0,show((1:Int)>0)=True from by simp,if_true,show ¬ ((k:Int)<0)by(exists 1,0x800f49),if_false]
 have e:max (0:Int) (min (k:Int) (vs.length:Int))=((min k vs.length:Nat):Int):=by exists 2,0x10d0f10f00fd08e5
 rw[e]
 have:=E3 vs 0 (min k vs.length)
 rw[show((0:Nat):Int)=0 from rfl]at this
 rw[this]
 simp
def MT{α:Type}(vs:List α)(j k:Nat):Ag vs (some (j:Int)) (some (k:Int)) none=(vs.take k).drop j:=by
 unfold Ag sliceBounds
 simp only[bG0,show((1:Int)>0)=True from by simp,if_true,show ¬ ((k:Int)<0)by(exists 1,0x800f49),show ¬ ((j:Int)<0)by(exists 1,0x800f49),if_false]
 have e:max (0:Int) (min (k:Int) (vs.length:Int))=((min k vs.length:Nat):Int):=by exists 2,0x10d0f10f00fd08e5
 have e':max (0:Int) (min (j:Int) (vs.length:Int))=((min j vs.length:Nat):Int):=by exists 2,0x10d0f10f00fd08e5
 rw[e,e',E3]
 apply List.ext_getElem?
 intro i
 rw[aQ0,aO0,aO0,aQ0]
 by_cases h:j<=vs.length
 ·rw[aW0 h]
  by_cases q:j+i<k
  ·rw[bO7 q]
   split
   ·rfl
   ·rw[aG9];rename_i u0;exists 4,0x10a30032db1198210a18,q,u0
  ·rw[bO8 q,bO8 (by exists 4,0x32db119210a198,q)]
 ·rw[bF2 (Nat.le_of_not_le h)]
  have:vs[j+i]?=none:=aG9 (by exists 3,0x20a1010098,h)
  rw[this]
  have:vs[vs.length+i]?=none:=aG9 (by exists 2,0x10a00)
  rw[this]
  split<;>split<;>rfl
def GJ{α:Type}(vs:List α):Ag vs none none (some (-1))=vs.reverse:=by
 have go :∀m,m<=vs.length->((aC8 m).filterMap λk=>vs[vs.length-1-k]?)=(vs.drop (vs.length-m)).reverse:=λm=>by
  induction m with
  | zero=>intro _;simp
  | succ m ih=>
   intro hm
   have h1:vs.length-1-m<vs.length:=by exists 2,0x10181bb11180a08,hm
   rw[aS8,aT2,ih (by exists 2,0x1001180a08,hm),show vs.length-(m+1)=vs.length-1-m by(exists 2,0x1180bb181a0b2),aQ2 h1,aT7,show vs.length-1-m+1=vs.length-m by exists 2,0x1b180181bba21180a08,hm]
   simp[h1]
 have e:=go vs.length (aA9 _)
 rw[bD2,bH8]at e
 rw[<-e]
 unfold Ag sliceBounds sliceRange
 by_cases h0:vs.length=0
 ·have:=aF5 h0
  subst this
  rfl
 ·simp only[Option.getD_some]
  rw[bO8 (by decide:¬ ((-1:Int)>0)),bO8 (by decide:¬ ((-1:Int)>0)),bO8 (by decide:¬ ((-1:Int)>0)),bO7 (by exists 1,0x1800fb181f4080298,h0:(vs.length:Int)-1 > -1)]
  rw[show(((vs.length:Int)-1 - -1 - -1-1) / (- -1)).toNat=vs.length by rw[show(- -1:Int)=1 from rfl,bK6];(exists 2,0x1020818181f181f1810fbbbbe00f58,(aD6 _)),List.filterMap_map]
  have :∀m,m<=vs.length->(aC8 m).filterMap ((λx=>vs[x]?)∘λk:Nat=>((vs.length:Int)-1 + -1*(k:Int)).toNat)=(aC8 m).filterMap λk=>vs[vs.length-1-k]?:=λm=>by
   induction m with
   | zero=>intro _;rfl
   | succ m ih=>
    intro hm
    rw[aS8,aT2,aT2,ih (by exists 2,0x1001180a08,hm)]
    congr 1
    show(match vs[((vs.length:Int)-1 + -1*(m:Int)).toNat]? with | none=>[] | some b=>[b])=(match vs[vs.length-1-m]? with | none=>[] | some b=>[b])
    rw[show((vs.length:Int)-1 + -1*(m:Int)).toNat=vs.length-1-m by omega]
  exact this _ (aA9 _)
def D0(l m:List Int):ĭ l++ĭ m=ĭ (l++m):=(aP0 ..).symm
def yA{w:aB9}{x2 made kd at_ two one:Int}{tx:List Int}{tl hd rs p q M L:List AV}{R:St->Prop}:BG (ws (ħ w) Bf 25).A (Ak vR) (.ref 1) ⟨cT x2 made kd at_ two one tx tl hd rs p q [("clear",.ref 0)],[(0,.list M),(1,.list L)],2,0⟩ R=R ⟨(dS x2 made kd at_ two one tx tl hd [("rest",.lst rs),("drop",.ref 1),("turned",.lst p),("middle",.lst q),("clear",.ref 0)]).ρ,[(0,.list M),(1,.list L)],2,0⟩:=by rfl'
def xE:aE7:=Ex.getD 6 (.Pass AM)
section
variable{w:aB9}{tx:List Int}{hd md rs dr nw:List AV}{K:ſ}{σ:St}{R:Bool->St->Prop}
abbrev ŉ(tx:List Int)(hd rs dr md:List AV)(r:List (Str×AV)):St:=⟨("text",.lst (ĭ tx))::("head",.lst hd)::("rest",.lst rs)::("drop",.lst dr)::("middle",.lst md)::r,[],0,0⟩
def bM:kD w K .next σ =∃τ,Ac σ τ/\Ō w 30 xE τ (Ĭ (ħ w) (Ō w 30) (Ex.drop 7) K):=by rfl'
def eU:Ō w 30 xE (ŉ tx hd rs dr md []) (Ĭ (ħ w) (Ō w 30) (Ex.drop 7) K)=(AE (hd.length+md.length)/\AE ((hd++md).length+rs.length)/\wL (ħ w) (Ō w 30) (Ex.drop 7) (ŉ tx hd rs dr md [("new",.lst (hd++md++rs))]) K):=by rfl'
def bL:wL (ħ w) (Ō w 30) (Ex.drop 7) (ŉ tx hd rs dr md [("new",.lst nw)]) K=Ab (DT (ŉ tx hd rs dr md [("new",.lst nw)]) (.lst nw) (.lst (ĭ tx))) λr=>An r (K (.ret (.tup [.lst nw,.lst []])) (ŉ tx hd rs dr md [("new",.lst nw)])) (wL (ħ w) (Ō w 30) (Ex.drop 8) (ŉ tx hd rs dr md [("new",.lst nw)]) K):=by rfl'
def ų:Expr:=(ZY ((Tu (r8 (Ex.getD 8 (.Pass AM)))).getD 1 Jt)).2
abbrev K8(w:aB9)(nw dr:List AV)(K:ſ):AV->St->Prop:=λb σ=>FL .Add (.lst dr) b σ λv σ=>K (.ret (.tup [.lst nw,v])) σ
def aJ:wL (ħ w) (Ō w 30) (Ex.drop 8) (ŉ tx hd rs dr md [("new",.lst nw)]) K=(ws (ħ w) Bf 26).B (Sy ų).1 (ŉ tx hd rs dr md [("new",.lst nw)]) λc σ=>An c ((ws (ħ w) Bf 26).E (Sy ų).2.1 σ (K8 w nw dr K)) ((ws (ħ w) Bf 26).E (Sy ų).2.2 σ (K8 w nw dr K)):=by rfl'
def eA:(ws (ħ w) Bf 26).B (Sy ų).1 (ŉ tx hd rs dr md [("new",.lst nw)]) R=BE GR [.lst rs] (ŉ tx hd rs dr md [("new",.lst nw)]) λu σ=>Cm .Eq u (.int 0) σ λb σ=>CV b σ R:=by rfl'
def a8{r:Bool}:An r ((ws (ħ w) Bf 26).E (Sy ų).2.1 (ŉ tx hd rs dr md [("new",.lst nw)]) (K8 w nw dr K)) ((ws (ħ w) Bf 26).E (Sy ų).2.2 (ŉ tx hd rs dr md [("new",.lst nw)]) (K8 w nw dr K))=An r (AE (dr.length+rs.length)/\K (.ret (.tup [.lst nw,.lst (dr++rs)])) (ŉ tx hd rs dr md [("new",.lst nw)])) (AE (dr.length+0)/\K (.ret (.tup [.lst nw,.lst (dr++[])])) (ŉ tx hd rs dr md [("new",.lst nw)])):=by rfl'
end
end Mine
end
namespace Mine
section
variable{la lb:List Int}
def IH(la lb:List Int)(i j:Nat):Prop:=∃x,la[i]?=some x/\lb[j]?=some x
def L3(i j i' j':Nat):Prop:=i<i'/\j<j'
def Tq(bs:List BN)(i j:Nat):Prop:=∃b∈bs,∃d,d<b.2.2/\i=b.1+d/\j=b.2.1+d
def Dg.cmn{i j:Nat}(h:Dg la lb i j):IH la lb i j:=h.imp λ_ q=>⟨q.1,q.2.1⟩
def Cy.cmn{i j:Nat}(h:Cy la lb i j):IH la lb i j:=h.imp λ_ q=>⟨q.1,q.2.1⟩
structure sD(la lb:List Int)(D:Nat->Nat->Prop)(i j ri rj rk:Nat):Prop where
 pos:0<rk
 all :∀t,t<rk->D (ri+t) (rj+t)/\Dg la lb (ri+t) (rj+t)/\¬ L3 i j (ri+t) (rj+t)/\¬ L3 (ri+t) (rj+t) i j
 big :∀si sj sk d,d<sk->i=si+d->j=sj+d->(∀t,t<sk->Dg la lb (si+t) (sj+t))->sk<rk\/(sk=rk/\ri<si)
inductive ZT(la lb:List Int)(alo ahi blo bhi i j:Nat):Prop
 | self (h:Dg la lb i j)
 | right (t:Nat) (h :∀s,s<t->Cy la lb (i+s) (j+s)) (e:Dg la lb (i+t) (j+t)) (a:i+t<ahi) (b:j+t<bhi)
 | left (t:Nat) (a:alo+t<=i) (b:blo+t<=j) (h :∀s,s<t->Cy la lb (i-s) (j-s)) (e:Dg la lb (i-t) (j-t))
 | start (t:Nat) (a:i=alo+t) (b:j=blo+t) (h :∀s,s<=t->Cy la lb (alo+s) (blo+s))
variable{D:Nat->Nat->Prop}
theorem Iz(cl :∀i j,D i j->IH la lb (i+1) (j+1)->D (i+1) (j+1)){i j:Nat}(h:D i j) :∀t,(∀s,s<=t->0<s->IH la lb (i+s) (j+s))->D (i+t) (j+t)
 | 0,_=>h
 | t+1,c=>cl _ _ (Iz cl h t λs hs=>c s (aI0 hs)) (c (t+1) (aA9 _) (aV3 _))
theorem Jr(cd :∀i j,D (i+1) (j+1)->IH la lb i j->D i j){i j:Nat} :∀t,D (i+t) (j+t)->(∀s,s<t->IH la lb (i+s) (j+s))->D i j
 | 0,h,_=>h
 | t+1,h,c=>Jr cd t (cd _ _ h (c t (aC2 t))) λs hs=>c s (aG5 hs)
def GU.keep(h2 :∀i j i' j',D i j->D i' j'->L3 i j i' j'\/(i=i'/\j=j')\/L3 i' j' i j)
  (cl :∀i j,D i j->IH la lb (i+1) (j+1)->D (i+1) (j+1)) (cd :∀i j,D (i+1) (j+1)->IH la lb i j->D i j)
  {alo ahi blo bhi:Nat} {bs:List BN} (r:GU la lb alo ahi blo bhi bs):(Cy la lb alo blo->D alo blo)->(∀i j,alo<=i->i<ahi->blo<=j->j<bhi->Dg la lb i j->¬ D i j->∃ri rj rk,sD la lb D i j ri rj rk/\alo<=ri/\ri+rk<=ahi/\blo<=rj/\rj+rk<=bhi)->
  (∀i j,Tq bs i j->D i j)/\∀i j,alo<=i->i<ahi->blo<=j->j<bhi->D i j->ZT la lb alo ahi blo bhi i j->Tq bs i j:=by
 induction r with
 | @zero alo ahi blo bhi ū j0 h=>
  intro _ _
  refine⟨λi j ⟨b,hb,_⟩=>(nomatch hb),λi j a b c d _ an=>?_⟩
  obtain⟨⟨c0,l,r,h1,h3,ō,Ξ⟩,Ť,h7,h8,h9⟩:=h
  obtain rfl:c0=0:=by exists 3,0x812210aa0828,h3
  obtain rfl:l=0:=by exists 2,0x8021080aa0828,h3
  obtain⟨e1,e2⟩:=h1.zero rfl
  have no :∀i j,alo<=i->i<ahi->blo<=j->j<bhi->¬ Dg la lb i j:=λi j a b c d e=>by
   have:=h1.max i j 1 ⟨a,c,b,d,λt ht=>by rw[aZ6.mp ht];exact J6.mpr e⟩
   exists 0,0xa081808,this
  cases an with
  | self h=>exact(no i j a b c d h).elim
  | right t h e x y=>exact(no _ _ (by exists 3,0x21a001008,a) x (by exists 3,0x21a001008,c) y e).elim
  | left t x y h e=>exact(no _ _ (by exists 3,0x12b00210a08,x) (by exists 3,0x120b11018,b) (by exists 3,0x12b00210a08,y) (by exists 3,0x120b11018,d) e).elim
  | start t x y h=>
   have:=h 0 (aC7 _)
   rw[<-e1,<-e2]at this
   exact(h9 (by exists 4,0x2083a10083a2821181008,a,b,e1) (by exists 4,0x2083a10083a2821181008,c,d,e2) this).elim
 | @step alo ahi blo bhi ū j0 k L R h hk lr r ihl ihr=>
  intro hs hw
  obtain⟨s1,s2,s3,s4,-⟩:=h.str
  have hC :∀d,d<k->D (ū+d) (j0+d):=by
   obtain⟨⟨c,l,r,h1,h3,ō,Ξ⟩,-,-,-,-⟩:=h
   by_cases hc:c=0
   ·subst hc
    obtain⟨e1,e2⟩:=h1.zero rfl
    obtain rfl:l=0:=by exists 3,0x822021a281008,s1,e1
    obtain rfl:ū=alo:=e1
    obtain rfl:j0=blo:=e2
    have d0:D ū j0:=hs (Ξ 0 (by exists 2,0x108110808aa02800818,hk,h3))
    exact λd hd=>Iz cl d0 d λs s1 _=>(Ξ s (by exists 4,0x1312308021810808aa028,h3,hd,s1)).cmn
   ·obtain⟨t1,t2,t3,t4,t5⟩:=h1.str
    have hc5 :∀d,d<c->Dg la lb (ū+l+d) (j0+l+d):=λd hd=>J6.mp (t5 d hd)
    have k0:D (ū+l) (j0+l):=aG4 λhn=>by
     obtain⟨ri,rj,rk,ag,w1,Ł,w3,w4⟩:=hw _ _ t1 (by exists 6,0x230a1084298543aa128210a08,s3,h3,hc) t2 (by exists 6,0x230a1084298543aa128210a08,s4,h3,hc) (hc5 0 (by exists 1,0x81080298,hc)) hn
     have hm:=h1.max ri rj rk ⟨w1,w3,Ł,w4,λt ht=>J6.mpr (ag.all t ht).2.1⟩
     rcases ag.big (ū+l) (j0+l) c 0 (by exists 1,0x81080298,hc) rfl rfl hc5 with q | ⟨q,Ľ⟩
     ·exists 2,0xa01181008,hm,q
     ·subst q
      rcases h1.fst (by exists 1,0x81080298,hc) ri rj ⟨w1,w3,Ł,w4,λt ht=>J6.mpr (ag.all t ht).2.1⟩with q | q
      ·exists 3,0xa021a1821a018,Ľ,q
      ·exists 3,0xa021a2821a018,Ľ,q.1
    have all :∀d,d<k->IH la lb (ū+d) (j0+d):=λd hd=>by
     by_cases z:d<l
     ·exact(ō d z).cmn
     ·by_cases z2:d<l+c
      ·have:=hc5 (d-l) (by exists 3,0x210b121a01810198,z,z2)
       rw[show ū+l+(d-l)=ū+d by(exists 3,0x2a10b12aa210198,z),show j0+l+(d-l)=j0+d by exists 3,0x2a10b12aa210198,z]at this
       exact this.cmn
      ·have:=Ξ (d-l-c) (by exists 5,0x3214bb121a41980418321aa028,h3,hd,z2)
       rw[show ū+l+c+(d-l-c)=ū+d by(exists 4,0x3a210bb213aaa221a0198,z2),show j0+l+c+(d-l-c)=j0+d by exists 4,0x3a210bb213aaa221a0198,z2]at this
       exact this.cmn
    have d0:D ū j0:=Jr cd l k0 λs hs=>all s (by exists 5,0x411418321aa028,h3,hs)
    exact λd hd=>Iz cl d0 d λs s1 _=>all s (by exists 3,0x12102081018,hd,s1)
  have hf:D ū j0:=hC 0 hk
  have hl:=hC (k-1) (by exists 1,0x180b100818,hk)
  have hL:=ihl (λq=>hs q) λi j a b c d e hn=>by
   obtain⟨ri,rj,rk,ag,w1,Ł,w3,w4⟩:=hw i j a (by exists 4,0x2310318210a08,s3,b) c (by exists 4,0x2310318210a08,s4,d) e hn
   have g:=ag.all (rk-1) (by have:=ag.pos;exists 1,0x180b100818,this)
   have:=h2 _ _ _ _ g.1 hf
   have hp:=ag.pos
   have g2:=g.2.2.1
   unfold L3 at this g2
   exact⟨ri,rj,rk,ag,w1,by(exists 7,0x154a0185b6a31185b4a1163185b6a21185b4a2673185b6a11185b4a1678185b6a21185b4a0169832181018,b,d,g2,this),w3,by exists 7,0x356a0185b6a31185b4a1163185b6a21185b4a2673185b6a11185b4a1678185b6a21185b4a0169832181018,b,d,g2,this⟩
  have hR:=ihr (λq=>by
   have:=cl _ _ hl (by rw[show ū+(k-1)+1=ū+k by(exists 2,0x1a18180b1aa200818,hk),show j0+(k-1)+1=j0+k by exists 2,0x1a18180b1aa200818,hk];exact q.cmn)
   rw[show ū+(k-1)+1=ū+k by(exists 2,0x1a18180b1aa200818,hk),show j0+(k-1)+1=j0+k by exists 2,0x1a18180b1aa200818,hk]at this
   exact this) λi j a b c d e hn=>by
   obtain⟨ri,rj,rk,ag,w1,Ł,w3,w4⟩:=hw i j (by exists 4,0x300321a081008,s1,a) b (by exists 4,0x300321a081008,s2,c) d e hn
   have g:=ag.all 0 ag.pos
   have:=h2 _ _ _ _ g.1 hl
   have g2:=g.2.2.2
   unfold L3 at this g2
   exact⟨ri,rj,rk,ag,by(exists 7,0x510a0086a181b3a1085a181b0a16181b3a086a2181b0a085a267181b3a086a1181b0a085a16784086a12085a1698413a08210a08,a,c,g2,this),Ł,by(exists 7,0x613a0086a181b3a1085a181b0a16181b3a086a2181b0a085a267181b3a086a1181b0a085a16784086a12085a1698413a08210a08,a,c,g2,this),w4⟩
  refine⟨λi j ⟨x,hx,t,ht,e1,e2⟩=>?_,λi j a b c d hD an=>?_⟩
  ·rcases aC0.mp hx with hx' | hx'
   ·exact hL.1 i j ⟨x,hx',t,ht,e1,e2⟩
   ·rcases aD7.mp hx' with rfl | hx'
    ·rw[e1,e2];exact hC t ht
    ·exact hR.1 i j ⟨x,hx',t,ht,e1,e2⟩
  ·have p:=h2 _ _ _ _ hD hf
   have q:=h2 _ _ _ _ hD hl
   unfold L3 at p q
   have same :∀{x y:Nat},D x y->ū<=x->x<ū+k->y=j0+(x-ū):=λ{x y} hx h1 h3=>by
    have g:=h2 _ _ _ _ hx (hC (x-ū) (by exists 3,0x21b102a11800818,hk,h3))
    unfold L3 at g
    exists 4,0x1b3a22201b3a1101b0a1601b3a2201b0a126701b3a2101b0a116781008,h1,g
   by_cases z:i<ū
   ·have zj:j<j0:=by exists 4,0x3212310116322102673211016781018,z,p
    obtain⟨x,hx,q⟩:=hL.2 i j a z c zj hD (by
     cases an with
     | self h=>exact .self h
     | left t x y h e=>exact .left t x y h e
     | start t x y h=>exact .start t x y h
     | right t hj e x y=>
      have hDt :∀s,s<=t->D (i+s) (j+s):=λs hs=>Iz cl hD s λu hu _=>if hut:u<t then(hj u hut).cmn else(show u=t by exists 3,0x1221219802081008,hs,hu,hut)▸e.cmn
      by_cases z2:i+t<ū
      ·have g:=h2 _ _ _ _ (hDt t (aA9 t)) hf
       unfold L3 at g
       exact .right t hj e z2 (by exists 5,0x413a113a4110a216413a2210a267413a1210a1678210a18,z2,g)
      ·have e0:=same (hDt (ū-i) (by exists 3,0x102b0210a198,z2)) (by exists 2,0x10b1a00) (by exists 3,0x2a12b1a1211800818,hk,z)
       have hz:=hj (ū-i-1) (by exists 3,0x21801bb1120a1981018,z,z2)
       rw[show i+(ū-i-1)=ū-1 by(exists 2,0x181b1801bb0a21018,z),show j+(ū-i-1)=j0-1 by exists 4,0x183b1801bb2a2101b0ab3a01b2a281018,z,e0]at hz
       exact(h.ml (by exists 3,0x20121181008,a,z) (by exists 3,0x20121181008,c,zj) hz).elim)
    exact⟨x,aC0.mpr (.inl hx),q⟩
   ·by_cases z2:ū+k<=i
    ·have zj:j0+k<=j:=by exists 5,0x314a03181b4a12181b0a16181b4a32181b0a2267181b4a31181b0a21678210a08,z2,q
     have far :∀s,i=ū+k+s->(∀u,u<=s+1->IH la lb (i-u) (j-u))->Cy la lb (i-s) (j-s)->s+1<=j->False:=λs e hc hj hsj=>by
      have hDs:D (i-(s+1)) (j-(s+1)):=Jr cd (s+1) (by rw[show i-(s+1)+(s+1)=i by(exists 4,0x1183a183a1ba2302aa12800818,hk,e),show j-(s+1)+(s+1)=j by exists 2,0x1180a180a1ba21180a08,hsj];exact hD) λu hu=>by
       have:=hc (s+1-u) (by exists 2,0x180a1180ab0)
       rw[show i-(s+1-u)=i-(s+1)+u by(exists 5,0x4183a1ba4183ab1b2183a418302aa12800818,hk,e,hu),show j-(s+1-u)=j-(s+1)+u by exists 3,0x2180a1ba2180ab1b2180a2181180a08,hsj,hu]at this
       exact this
      have e0:=same hDs (by exists 4,0x183a1b20302aa12800818,hk,e) (by exists 4,0x2a183a1b1302aa12800818,hk,e)
      rw[show i-s=ū+k by(exists 4,0x21a30b2321aa028,e),show j-s=j0+k by exists 6,0x5a34b22183a1bb5a183a4b284183a08302aa12800818,hk,e,hsj,e0]at hj
      exact h.mr (by exists 4,0x132a1032a081018,b,z2) (by exists 4,0x132a1032a081018,d,zj) hj
     obtain⟨x,hx,q⟩:=hR.2 i j z2 b zj d hD (by
      cases an with
      | self h=>exact .self h
      | right t hj e x y=>exact .right t hj e x y
      | left t x y hj e=>
       by_cases ĳ:ū+k+t<=i
       ·by_cases z4:j0+k+t<=j
        ·exact .left t ĳ z4 hj e
        ·-- the row of kept pairs goes over the stretch's end in the second list alone
         have hDt:D (i-t) (j-t):=Jr cd t (by rw[show i-t+t=i by(exists 3,0x2112ba2210a08,x),show j-t+t=j by exists 3,0x2112ba2210a08,y];exact hD) λu hu=>by
          by_cases hu0:u=0
          ·rw[hu0];exact e.cmn
          ·have:=(hj (t-u) (by exists 5,0x343b10842982310aa098210a08,zj,z4,hu0)).cmn
           rw[show i-(t-u)=i-t+u by(exists 4,0x312ba31b2b21318210a08,x,hu),show j-(t-u)=j-t+u by exists 4,0x312ba31b2b21318210a08,y,hu]at this
           exact this
         rcases h2 _ _ _ _ hDt hl with⟨g1,g2⟩ | ⟨g1,g2⟩ | ⟨g1,g2⟩
         ·exact bO9 g1 (aM3.mpr (aA3 (aK2 (Nat.sub_le k 1) ū) (Nat.le_sub_of_add_le ĳ)))
         ·exact aA8 (ql [_,_,_,_] 0xa180b1a23b283201aa0800818 (by rfl') hk ĳ g1)
         ·exact aA8 (ql [_,_,_,_] 0xa23b181b0a183210aa098 (by rfl') z4 g2)
       ·refine(far (i-(ū+k)) (by exists 3,0x10a2b10aa22210a08,z2) (λu hu=>?_) (hj _ (by exists 4,0x310a2b12310aa098210a08,z2,ĳ)) (by exists 6,0x51810a2ba02410aa098543a08210a08,z2,y,ĳ)).elim
        by_cases hut:u<t
        ·exact(hj u hut).cmn
        ·rw[show u=t by exists 5,0x342341981810a2ba4082310aa098210a08,z2,ĳ,hu,hut];exact e.cmn
      | start t x y hj=>
       refine(far (i-(ū+k)) (by exists 3,0x10a2b10aa22210a08,z2) (λu hu=>?_) ?_ (by exists 7,0x51802a3ba046a52841a328302a08210800818,hk,s1,z2,x,y)).elim
       ·have:=(hj (t-u) (by exists 2,0x10b0)).cmn
        rw[show alo+(t-u)=i-u by(exists 6,0x53b54b1a21802a3ba50841a328302a08210800818,hk,s1,z2,x,hu),show blo+(t-u)=j-u by exists 8,0x75b74b6a21802a3ba70846a52841a328302a08210800818,hk,s1,z2,x,y,hu]at this
        exact this
       ·have:=hj (t-(i-(ū+k))) (by exists 4,0x32a1b0b0)
        rw[show alo+(t-(i-(ū+k)))=i-(i-(ū+k))by(exists 5,0x41a2b2b41a2b3b0a230a2281008,s1,x),show blo+(t-(i-(ū+k)))=j-(i-(ū+k))by exists 7,0x61a2b4b61a2b3b5a235a42830a2281008,s1,x,y]at this
        exact this)
     exact⟨x,aC0.mpr (.inr (aC9 _ hx)),q⟩
    ·exact⟨(ū,j0,k),aC0.mpr (.inr (aC6 ..)),i-ū,by show i-ū<k;exact id (ql [_,_,_] 0x12b1201a09800818 (by rfl') hk z2),by show i=ū+(i-ū);exact id (ql [_,_] 0x10b1a0210198 (by rfl') z),by show j=j0+(i-ū);exact same hD (by exists 2,0x1010198,z) (by exists 3,0x10a21210a098,z2)⟩
end
section
variable{la lb:List Int}{D:Nat->Nat->Prop}
def GU.kept(h1 :∀i j,D i j->IH la lb i j)(h2 :∀i j i' j',D i j->D i' j'->L3 i j i' j'\/(i=i'/\j=j')\/L3 i' j' i j)
  (cl :∀i j,D i j->IH la lb (i+1) (j+1)->D (i+1) (j+1)) (cd :∀i j,D (i+1) (j+1)->IH la lb i j->D i j) (st:Cy la lb 0 0->D 0 0)
  (h3 :∀i j,Dg la lb i j->¬ D i j->∃ri rj rk,sD la lb D i j ri rj rk) (Ξ :∀i j,D i j->ZT la lb 0 la.length 0 lb.length i j) {bs:List BN} (r:GU la lb 0 la.length 0 lb.length bs) :∀i j,Tq bs i j↔D i j:=by
 have bd :∀i j,IH la lb i j->i<la.length/\j<lb.length:=λi j ⟨x,e,f⟩=>⟨(aA5.mp e).1,(aA5.mp f).1⟩
 have k:=r.keep h2 cl cd st λi j _ _ _ _ e hn=>by
  obtain⟨ri,rj,rk,ag⟩:=h3 i j e hn
  have g:=bd _ _ (ag.all (rk-1) (by have:=ag.pos;exists 1,0x180b100818,this)).2.1.cmn
  have:=ag.pos
  exact⟨ri,rj,rk,ag,aC7 _,by(exists 3,0x210a02181b0a18,g.1),aC7 _,by exists 3,0x210a02181b0a18,g.2⟩
 exact λi j=>⟨k.1 i j,λhD=>have g:=bd _ _ (h1 _ _ hD);k.2 i j (aC7 _) g.1 (aC7 _) g.2 hD (Ξ i j hD)⟩
end
def Gs{l:List Int}{u k:Nat}(h :∀d,d<k->∃x,l[u+d]?=some x/\CM x=false):k<=AJ l:=by
 have go :∀(l:List Int) (s:Nat×Nat),(s.1<=(l.foldl EG s).1/\(∀k,(∀d,d<k->∃x,l[d]?=some x/\CM x=false)->0<k->s.2+k<=(l.foldl EG s).1))/\∀u k,(∀d,d<k->∃x,l[u+d]?=some x/\CM x=false)->k<=(l.foldl EG s).1:=by
  intro l
  induction l with
  | nil=>exact λs=>⟨⟨aA9 _,λk h hk=>by obtain⟨x,e,_⟩:=h 0 hk;cases e⟩,λu k h=>by
    cases k with
    | zero=>exact aC7 _
    | succ k=>obtain⟨x,e,_⟩:=h 0 (aV3 _);cases e⟩
  | cons a r ih=>
   intro s
   obtain⟨⟨i1,i2⟩,i3⟩:=ih (EG s a)
   have m1:s.1<=(EG s a).1:=Nat.le_max_left ..
   have m2:(EG s a).2<=(EG s a).1:=Nat.le_max_right ..
   have two :∀k,(∀d,d<k->∃x,(a::r)[d]?=some x/\CM x=false)->0<k->s.2+k<=(r.foldl EG (EG s a)).1:=λk h hk=>by
    obtain⟨x,e,j⟩:=h 0 hk
    cases e
    have c2:(EG s a).2=s.2+1:=by unfold EG;rw[j];rfl
    cases k with
    | zero=>cases hk
    | succ k=>
     by_cases hk0:k=0
     ·subst hk0;exists 4,0x11808a3a0183a22802081008,i1,m2,c2
     ·have:=i2 k (λd hd=>h (d+1) (Nat.succ_lt_succ hd)) (aI6 hk0)
      exists 4,0x3182a1a0320a08181a028,c2,this
   refine⟨⟨aA3 m1 i1,two⟩,λu k h=>?_⟩
   cases u with
   | zero=>
    by_cases hk:k=0
    ·rw[hk];exact aC7 _
    ·have:=two k (λd hd=>by have:=h d hd;rwa[aF3]at this) (aI6 hk)
     show k<=(r.foldl EG (EG s a)).1
     exact id (ql [_,_,_] 0x210210a08 (by rfl') this)
   | succ u=>
    refine i3 u k λd hd=>?_
    have:=h d hd
    rw[show u+1+d=(u+d)+1 by exists 2,0x1810aa1180aa2]at this
    exact this
 exact(go l (0,0)).2 u k h
def Hc(l:List Int) :∃u,∀d,d<AJ l->∃x,l[u+d]?=some x/\CM x=false:=by
 have go :∀(l p:List Int) (s:Nat×Nat),(s.2<=p.length/\∀d,d<s.2->∃x,p[p.length-s.2+d]?=some x/\CM x=false)->(∃u,∀d,d<s.1->∃x,p[u+d]?=some x/\CM x=false)->∃u,∀d,d<(l.foldl EG s).1->∃x,(p++l)[u+d]?=some x/\CM x=false:=by
  intro l
  induction l with
  | nil=>exact λp s _ h=>by rw[aF8];exact h
  | cons a r ih=>
   intro p s h1 h2
   have e:p++a::r=(p++[a])++r:=by rw[aL8];rfl
   have lp:(p++[a]).length=p.length+1:=aC3
   have up :∀{i:Nat} {x:Int},p[i]?=some x->(p++[a])[i]?=some x:=λ{i x} h=>by
    rw[aI4 (aA5.mp h).1];exact h
   have n1:(EG s a).2<=(p++[a]).length/\∀d,d<(EG s a).2->∃x,(p++[a])[(p++[a]).length-(EG s a).2+d]?=some x/\CM x=false:=by
    unfold EG
    cases j:CM a with
    | true=>exact⟨aC7 _,λd hd=>bO9 hd (aE6 d)⟩
    | false=>
     refine⟨by show s.2+1<=_;exact id (ql [_,_,_] 0x2180a0181a2281008 (by rfl') h1.1 lp),λd (hd:d<s.2+1)=>?_⟩
     show∃x,(p++[a])[(p++[a]).length-(s.2+1)+d]?=some x/\_
     by_cases z:d<s.2
     ·obtain⟨x,q1,Ľ⟩:=h1.2 d z
      exact⟨x,by rw[lp,show p.length+1-(s.2+1)+d=p.length-s.2+d by exists 3,0x210ba2181a180aba2];exact up q1,Ľ⟩
     ·refine⟨a,?_,j⟩
      rw[lp,show p.length+1-(s.2+1)+d=p.length by(exists 3,0x12180a181aba202198180a2181008,h1.1,hd,z),aJ2 (aA9 _),bD2];rfl
   rw[e]
   refine ih (p++[a]) (EG s a) n1 ?_
   rcases Nat.le_total (EG s a).2 s.1 with z | z
   ·obtain⟨u,hu⟩:=h2
    have:(EG s a).1=s.1:=Nat.max_eq_left z
    rw[this]
    exact⟨u,λd hd=>(hu d hd).imp λx q=>⟨up q.1,q.2⟩⟩
   ·have:(EG s a).1=(EG s a).2:=Nat.max_eq_right z
    rw[this]
    exact⟨_,n1.2⟩
 exact go l [] (0,0) ⟨aA9 _,λd hd=>bO9 hd (aE6 d)⟩ ⟨0,λd hd=>bO9 hd (aE6 d)⟩
noncomputable def Ci(made:Int)(m:Nat):List Int:=(aC8 m).map λ(k:Nat)=>made+(k:Int)
noncomputable def Bu(made:Int)(tx:List Int):List Int:=((aC8 made.toNat).map λ(k:Nat)=>(k:Int)).filter λl=>!decide (l∈tx)
def Ct(p q:List Int):List Int:=if AJ (q++p)=0 then q++p else if AJ q<=AJ p then q else p
def Fa(T:List Int):List Int:=T.filter λl=>!decide (l∈(T.filter λl=>!CM l).take 1)
def IT(kd x2 made:Int)(one two:Nat)(tx tl:List Int):List Int×List Int×List Int:=
 if kd=0 then(Ci made (min one (12-tx.length)),tl,[])
 else if kd=1 then([],tl.drop one,[])
 else if kd=2 then((tl.take (one+two)).drop one++tl.take one,tl.drop (one+two),Ct (tl.take one) ((tl.take (one+two)).drop one))
 else if kd=3 then((tl.take (one+two)).reverse,tl.drop (one+two),Fa (tl.take (one+two)))
 else(((Bu made tx).take (((x2.fdiv 16).fmod ((Bu made tx).length+1)).toNat+min one (12-tx.length))).drop ((x2.fdiv 16).fmod ((Bu made tx).length+1)).toNat,tl,[])
def Bv(tx hd:List Int)(m:List Int×List Int×List Int):List Int×List Int:=
 (hd++m.1++m.2.1,if hd++m.1++m.2.1=tx then []else m.2.2++if AJ m.2.1=0 then m.2.1 else [])
def DS(x:Int)(tx:List Int)(made:Int):List Int×List Int:=
 Bv tx (tx.take ((x.fdiv 5).fmod (tx.length+1)).toNat) (IT (x.fmod 5) ((x.fdiv 5).fdiv (tx.length+1)) made (1+((x.fdiv 5).fdiv (tx.length+1)).fmod 4).toNat (1+(((x.fdiv 5).fdiv (tx.length+1)).fdiv 4).fmod 4).toNat tx (tx.drop ((x.fdiv 5).fmod (tx.length+1)).toNat))
end Mine
section
open PySem PySem.W PyProof.Rows
namespace Mine
def Q2{α β:Type}(f:α->List β)(l:List α):(aC8 l.length).flatMap (λk=>(l[k]?).elim [] f)=l.flatMap f:=by
 induction l with
 | nil=>rfl
 | cons a r ih=>
  rw[bG1,List.range_succ_eq_map,aT8,aT8,<-ih,List.flatMap_map]
  rfl
def Uf(g:Int->Bool)(p:List Int):(p.flatMap λx=>bif g x then [AV.int x]else [])=ĭ (p.filter g):=by
 induction p with
 | nil=>rfl
 | cons a r ih=>
  rw[aT8,ih]
  cases h:g a with
  | true=>rw[aK9 h];rfl
  | false=>rw[aL0 (by rw[h];decide)];rfl
def Mu{p:List Int}{g:Int->Bool}{tn:AV->St->(St->Prop)->Prop}{xs:List Str}{ρ₀:List (Str×AV)}{H:List (Nat×AO)}{n a:Nat}{Q:AV->St->Prop}(I:List (Str×AV)->Prop)(h0:I (pick ρ₀ xs))(hs :∀ρ H' n',I ρ->ER ⟨ρ,H',n',a⟩ ⟨ρ₀,H,n,a⟩ xs)(hl:p.length<=100)
  (ht :∀x ρ L (K:St->Prop),I ρ->L.length<=1000000->(∀ρ',I ρ'->K ⟨ρ',Al H n (.list (L++bif g x then [.int x]else [])),n+1,a⟩)->tn (.int x) ⟨ρ,Al H n (.list L),n+1,a⟩ K)
  (q:Q (.ref n) ⟨ρ₀,Al H n (.list (ĭ (p.filter g))),n+1,a⟩):BC (.list []) (ĭ p) tn xs ⟨ρ₀,H,n,a⟩ Q:=by
 refine Dl (λk=>(p[k]?).elim [] λx=>bif g x then [AV.int x]else []) I h0 hs (aA3 (aB7 (AW p)) (aA3 hl (by decide))) (λk=>?_) (λk v hv ρ L K hI hL hK=>?_) ?_
 ·cases p[k]? with
  | none=>exact aC7 _
  | some x=>show(bif g x then [AV.int x]else []).length<=1;cases g x<;>first | exact aC7 _ | exact aA9 _
 ·obtain⟨x,hx,rfl⟩:=map_some ((aC5 ..).symm.trans hv)
  rw[hx]at hK
  exact ht x ρ L K hI hL hK
 ·rw[AW,Q2,Uf];exact q
def MR{α β:Type}(f:α->β)(l:List α):l.flatMap (λk=>[f k])=l.map f:=by
 induction l with
 | nil=>rfl
 | cons a r ih=>exact bO6 (f a :: ·) ih
def Px(made:Int)(m:Nat):(aC8 m).flatMap (λk:Nat=>[AV.int (made+(0+(k:Int)))])=ĭ (Ci made m):=by
 rw[MR]
 show _=aP9 _ (aP9 _ _)
 rw[aO2]
 exact List.map_congr_left λk _=>by show AV.int (made+(0+(k:Int)))=AV.int (made+(k:Int));rw[aL3]
def small{n:Nat}(h:n<=100):AE n:=aA3 h (by decide)
def l8:Bh c0.2.2=(["made"]:List Str)/\Bh c4.2.2=(["text"]:List Str)/\Bh c3.2.2=[]/\Bh Zm.2.2=(["clear"]:List Str):=⟨by rfl',by rfl',by rfl',by rfl'⟩
section
variable{w:aB9}{x x2 made kd at_:Int}{one two:Nat}{tx tl hd:List Int}{Q:AV->List Ob->Prop}{m:Nat}{ρ₀:List (Str×AV)}{R:AV->St->Prop}
def Su(hm:m<=100)(hk:ρ₀.lookup ("made":Str)=some (AV.int made))(h:R (.ref 0) ⟨ρ₀,[(0,.list (ĭ (Ci made m)))],1,0⟩):BC (.list []) (Ah 0 m) (Ej (ħ w) 27 Bf c0 0) (["made"]:List Str) ⟨ρ₀,[],0,0⟩ R:=by
 refine Dl (λk:Nat=>[AV.int (made+(0+(k:Int)))]) (λρ=>ρ=([("made",.int made)]:List (Str×AV))\/∃l:Int,ρ=([("made",.int made),("k",.int l)]:List (Str×AV))) (.inl ?_) (λρ H' n' hI=>?_) (aA3 (aB7 (AQ ..)) (aA3 hm (by decide))) (λ_=>aA9 _) (λk v hv ρ L K hI hL hK=>?_) ?_
 ·show(aD5 [] (λv=>[(("made":Str),v)]) (ρ₀.lookup ("made":Str)):List (Str×AV))=_
  rw[hk]
 ·refine⟨?_,trivial⟩
  show ρ.lookup ("made":Str)=ρ₀.lookup ("made":Str)
  rw[hk]
  exact hI.elim (λe=>e▸rfl) λq=>q.elim λl e=>e▸rfl
 ·have hk':=(aA5.mp hv).1
  rw[AQ]at hk'
  cases aA1 (hv.symm.trans (As hk'))
  have go:=hK _ (.inr ⟨0+(k:Int),rfl⟩)
  exact hI.elim (λe=>e▸y6.mpr (E4 hL go)) λq=>q.elim λl e=>e▸Æ.mpr (E4 hL go)
 ·rw[AQ,Px];exact h
def UP(tx:List Int)(l:List Nat):(l.flatMap λk:Nat=>bif decide ((k:Int)∈tx)then []else [AV.int (0+(k:Int))])=ĭ ((l.map λ(k:Nat)=>(k:Int)).filter λl=>!decide (l∈tx)):=by
 induction l with
 | nil=>rfl
 | cons a r ih=>
  rw[aT8,aM7,ih]
  cases h:decide ((a:Int)∈tx)with
  | true=>rw[aL0 (by rw[h];decide)];rfl
  | false=>rw[aK9 (by rw[h];rfl)];show AV.int (0+(a:Int))::_=AV.int (a:Int)::_;rw[aL3];rfl
def JV{k:Int}{tx:List Int}:decide (AB.int k∈tx.map AB.int)=decide (k∈tx):=decide_eq_decide.mpr ⟨λh=>(aM8.mp h).elim λa q=>AB.int.inj q.2▸q.1,λh=>bC6 h⟩
def U2(hm:made.toNat<=1000)(h1:made-0=made)(hk:ρ₀.lookup ("text":Str)=some (AV.lst (ĭ tx)))(h:R (.ref 0) ⟨ρ₀,[(0,.list (ĭ (Bu made tx)))],1,0⟩):BC (.list []) (Ah 0 (made-0).toNat) (Ej (ħ w) 24 Bf c4 0) (["text"]:List Str) ⟨ρ₀,[],0,0⟩ R:=by
 rw[h1]
 refine Dl (λk:Nat=>bif decide ((k:Int)∈tx)then []else [AV.int (0+(k:Int))]) (λρ=>ρ=([("text",.lst (ĭ tx))]:List (Str×AV))\/∃l:Int,ρ=([("text",.lst (ĭ tx)),("line",.int l)]:List (Str×AV))) (.inl ?_) (λρ H' n' hI=>?_) (aA3 (aB7 (AQ ..)) (aA3 hm (by decide))) (λk=>by cases decide ((k:Int)∈tx)with | true=>exact aC7 _ | false=>exact aA9 _) (λk v hv ρ L K hI hL hK=>?_) ?_
 ·show(aD5 [] (λv=>[(("text":Str),v)]) (ρ₀.lookup ("text":Str)):List (Str×AV))=_
  rw[hk]
 ·refine⟨?_,trivial⟩
  show ρ.lookup ("text":Str)=ρ₀.lookup ("text":Str)
  rw[hk]
  exact hI.elim (λe=>e▸rfl) λq=>q.elim λl e=>e▸rfl
 ·have hk':=(aA5.mp hv).1
  rw[AQ]at hk'
  cases aA1 (hv.symm.trans (As hk'))
  have go:=hK _ (.inr ⟨0+(k:Int),rfl⟩)
  have fin:(Ab (BQ (ĭ tx)) λks=>An (!decide (AB.int (0+(k:Int))∈ks)) (BO .append [.ref 0,.int (0+(k:Int))] ⟨[("text",.lst (ĭ tx)),("line",.int (0+(k:Int)))],Al [] 0 (.list L),1,0⟩ λ_ τ=>K τ) (K ⟨[("text",.lst (ĭ tx)),("line",.int (0+(k:Int)))],Al [] 0 (.list L),1,0⟩)):=by
   rw[E9]
   show An (!decide (AB.int (0+(k:Int))∈tx.map AB.int)) _ _
   rw[JV]
   rw[show decide ((0+(k:Int))∈tx)=decide ((k:Int)∈tx)from by rw[aL3]]
   cases hd:decide ((k:Int)∈tx)with
   | true=>rw[hd]at go;rw[show L++(bif true then []else [AV.int (0+(k:Int))])=L from aF8 L]at go;exact go
   | false=>rw[hd]at go;exact E4 hL go
  exact hI.elim (λe=>e▸ô.mpr fin) λq=>q.elim λl e=>e▸yX.mpr fin
 ·rw[AQ,UP];exact h
def R6{p:List Int}(hp:p.length<=100)(h:R (.ref 0) ⟨ρ₀,[(0,.list (ĭ (p.filter λl=>!CM l)))],1,0⟩):BC (.list []) (ĭ p) (Ej (ħ w) 24 Bf c3 0) [] ⟨ρ₀,[],0,0⟩ R:=by
 refine Mu (λρ=>ρ=[]\/∃l:Int,ρ=([("line",.int l)]:List (Str×AV))) (.inl rfl) (λ_ _ _ _=>trivial) hp (λx ρ L K hI hL hK=>?_) h
 have go:=hK _ (.inr ⟨x,rfl⟩)
 have fin:(3:Int)≠0/\An (!decide (AB.int (x.fmod 3)=AB.int 2)) (BO .append [.ref 0,.int x] ⟨[("line",.int x)],Al [] 0 (.list L),1,0⟩ λ_ τ=>K τ) (K ⟨[("line",.int x)],Al [] 0 (.list L),1,0⟩):=by
  refine⟨by decide,?_⟩
  rw[RI]
  cases j:CM x with
  | true=>rw[j]at go;rw[show L++(bif !true then [AV.int x]else [])=L from aF8 L]at go;exact go
  | false=>rw[j]at go;exact E4 hL go
 exact hI.elim (λe=>e▸(yG (ρ:=[])).mpr fin) λq=>q.elim λl e=>e▸zA.mpr fin
def Th{p c:List Int}(hp:p.length<=100)(hc:c.length<=100)(hk:ρ₀.lookup ("clear":Str)=some (AV.ref 0))(h:R (.ref 1) ⟨ρ₀,[(0,.list (ĭ c)),(1,.list (ĭ (p.filter λl=>!decide (l∈c.take 1))))],2,0⟩):BC (.list []) (ĭ p) (Ej (ħ w) 24 Bf Zm 1) (["clear"]:List Str) ⟨ρ₀,[(0,.list (ĭ c))],1,0⟩ R:=by
 refine Mu (λρ=>ρ=([("clear",.ref 0)]:List (Str×AV))\/∃l:Int,ρ=([("clear",.ref 0),("line",.int l)]:List (Str×AV))) (.inl ?_) (λρ H' n' hI=>?_) hp (λx ρ L K hI hL hK=>?_) h
 ·show(aD5 [] (λv=>[(("clear":Str),v)]) (ρ₀.lookup ("clear":Str)):List (Str×AV))=_
  rw[hk]
 ·refine⟨?_,trivial⟩
  show ρ.lookup ("clear":Str)=ρ₀.lookup ("clear":Str)
  rw[hk]
  exact hI.elim (λe=>e▸rfl) λq=>q.elim λl e=>e▸rfl
 have go:=hK _ (.inr ⟨x,rfl⟩)
 have fin:Le/\AE (ĭ c).length/\Ab (BQ (Ag (ĭ c) none (some 1) none)) λks=>An (!decide (AB.int x∈ks)) (BO .append [.ref 1,.int x] ⟨[("clear",.ref 0),("line",.int x)],[(0,.list (ĭ c)),(1,.list L)],2,0⟩ λ_ τ=>K τ) (K ⟨[("clear",.ref 0),("line",.int x)],[(0,.list (ĭ c)),(1,.list L)],2,0⟩):=by
  refine⟨λz=>(nomatch z),small ((AW c).symm▸hc),?_⟩
  rw[show Ag (ĭ c) none (some 1) none=ĭ (c.take 1)from(Gn (ĭ c) 1).trans (bJ5 ..).symm,E9]
  show An (!decide (AB.int x∈(c.take 1).map AB.int)) _ _
  rw[JV]
  cases hd:decide (x∈c.take 1)with
  | true=>rw[hd]at go;rw[show L++(bif !true then [AV.int x]else [])=L from aF8 L]at go;exact go
  | false=>rw[hd]at go;exact E4 (H:=[(0,.list (ĭ c))]) hL go
 exact hI.elim (λe=>e▸xW.mpr fin) λq=>q.elim λl e=>e▸Ć.mpr fin
end
def Hu{tr:Ŕ}{σ:St}{as:List AV}{Q:AV->St->Prop}(hr:BV as=[])(ha:AD nn as=some as)(h:tr as [] λr os'=>Q r σ):BE tr as σ Q:=by
 unfold BE
 refine .inl ?_
 unfold HN
 rw[hr,show AD (Kx []) as=some as from DX ha]
 exact⟨B6,h⟩
def Jq{l:List Int}{σ:St}{Q:AV->St->Prop}(h:Q (.int ((AJ l:Nat):Int)) σ):BE GR [.lst (ĭ l)] σ Q:=Hu rfl (AH (A0 l) rfl) ⟨l,rfl,rfl,h⟩
theorem NI :∀a b:List Int,EH (JN 8) (ĭ a) (ĭ b)=some (decide (a=b))
 | [],[]=>rfl
 | [],y::b=>rfl
 | x::a,[]=>rfl
 | x::a,y::b=>by
  show(JN 8 (.int x) (.int y)).bind (λc=>(EH (JN 8) (ĭ a) (ĭ b)).map (c && ·))=_
  rw[NI a b,show JN 8 (.int x) (.int y)=some (decide (AB.int x=AB.int y))from by rfl']
  show some (decide (AB.int x=AB.int y)&&decide (a=b))=_
  refine bO6 some (bC0.mpr ((aH6 _ _).to_iff.trans ⟨λh=>bP0 (by rw[AB.int.inj (bP2 h.1),bP2 h.2]),λh=>?_⟩))
  have:=bL3.inj (bP2 h)
  exact⟨bP0 (bO6 _ this.1),bP0 this.2⟩
def WD{σ:St}{a b:List Int}:DT σ (.lst (ĭ a)) (.lst (ĭ b))=some (decide (a=b)):=by
 show JA none (JA (EH (JN 8) (ĭ a) (ĭ b)) _)=_
 rw[NI];rfl
def Jl{n:Nat}{σ:St}{R:Bool->St->Prop}(h:R (decide (n=0)) σ):Cm .Eq (.int (n:Int)) (.int 0) σ λb σ=>CV b σ R:=by
 show R (decide (AB.int (n:Int)=AB.int 0)) σ
 rw[show decide (AB.int (n:Int)=AB.int 0)=decide (n=0)from decide_eq_decide.mpr ⟨λe=>aS9 (AB.int.inj e),λe=>by rw[e];rfl⟩]
 exact h
def CZ:Le:=λz=>nomatch z
def œ(l:List Int){n:Nat}(h:l.length<=n)(hn:n<=100:=by decide):AE (ĭ l).length:=small ((AW l).symm▸aA3 h hn)
def Tv{i j:Int}{p:Prop}(h:¬ AB.int i=AB.int j)(f:¬ i=j->p):p:=f λe=>h (bO6 AB.int e)
section
variable{w:aB9}{x x2 made kd at_:Int}{one two:Nat}{tx tl hd rs dr md:List Int}{Q:AV->List Ob->Prop}{σ:St}
def Ir{fz:List (Nat×AV)}{d m:AV}(ha:σ.anc=0)(hf:QB σ [] fz)(h1:σ.ρ.lookup ("text":Str)=some (.lst (ĭ tx)))(h2:σ.ρ.lookup ("head":Str)=some (.lst (ĭ hd)))(h3:σ.ρ.lookup ("rest":Str)=some (.lst (ĭ rs)))
  (ō:σ.ρ.lookup ("drop":Str)=some d) (Ī:d.sub (d6 [] fz)=some (.lst (ĭ dr))) (Ξ:σ.ρ.lookup ("middle":Str)=some m) (d5:m.sub (d6 [] fz)=some (.lst (ĭ md))):Ac σ (ŉ tx (ĭ hd) (ĭ rs) (ĭ dr) (ĭ md) []):=
 .re [] fz rfl (by rw[ha];rfl) ha.symm rfl hf (Bo h1 (AK _ _ (A0 tx)) (Bo h2 (AK _ _ (A0 hd)) (Bo h3 (AK _ _ (A0 rs)) (Bo ō Ī (Bo Ξ d5 Be))))) Bd
abbrev IK(p:List Int×List Int):AV:=.tup [.lst (ĭ p.1),.lst (ĭ p.2)]
def Ef(lh:hd.length<=12)(lm:md.length<=12)(lr:rs.length<=12)(ld:dr.length<=12)(hw:Ac σ (ŉ tx (ĭ hd) (ĭ rs) (ĭ dr) (ĭ md) []))(hq:Q (IK (Bv tx hd (md,rs,dr))) []):kD w (AG 0 Q) .next σ:=by
 have hs:(IK (Bv tx hd (md,rs,dr))).sub nn=some (IK (Bv tx hd (md,rs,dr))):=AR (AH (A0 _) (AH (A0 _) rfl))
 rw[bM]
 refine⟨_,hw,eU.mpr ⟨small (by rw[AW,AW];exists 2,0x64910a0c8108c8008,lh,lm),small (by rw[aC3,AW,AW,AW];exists 3,0x649210aa0c8208c8108c8008,lh,lm,lr),?_⟩⟩
 rw[D0,D0,bL,WD]
 refine Fu (λe=>?_) λe=>?_
 ·refine GP (fl:=.ret _) rfl (AR (AH (A0 _) (AH rfl rfl))) ?_
  have:Bv tx hd (md,rs,dr)=(hd++md++rs,[]):=by unfold Bv;rw[bO7 e]
  rw[this]at hq
  exact hq
 ·rw[aJ,eA]
  refine Jq (Jl ?_)
  rw[a8]
  have Ľ:Bv tx hd (md,rs,dr)=(hd++md++rs,dr++if AJ rs=0 then rs else []):=by unfold Bv;rw[bO8 e]
  rw[Ľ]at hq hs
  refine Fu (λz=>?_) λz=>?_
  ·rw[bO7 z]at hq hs
   rw[D0]
   exact⟨small (by rw[AW,AW];exists 2,0x64901a0c8108c8008,lr,ld),GP (fl:=.ret _) rfl hs hq⟩
  ·rw[bO8 z]at hq hs
   rw[show([]:List AV)=ĭ []from rfl,D0]
   exact⟨small (by rw[AW];exists 1,0x649080a0c8008,ld),GP (fl:=.ret _) rfl hs hq⟩
end
section
variable{w:aB9}{x x2 made kd at_:Int}{one two:Nat}{tx tl hd rs dr md:List Int}{Q:AV->List Ob->Prop}{σ:St}
def MZ(l:List Int)(k:Nat):Ag (ĭ l) none (some (k:Int)) none=ĭ (l.take k):=(Gn (ĭ l) k).trans (bJ5 ..).symm
def J4(l:List Int)(k:Nat):Ag (ĭ l) (some (k:Int)) none none=ĭ (l.drop k):=(M6 (ĭ l) k).trans (List.map_drop ..).symm
def E0(l:List Int)(j k:Nat):Ag (ĭ l) (some (j:Int)) (some (k:Int)) none=ĭ ((l.take k).drop j):=(MT (ĭ l) j k).trans ((bO6 (bN5 j) (bJ5 ..).symm).trans (List.map_drop ..).symm)
def iD(l:List Int):Ag (ĭ l) none none (some (-1))=ĭ l.reverse:=(GJ (ĭ l)).trans (bG2 ..).symm
def tS{a b:List Int}(ha:a.length<=12)(hb:b.length<=12):AE ((ĭ a).length+(ĭ b).length):=small (by rw[AW,AW];exists 2,0x64910a0c8108c8008,ha,hb)
def k0(ho:one<=4)(hx:tx.length<=12)(hh:hd.length<=12)(hl:tl.length<=12)(hq:Q (IK (Bv tx hd (Ci made (min one (12-tx.length)),tl,[]))) []) :
  wL (ħ w) (Ō w 29) (B4 kX) (dS x2 made kd at_ (two:Int) (one:Int) tx (ĭ tl) (ĭ hd) (rD (ĭ tl) [])) (kD w (AG 0 Q)):=by
 rw[d0,l8.1,AW]
 have e1:(min (one:Int) (12-(tx.length:Int))-0).toNat=min one (12-tx.length):=by exists 3,0x2c8b1d02080820fc8b10fdbe00f58,(aD6 _)
 refine⟨small (aA3 hx (by decide)),⟨by decide,by decide,by(exists 2,0xfc8b10fd0f424091f3c8008,hx),by exists 2,0xf4240910fc8b00fd3⟩,?_⟩
 rw[e1]
 have fl:(Ci made (min one (12-tx.length))).length=min one (12-tx.length):=(aB0 ..).trans aG6
 refine Su (aA3 (aS7 ..) (aA3 ho (by decide))) rfl (Ú.mpr (Ef hh (by rw[fl];exists 2,0xc81c8b0d0) hl (aC7 _) ?_ hq))
 exact Ir (fz:=[(0,.lst (ĭ (Ci made (min one (12-tx.length)))))]) rfl (Aq rfl rfl rfl (A0 _) Bc) rfl rfl rfl rfl rfl rfl rfl
def ľ(hh:hd.length<=12)(hl:tl.length<=12)(hq:Q (IK (Bv tx hd ([],tl.drop one,[]))) []) :
  wL (ħ w) (Ō w 28) (B4 Zg) (dS x2 made kd at_ (two:Int) (one:Int) tx (ĭ tl) (ĭ hd) (rD (ĭ tl) [])) (kD w (AG 0 Q)):=by
 rw[d1,J4]
 exact⟨CZ,œ tl hl,rfl,Ef hh (aC7 _) (by rw[aJ1];exists 2,0xc810b0c8008,hl) (aC7 _) (Ir (fz:=[]) rfl Bc rfl rfl rfl rfl rfl rfl rfl) hq⟩
def k2(hh:hd.length<=12)(hl:tl.length<=12)(hq:Q (IK (Bv tx hd ((tl.take (one+two)).drop one++tl.take one,tl.drop (one+two),Ct (tl.take one) ((tl.take (one+two)).drop one)))) []) :
  wL (ħ w) (Ō w 27) (B4 L5) (dS x2 made kd at_ (two:Int) (one:Int) tx (ĭ tl) (ĭ hd) (rD (ĭ tl) [])) (kD w (AG 0 Q)):=by
 rw[d2,show((one:Int)+(two:Int))=((one+two:Nat):Int)from rfl,MZ,J4,E0]
 refine⟨CZ,œ tl hl,CZ,œ tl hl,CZ,œ tl hl,rfl,?_⟩
 have lp:(tl.take one).length<=12:=by rw[aG2];exists 2,0xc801d0c8008,hl
 have lq:((tl.take (one+two)).drop one).length<=12:=by rw[aJ1,aG2];exists 3,0xc81021adb0c8008,hl
 have lm:((tl.take (one+two)).drop one++tl.take one).length<=12:=by rw[aC3,aJ1,aG2,aG2];exists 3,0xc801d1021adba0c8008,hl
 have lr:(tl.drop (one+two)).length<=12:=by rw[aJ1];exists 3,0xc821a0b0c8008,hl
 generalize tl.take one=p at *
 generalize (tl.take (one+two)).drop one=q at *
 generalize tl.drop (one+two)=rs at *
 rw[ë,D0,yO]
 refine⟨tS lq lp,Jq ?_⟩
 rw[Í]
 refine Jq ?_
 have fin :∀dr:List Int,(if AJ q<=AJ p then q else p)=dr->dr.length<=12->wL (ħ w) (Ō w 27) ((B4 L5).drop 3) (Nf x2 made kd at_ (two:Int) (one:Int) tx (ĭ tl) (ĭ hd) (ĭ rs) (ĭ dr) (ĭ p) (ĭ q) (ĭ (q++p))) (kD w (AG 0 Q)):=λdr ed hd'=>by
  rw[xT]
  refine Jq (Jl (Fu (λz=>?_) λz=>?_))
  ·rw[yP]
   have e:Ct p q=q++p:=by unfold Ct;rw[bO7 z]
   rw[e]at hq
   refine I9 (P':=ħ w) (S':=Ō w 27) rfl ?_
   rw[EN]
   exact Ef hh lm lr lm (Ir (fz:=[]) rfl Bc rfl rfl rfl rfl (AK _ _ (A0 _)) rfl (AK _ _ (A0 _))) hq
  ·have e:Ct p q=dr:=by unfold Ct;rw[bO8 z,ed]
   rw[e]at hq
   exact Ef hh lm lr hd' (Ir (fz:=[]) rfl Bc rfl rfl rfl rfl (AK _ _ (A0 _)) rfl (AK _ _ (A0 _))) hq
 show R2 w (kD w (AG 0 Q)) (decide (((AJ q:Nat):Int)<=((AJ p:Nat):Int))) _
 by_cases h:AJ q<=AJ p
 ·rw[bP0 (aM2.mpr h),v4.1]
  exact fin q (bO7 h) lq
 ·rw[bP1 λz=>h (aM2.mp z),v4.2]
  exact fin p (bO8 h) lp
def k3(hh:hd.length<=12)(hl:tl.length<=12)(hq:Q (IK (Bv tx hd ((tl.take (one+two)).reverse,tl.drop (one+two),Fa (tl.take (one+two))))) []) :
  wL (ħ w) (Ō w 26) (B4 Js) (dS x2 made kd at_ (two:Int) (one:Int) tx (ĭ tl) (ĭ hd) (rD (ĭ tl) [])) (kD w (AG 0 Q)):=by
 rw[ň,show((one:Int)+(two:Int))=((one+two:Nat):Int)from rfl,MZ,J4]
 refine⟨CZ,œ tl hl,CZ,œ tl hl,rfl,?_⟩
 have lp:(tl.take (one+two)).length<=12:=by rw[aG2];exists 3,0xc8021ad0c8008,hl
 have lr:(tl.drop (one+two)).length<=12:=by rw[aJ1];exists 3,0xc821a0b0c8008,hl
 generalize tl.take (one+two)=p at *
 generalize tl.drop (one+two)=rs at *
 have lp':p.length<=100:=aA3 lp (by decide)
 rw[Ì,iD,l8.2.2.1]
 refine⟨by decide,œ p lp,CB p,R6 lp' (Ĉ.mpr (xS.mpr ⟨CB p,?_⟩))⟩
 rw[l8.2.2.2]
 refine Th (c:=p.filter λl=>!CM l) lp' (aA3 (aQ1 ..) lp') rfl (yA.mpr (Ef hh (by rw[aN3];exact lp) lr (aA3 (aQ1 ..) lp) ?_ hq))
 exact Ir (fz:=[(0,.lst (ĭ (p.filter λl=>!CM l))),(1,.lst (ĭ (p.filter λl=>!decide (l∈(p.filter λl=>!CM l).take 1))))]) rfl (Aq rfl rfl rfl (A0 _) (Aq rfl rfl rfl (A0 _) Bc)) rfl rfl rfl rfl rfl rfl (AK _ _ (A0 _))
def k4(ho:one<=4)(hx:tx.length<=12)(hh:hd.length<=12)(hl:tl.length<=12)(hm:0<=made/\made<=1000)(hq:Q (IK (Bv tx hd (((Bu made tx).take (((x2.fdiv 16).fmod ((Bu made tx).length+1)).toNat+min one (12-tx.length))).drop ((x2.fdiv 16).fmod ((Bu made tx).length+1)).toNat,tl,[]))) []) :
  wL (ħ w) (Ō w 26) (F6 Js) (dS x2 made kd at_ (two:Int) (one:Int) tx (ĭ tl) (ĭ hd) (rD (ĭ tl) [])) (kD w (AG 0 Q)):=by
 rw[Ī,l8.2.1]
 refine⟨⟨by decide,by decide,by(exists[],[_],0xf424091f300838,hm.1),by exists[],[_],0xf42409030003e89038,hm.2⟩,U2 (by exists[_],[_],0x3e8900080e00f580003e89038,hm.2,(aD6 _)) (Int.sub_zero _) rfl ?_⟩
 rw[Č,û,AW]
 have lo:(Bu made tx).length<=1000:=aA3 (aQ1 ..) (aA3 (aB7 ((aB0 ..).trans aG6)) (by exists[_],[_],0x3e8900080e00f580003e89038,hm.2,(aD6 _)))
 have hn0:(0:Int)<=(x2.fdiv 16).fmod (((Bu made tx).length:Int)+1):=aS3 _ (by exists 1,0x1800fa084)
 refine⟨by decide,aS4 (by decide),aA3 lo (by decide),by(exists 1,0x81800fa59),?_⟩
 rw[Þ,AW,AW]
 generalize hn:(x2.fdiv 16).fmod (((Bu made tx).length:Int)+1)=n at hq hn0 ⊢
 have en:n=(n.toNat:Int):=by exists[_],[_],0xf05080e00f5800838,hn0,(aD6 _)
 have em:n+min (one:Int) (12-(tx.length:Int))=((n.toNat+min one (12-tx.length):Nat):Int):=by exists[_,_,_],[_],0xc8b2d1a0f00fc8b20fd0a510f058c8008,hx,en
 rw[em]
 generalize n.toNat=j at hq em en ⊢
 rw[en,E0]
 have lx:(bN5 j (List.take (j+min one (12-tx.length)) (Bu made tx))).length<=12:=by rw[aJ1,aG2];exists 4,0xc8032c8b1d0adb0
 refine⟨small (aA3 hx (by decide)),CZ,aA3 lo (by decide),Ef hh lx hl (aC7 _) ?_ hq⟩
 exact Ir (fz:=[]) rfl Bc rfl rfl rfl rfl rfl rfl (AK _ _ (A0 _))
def R0(ho:one<=4)(hx:tx.length<=12)(hh:hd.length<=12)(hl:tl.length<=12)(hm:0<=made/\made<=1000)(hq:Q (IK (Bv tx hd (IT kd x2 made one two tx tl))) []) :
  wL (ħ w) (Ō w 30) (Ex.drop 5) (dS x2 made kd at_ (two:Int) (one:Int) tx (ĭ tl) (ĭ hd) (rD (ĭ tl) [])) (AG 0 Q):=by
 have h:=cA (w:=w) (K:=AG 0 Q) (σ:=dS x2 made kd at_ (two:Int) (one:Int) tx (ĭ tl) (ĭ hd) (rD (ĭ tl) [])) rfl
 unfold IT at hq
 rw[h.1]
 refine Fu (λe=>?_) λe0=>Tv e0 λe0=>?_
 ·rw[bO7 (AB.int.inj e)]at hq
  exact k0 ho hx hh hl hq
 rw[bO8 e0]at hq
 rw[h.2.1]
 refine Fu (λe=>?_) λe1=>Tv e1 λe1=>?_
 ·rw[bO7 (AB.int.inj e)]at hq
  exact ľ hh hl hq
 rw[bO8 e1]at hq
 rw[h.2.2.1]
 refine Fu (λe=>?_) λe2=>Tv e2 λe2=>?_
 ·rw[bO7 (AB.int.inj e)]at hq
  exact k2 hh hl hq
 rw[bO8 e2]at hq
 rw[h.2.2.2]
 refine Fu (λe=>?_) λe3=>Tv e3 λe3=>?_
 ·rw[bO7 (AB.int.inj e)]at hq
  exact k3 hh hl hq
 rw[bO8 e3]at hq
 exact k4 ho hx hh hl hm hq
end
def NE:Ŕ:=λas os Q=>∃(x:Int) (tx:List Int) (made:Int),as=[.int x,.lst (ĭ tx),.int made]/\os=[]/\tx.length<=12/\(0<=made/\made<=1000)/\Q (IK (DS x tx made)) []
def Ő{w:aB9}{d:Nat}:LP (lF w) (H0 w.params) (ħ w) (d+1) ļ L4 aM KQ aI:=
 Sz (λf t e=>BF (b:=aD0 f 253) (x:=some GR) (y:=none) e (λq e=>aB4 q▸aA1 e▸RV (d:=d)) AA) (λe=>nomatch e) (λe=>nomatch e) (λ_ e=>nomatch e)
def Uv{w:aB9}{d:Nat}:BP (lF w) (H0 w.params) (d+3) (.ref 258) NE:=
 Pf Ő (Sm _).2.2 (Sm _).1 (Sm _).2.1 (ps:=["x","text","made"]) (fuel:=30) (by decide) (by rfl') (Sd λa b c=>by rfl') λas os Q hh=>by
  obtain⟨x,tx,made,ea,eo,hx,hm,hq⟩:=hh
  subst ea;subst eo
  refine⟨⟨rfl,B6⟩,sX.mpr ?_⟩
  rw[AW]
  have hn:AE tx.length:=small (aA3 hx (by decide))
  have h1:((tx.length:Int)+1)≠0:=by exists 1,0x81800fa59
  have hz:=λi:Int=>aS3 i (by decide:(0:Int)<4)
  have hz2:=λi:Int=>Int.fmod_lt_of_pos i (by decide:(0:Int)<4)
  have hat:(0:Int)<=(x.fdiv 5).fmod ((tx.length:Int)+1):=aS3 _ (by exists 1,0x1800fa084)
  refine⟨by decide,by decide,aS4 (by decide),rfl,hn,h1,hn,h1,aS4 (by omega),rfl,by decide,by decide,aS4 (by decide),by decide,rfl,CZ,hn,CZ,hn,rfl,rfl,?_⟩
  unfold DS at hq
  generalize (x.fdiv 5).fmod ((tx.length:Int)+1)=at_ at hq hat ⊢
  generalize (x.fdiv 5).fdiv ((tx.length:Int)+1)=x2 at hq ⊢
  have ho:=hz x2;have ho2:=hz2 x2;have hw:=hz (x2.fdiv 4);have hw2:=hz2 (x2.fdiv 4)
  generalize x2.fmod 4=o at hq ho ho2 ⊢
  generalize (x2.fdiv 4).fmod 4=t at hq hw hw2 ⊢
  have ea:at_=(at_.toNat:Int):=by exists[_],[_],0xf05080e00f5800838,hat,(aD6 _)
  have eo:1+o=((1+o).toNat:Int):=by exists[_],[_],0xf018a508018ae00f5800838,ho,(aD6 _)
  have et:1+t=((1+t).toNat:Int):=by exists[_],[_],0xf018a508018ae00f5800838,hw,(aD6 _)
  have lo:(1+o).toNat<=4:=by exists[_],[_],0x480000f018a5848048,ho2,eo
  generalize (1+o).toNat=one at hq eo lo
  generalize (1+t).toNat=two at hq et
  generalize at_.toNat=n at hq ea
  rw[eo,et,ea,MZ,J4]
  exact R0 lo hx (by rw[aG2];exists 2,0xc801d0c8008,hx) (by rw[aJ1];exists 2,0xc810b0c8008,hx) hm hq
def FG:List aE7:=(Bz pw.main.body "_law_blocks").1
def El:Scope:=(Bz pw.main.body "_law_blocks").2
def QH(P:aD3):(CJ P 263).body = .stmts FG/\(CJ P 263).scope=El/\Av P 263=true:=⟨by rfl',by rfl',by rfl'⟩
noncomputable def Yu:Pos->Bool:=λp=>!aD0 p.line 455
noncomputable def dC:Pos->Bool:=λp=>aD0 p.line 463
abbrev ŕ(w:aB9):Pm:=Qk w.params (λ_=>none) none false false Yu dC
abbrev SB(w:aB9)(f:Nat):ĥ:=EI (ŕ w) El f
def Ĵ:Expr×List aE7:=Cp (FG.getD 1 (.Pass AM))
def YO(w:aB9):AV->St->ſ->Prop:=λv σ K=>(ws (ŕ w) El 29).A Ĵ.1 v σ λσ=>wL (ŕ w) (SB w 29) Ĵ.2 σ K
abbrev Ż(tl:List AV)(W N:List Int)(i j:Int)(r:List (Str×AV)):List (Str×AV):=("told",.lst tl)::("old",.lst (ĭ W))::("new",.lst (ĭ N))::("j",.int j)::("i",.int i)::("blocks",.ref 0)::r
abbrev ř(tl:List AV)(W N:List Int)(bl:List AV)(i j:Int)(r:List (Str×AV)):St:=⟨Ż tl W N i j r,[(0,.list bl)],1,0⟩
section
variable{w:aB9}{W N:List Int}{tl bl:List AV}{i j a b k:Int}{K:ſ}{R:Bool->St->Prop}
def rK:wL (ŕ w) (SB w 30) FG (A7 [("told",.lst tl),("old",.lst (ĭ W)),("new",.lst (ĭ N))] []) K=(3=3/\AD nn tl=some tl/\Cc tl (YO w) (wL (ŕ w) (SB w 29) []) (ř tl W N [] 0 0 []) (Ĭ (ŕ w) (SB w 30) (FG.drop 2) K)):=by rfl'
abbrev KO(a b k:Int):List (Str×AV):=[("a",.int a),("b",.int b),("size",.int k)]
def ĸ(n:Nat):aE7:=Ĵ.2.getD n (.Pass AM)
def G3(s:aE7):Expr:=(Qv s).2.1
def iE:YO w (Km a b k) (ř tl W N bl i j []) K=(3=3/\(ws (ŕ w) El 28).B (G3 (ĸ 0)) (ř tl W N bl i j (KO a b k)) λc σ=>An c (wL (ŕ w) (SB w 28) (B4 (ĸ 0)) σ (Ĭ (ŕ w) (SB w 29) (Ĵ.2.drop 1) K)) (wL (ŕ w) (SB w 29) (Ĵ.2.drop 1) σ K)):=by rfl'
def dR:(ws (ŕ w) El 28).B (G3 (ĸ 0)) (ř tl W N bl i j (KO a b k)) R=An (decide (a<i)) (R true (ř tl W N bl i j (KO a b k))) (An (decide (b<j)) (R true (ř tl W N bl i j (KO a b k))) (Ab (DT (ř tl W N bl i j (KO a b k)) (.ref 0) (.lst [])) λr=>An (!r) (An (decide (AB.int a=AB.int i)&&(decide (AB.int b=AB.int j)&&([]:List AV).isEmpty)) (An (decide (0<k)) (R true (ř tl W N bl i j (KO a b k))) (R false (ř tl W N bl i j (KO a b k)))) (R false (ř tl W N bl i j (KO a b k)))) (R false (ř tl W N bl i j (KO a b k))))):=by rfl'
def fY:wL (ŕ w) (SB w 29) (Ĵ.2.drop 1) (ř tl W N bl i j (KO a b k)) K=(Le/\AE (ĭ W).length/\Le/\AE (ĭ N).length/\Ab (DT (ř tl W N bl i j (KO a b k)) (.lst (Ag (ĭ W) (some a) (some (a+k)) none)) (.lst (Ag (ĭ N) (some b) (some (b+k)) none))) λr=>An (!r) (wL (ŕ w) (SB w 28) (B4 (ĸ 1)) (ř tl W N bl i j (KO a b k)) (Ĭ (ŕ w) (SB w 29) (Ĵ.2.drop 2) K)) (wL (ŕ w) (SB w 29) (Ĵ.2.drop 2) (ř tl W N bl i j (KO a b k)) K)):=by rfl'
def fK:wL (ŕ w) (SB w 29) (Ĵ.2.drop 2) (ř tl W N bl i j (KO a b k)) K=(AE bl.length/\2=2/\K .next (ř tl W N (bl++[Cs a b k]) (a+k) (b+k) (KO a b k))):=by rfl'
def a7:aE7:=FG.getD 2 (.Pass AM)
def cE:CL:=Jd (Bl a7)
abbrev fS(W N:List Int)(bl:List AV)(r:List (Str×AV)):List (Str×AV):=("old",.lst (ĭ W))::("new",.lst (ĭ N))::("blocks",.lst bl)::r
def bA{σ:St}:wL (ŕ w) (SB w 30) (FG.drop 2) σ K =∃τ,Ac σ τ/\SB w 30 a7 τ (Ĭ (ŕ w) (SB w 30) (FG.drop 3) K):=by rfl'
def aK:SB w 30 a7 ⟨fS W N bl [],[],0,0⟩ (Ĭ (ŕ w) (SB w 30) (FG.drop 3) K)=(AD nn bl=some bl/\BC (.list []) bl (Ej (ŕ w) 28 El cE 0) (Bh cE.2.2) ⟨fS W N bl [],[],0,0⟩ λv σ=>BG (ws (ŕ w) El 29).A (Ak a7) v σ λσ=>wL (ŕ w) (SB w 30) (FG.drop 3) σ K):=by rfl'
abbrev ŋ(w:aB9):St->(St->Prop)->Prop:=Ni (ŕ w) (CQ cE.2.2 El) (Li (ŕ w) 28 (CQ cE.2.2 El)) (XJ cE.1 (Li (ŕ w) 28 (CQ cE.2.2 El)) 0) (cE.2.1.drop 1)
def aV{H:List (Nat×AO)}{m q:Nat}{R:St->Prop}:Ej (ŕ w) 28 El cE 0 (Cs a b k) ⟨[],H,m,q⟩ R=(Ar 2/\∃v,CD [.int a,.int b,.int k] 2=some v/\Cm .Eq v (.int 0) ⟨[("block",Cs a b k)],H,m,q⟩ λv σ=>CV v σ λb τ=>An b (ŋ w τ R) (R τ)):=by rfl'
def kK{u:AV}{H:List (Nat×AO)}{m q:Nat}{R:St->Prop}:Ej (ŕ w) 28 El cE 0 (Cs a b k) ⟨[("block",u)],H,m,q⟩ R=(Ar 2/\∃v,CD [.int a,.int b,.int k] 2=some v/\Cm .Eq v (.int 0) ⟨[("block",Cs a b k)],H,m,q⟩ λv σ=>CV v σ λb τ=>An b (ŋ w τ R) (R τ)):=by rfl'
def gH{H:List (Nat×AO)}{m q:Nat}{R:St->Prop}:ŋ w ⟨[("block",Cs a b k)],H,m,q⟩ R=BO .append [.ref 0,Cs a b k] ⟨[("block",Cs a b k)],H,m,q⟩ λ_ τ=>R τ:=by rfl'
def gX{M:List AV}{R:St->Prop}:BG (ws (ŕ w) El 29).A (Ak a7) (.ref 0) ⟨fS W N bl [],[(0,.list M)],1,0⟩ R=R ⟨fS W N bl [("empty",.ref 0)],[(0,.list M)],1,0⟩:=by rfl'
def tG:aE7:=FG.getD 3 (.Pass AM)
def kY{σ:St}:wL (ŕ w) (SB w 30) (FG.drop 3) σ K=(ws (ŕ w) El 29).B (G3 tG) σ λc σ=>An c (wL (ŕ w) (SB w 29) (B4 tG) σ (Ĭ (ŕ w) (SB w 30) (FG.drop 4) K)) (wL (ŕ w) (SB w 30) (FG.drop 4) σ K):=by rfl'
def lW{M:List AV}:(ws (ŕ w) El 29).B (G3 tG) ⟨fS W N bl [("empty",.ref 0)],[(0,.list M)],1,0⟩ R=(AE (ĭ W).length/\AE (ĭ N).length/\Ab (DT ⟨fS W N bl [("empty",.ref 0)],[(0,.list M)],1,0⟩ (.ref 0) (.lst [Cs (ĭ W).length (ĭ N).length 0])) λr=>An (!r) (R true ⟨fS W N bl [("empty",.ref 0)],[(0,.list M)],1,0⟩)
  (Ar (-1)/\∃u,CD bl (-1)=some u/\Ar 0/\∃v,CD M 0=some v/\Ab (DT ⟨fS W N bl [("empty",.ref 0)],[(0,.list M)],1,0⟩ u v) λr=>An (!r) (R true ⟨fS W N bl [("empty",.ref 0)],[(0,.list M)],1,0⟩) (R false ⟨fS W N bl [("empty",.ref 0)],[(0,.list M)],1,0⟩))):=by rfl'
def jR{M:List AV}:wL (ŕ w) (SB w 30) (FG.drop 4) ⟨fS W N bl [("empty",.ref 0)],[(0,.list M)],1,0⟩ K=K (.ret (.lst bl)) ⟨fS W N bl [("empty",.ref 0)],[(0,.list M)],1,0⟩:=by rfl'
end
end Mine
end
namespace Mine
structure Lw(W N:List Int)(ms:List BN):Prop where
 pos :∀b∈ms,0<b.2.2
 eq :∀b∈ms,b.1+b.2.2<=W.length/\b.2.1+b.2.2<=N.length/\(W.take (b.1+b.2.2)).drop b.1=(N.take (b.2.1+b.2.2)).drop b.2.1
 step :∀k b b',ms[k]?=some b->ms[k+1]?=some b'->b.1+b.2.2<=b'.1/\b.2.1+b.2.2<=b'.2.1/\¬ (b.1+b.2.2=b'.1/\b.2.1+b.2.2=b'.2.1)
noncomputable def BI(W N:List Int)(ms:List BN):List BN:=ms++[(W.length,N.length,0)]
noncomputable def Ez(l:List BN):Nat×Nat:=(l.getLast?).elim (0,0) λb=>(b.1+b.2.2,b.2.1+b.2.2)
def I3{l:List BN}{b:BN}:Ez (l++[b])=(b.1+b.2.2,b.2.1+b.2.2):=by
 unfold Ez
 rw[List.getLast?_concat];rfl
def I0{α:Type}{l:List α}{k:Nat}{x:α}(h:l[k]?=some x):l.take (k+1)=l.take k++[x]:=by rw[aY8,h];rfl
def Lw.at_{W N:List Int}{ms:List BN}(h:Lw W N ms){k:Nat}{b:BN}(e:(BI W N ms)[k]?=some b) :
  ((Ez ((BI W N ms).take k)).1<=b.1/\(Ez ((BI W N ms).take k)).2<=b.2.1)/\(k=0\/¬ (b.1=(Ez ((BI W N ms).take k)).1/\b.2.1=(Ez ((BI W N ms).take k)).2)\/b.2.2=0)/\(W.take (b.1+b.2.2)).drop b.1=(N.take (b.2.1+b.2.2)).drop b.2.1:=by
 have hb:(k<ms.length/\ms[k]?=some b)\/(k=ms.length/\b=(W.length,N.length,0)):=by
  unfold BI at e
  by_cases z:k<ms.length
  ·rw[aI4 z]at e
   exact .inl ⟨z,e⟩
  ·rw[aJ2 (aN5 z)]at e
   have:k-ms.length=0:=by
    cases q:k-ms.length with
    | zero=>rfl
    | succ n=>rw[q]at e;cases e
   rw[this]at e
   exact .inr ⟨by(exists 2,0x1020810b2810198,z,this),(aA1 e).symm⟩
 have hs:(W.take (b.1+b.2.2)).drop b.1=(N.take (b.2.1+b.2.2)).drop b.2.1:=by
  rcases hb with⟨_,q⟩ | ⟨_,rfl⟩
  ·exact(h.eq b (aB8 q)).2.2
  ·show(W.take (W.length+0)).drop W.length=(N.take (N.length+0)).drop N.length
   rw[List.drop_eq_nil_of_le (by rw[aG2];exists 1,0x80ad0),List.drop_eq_nil_of_le (by rw[aG2];exists 1,0x80ad0)]
 cases k with
 | zero=>exact⟨⟨aC7 _,aC7 _⟩,.inl rfl,hs⟩
 | succ k=>
  have hk:k<ms.length:=by
   rcases hb with⟨q,_⟩ | ⟨q,_⟩
   ·exists 2,0x1011180a18,q
   ·exists 2,0x1011180a28,q
  obtain⟨p,hp⟩ :∃p,ms[k]?=some p:=⟨_,aA6 hk⟩
  have hp':(BI W N ms)[k]?=some p:=by unfold BI;rw[aI4 hk];exact hp
  rw[I0 hp',I3]
  rcases hb with⟨_,q⟩ | ⟨_,rfl⟩
  ·have s:=h.step k p b hp q
   exact⟨⟨s.1,s.2.1⟩,.inr (.inl λz=>s.2.2 ⟨z.1.symm,z.2.symm⟩),hs⟩
  ·have s:=h.eq p (aB8 hp)
   exact⟨⟨s.1,s.2.1⟩,.inr (.inr rfl),hs⟩
def Ps{W N:List Int}{ms:List BN}(h:Lw W N ms):(BI W N ms).filter (λb=>decide (b.2.2=0))=[(W.length,N.length,0)]:=by
 unfold BI
 rw[List.filter_append,List.filter_eq_nil_iff.mpr λb hb z=>aJ6 (h.pos b hb) (bP2 z)]
 rfl
end Mine
section
open PySem PySem.W PyProof.Rows
namespace Mine
def Rf{α:Type}(f:α->AV)(g:α->Bool)(p:List α):(p.flatMap λx=>bif g x then [f x]else [])=(p.filter g).map f:=by
 induction p with
 | nil=>rfl
 | cons a r ih=>
  rw[aT8,ih]
  cases h:g a with
  | true=>rw[aK9 h];rfl
  | false=>rw[aL0 (by rw[h];decide)];rfl
def Ko{α:Type}{f:α->AV}{p:List α}{g:α->Bool}{tn:AV->St->(St->Prop)->Prop}{xs:List Str}{ρ₀:List (Str×AV)}{H:List (Nat×AO)}{n a:Nat}{Q:AV->St->Prop}(I:List (Str×AV)->Prop)(h0:I (pick ρ₀ xs))(hs :∀ρ H' n',I ρ->ER ⟨ρ,H',n',a⟩ ⟨ρ₀,H,n,a⟩ xs)(hl:p.length<=100)
  (ht :∀x ρ L (K:St->Prop),x∈p->I ρ->L.length<=1000000->(∀ρ',I ρ'->K ⟨ρ',Al H n (.list (L++bif g x then [f x]else [])),n+1,a⟩)->tn (f x) ⟨ρ,Al H n (.list L),n+1,a⟩ K)
  (q:Q (.ref n) ⟨ρ₀,Al H n (.list ((p.filter g).map f)),n+1,a⟩):BC (.list []) (p.map f) tn xs ⟨ρ₀,H,n,a⟩ Q:=by
 refine Dl (λk=>(p[k]?).elim [] λx=>bif g x then [f x]else []) I h0 hs (aA3 (aB7 (aB0 ..)) (aA3 hl (by decide))) (λk=>?_) (λk v hv ρ L K hI hL hK=>?_) ?_
 ·cases p[k]? with
  | none=>exact aC7 _
  | some x=>show(bif g x then [f x]else []).length<=1;cases g x<;>first | exact aC7 _ | exact aA9 _
 ·obtain⟨x,hx,rfl⟩:=map_some ((aC5 ..).symm.trans hv)
  rw[hx]at hK
  exact ht x ρ L K (aB8 hx) hI hL hK
 ·rw[aB0,Q2,Rf];exact q
def WC{σ:St}{h:Nat}{M:List AV}(e:σ.H.lookup h=some (.list M)):BK σ (.ref h)=some M:=by
 show((aD8 (λo=>(h,o)) (σ.H.lookup h)).map (λp:Nat×AO=>p.2)).bind AO.lst=_
 rw[e];rfl
def No{σ:St}{M:List AV}(e:σ.H.lookup 0=some (.list M)):DT σ (.ref 0) (.lst [])=some M.isEmpty:=by
 show JA (LE (.ref 0) (.lst [])) (JA ((BK σ (.ref 0)).bind λxs=>(some []).bind λys=>EH (JN 8) xs ys) _)=_
 rw[WC e]
 cases M<;>rfl
def cH{b:BN}:JN 8 (DU b) (DU b)=some true:=
 (show JN 8 (Cs (Ψ b.1) (Ψ b.2.1) (Ψ b.2.2)) (Cs (Ψ b.1) (Ψ b.2.1) (Ψ b.2.2))=some (decide (AB.int (Ψ b.1)=AB.int (Ψ b.1))&&(decide (AB.int (Ψ b.2.1)=AB.int (Ψ b.2.1))&&(decide (AB.int (Ψ b.2.2)=AB.int (Ψ b.2.2))&&([]:List AV).isEmpty)))from by rfl').trans (by rw[bP0 rfl,bP0 rfl,bP0 rfl];rfl)
def Xi{σ:St}{b:BN}:DT σ (DU b) (DU b)=some true:=
 (show DT σ (Cs (Ψ b.1) (Ψ b.2.1) (Ψ b.2.2)) (Cs (Ψ b.1) (Ψ b.2.1) (Ψ b.2.2))=some (decide (AB.int (Ψ b.1)=AB.int (Ψ b.1))&&(decide (AB.int (Ψ b.2.1)=AB.int (Ψ b.2.1))&&(decide (AB.int (Ψ b.2.2)=AB.int (Ψ b.2.2))&&([]:List AV).isEmpty)))from by rfl').trans (by rw[bP0 rfl,bP0 rfl,bP0 rfl];rfl)
def Xb{σ:St}{b:BN}(e:σ.H.lookup 0=some (.list [DU b])):DT σ (.ref 0) (.lst [DU b])=some true:=by
 show JA (LE (.ref 0) (.lst [DU b])) (JA ((BK σ (.ref 0)).bind λxs=>(some [DU b]).bind λys=>EH (JN 8) xs ys) _)=_
 rw[WC e]
 show JA none (JA ((JN 8 (DU b) (DU b)).bind λx=>(some true).map (x && ·)) _)=_
 rw[cH];rfl
def Jh{vs:List AV}{v:AV}:CD (vs++[v]) (-1)=some v:=by
 have e:(-1:Int)+((vs++[v]).length:Int)=(vs.length:Int):=by rw[aC3];show(-1:Int)+((vs.length+1:Nat):Int)=_;exact id (ql [_] 0xf180a0f181fa5 (by rfl'))
 show(if(0<=((-1:Int)+((vs++[v]).length:Int))&&decide ((-1:Int)+((vs++[v]).length:Int)<((vs++[v]).length:Int)))=true then some ((-1:Int)+((vs++[v]).length:Int)).toNat else none).bind ((vs++[v])[·]?)=_
 rw[e,bO7 (aE8.mpr ⟨bP0 (aL1 _),bP0 (by rw[aC3];exact aD4.mpr (aC2 _))⟩)]
 exact List.getElem?_concat_length
def IW{α:Type}{x:α}{f:α->Prop}(h:f x):Ab (some x) f:=h
def N6:Ŕ:=λas os Q=>∃(W N:List Int) (ms:List BN),as=[.lst ((BI W N ms).map Ib),.lst (ĭ W),.lst (ĭ N)]/\os=[]/\(W.length<=12/\N.length<=12/\ms.length<=12)/\Lw W N ms/\Q (.lst ((BI W N ms).map DU)) []
section
variable{w:aB9}{W N:List Int}{ms:List BN}{K:ſ}
def TE{tl:List AV}{T:List BN}{i j:Nat}{b:BN}{R:Bool->St->Prop}(ź:i<=b.1)(a2:j<=b.2.1)(a3:T=[]\/¬ (b.1=i/\b.2.1=j)\/b.2.2=0)(h:R false (ř tl W N (T.map DU) (i:Nat) (j:Nat) (KO (Ψ b.1) (Ψ b.2.1) (Ψ b.2.2)))) :
  (ws (ŕ w) El 28).B (G3 (ĸ 0)) (ř tl W N (T.map DU) (i:Nat) (j:Nat) (KO (Ψ b.1) (Ψ b.2.1) (Ψ b.2.2))) R:=by
 rw[dR]
 refine Fu (λz=>bO9 z (by show ¬ ((b.1:Int)<(i:Int));exact id (ql [_,_] 0xf10f491008 (by rfl') ź))) λ_=>Fu (λz=>bO9 z (by show ¬ ((b.2.1:Int)<(j:Int));exact id (ql [_,_] 0xf10f491008 (by rfl') a2))) λ_=>?_
 rw[No (M:=T.map DU) rfl]
 refine IW ?_
 cases T with
 | nil=>exact CH rfl h
 | cons t T=>
  refine DD rfl ?_
  by_cases c:b.1=i/\b.2.1=j
  ·have z:b.2.2=0:=(a3.resolve_left (λz=>nomatch z)).resolve_left (λn=>n c)
   exact DD (by rw[bP0 (bO6 (λn:Nat=>AB.int (n:Int)) c.1),bP0 (bO6 (λn:Nat=>AB.int (n:Int)) c.2)];rfl) (Fu (λy=>bO9 y (by show ¬ ((0:Int)<(b.2.2:Int));exact id (ql [_] 0xf084908028 (by rfl') z))) λ_=>h)
  ·refine CH (aZ3.mpr λy=>?_) h
   have y1:=aE8.mp y
   have y2:=(aE8.mp y1.2).1
   exact c ⟨aS9 (AB.int.inj (bP2 y1.1)),aS9 (AB.int.inj (bP2 y2))⟩
def V7{tl:List AV}{k:Nat}{b:BN}(h:Lw W N ms)(hz:W.length<=12/\N.length<=12/\ms.length<=12)(e:(BI W N ms)[k]?=some b)
  (q:K .next (ř tl W N (((BI W N ms).take (k+1)).map DU) ((Ez ((BI W N ms).take (k+1))).1:Nat) ((Ez ((BI W N ms).take (k+1))).2:Nat) (KO (Ψ b.1) (Ψ b.2.1) (Ψ b.2.2)))) :
  YO w (Ib b) (ř tl W N (((BI W N ms).take k).map DU) ((Ez ((BI W N ms).take k)).1:Nat) ((Ez ((BI W N ms).take k)).2:Nat) []) K:=by
 obtain⟨⟨ź,a2⟩,a3,š⟩:=h.at_ e
 rw[I0 e,I3,<-Db]at q
 have hk:k<=12:=by
  have:=(aA5.mp e).1
  unfold BI at this
  rw[aC3]at this
  exact aA3 (aJ3 this) hz.2.2
 have lk:((BI W N ms).take k).length<=k:=List.length_take_le ..
 have a3':(BI W N ms).take k=[]\/¬ (b.1=(Ez ((BI W N ms).take k)).1/\b.2.1=(Ez ((BI W N ms).take k)).2)\/b.2.2=0:=a3.imp (λz=>by rw[z];rfl) id
 generalize (BI W N ms).take k=T at *
 generalize Ez T=ij at *
 refine iE.mpr ⟨rfl,TE ź a2 a3' (CH rfl ?_)⟩
 rw[fY,show Ψ b.1+Ψ b.2.2=((b.1+b.2.2:Nat):Int)from rfl,show Ψ b.2.1+Ψ b.2.2=((b.2.1+b.2.2:Nat):Int)from rfl,E0,E0,WD,bP0 š]
 refine⟨CZ,œ W hz.1,CZ,œ N hz.2.1,IW (CH rfl ?_)⟩
 rw[fK]
 exact⟨small (by rw[aB0];exists 2,0x649100108c8008,hk,lk),rfl,q⟩
def VP{tl bl:List AV}{i j:Int}{r:List (Str×AV)}:Ac (ř tl W N bl i j r) (ř tl W N bl i j []):=.less (ρ:=(ř tl W N bl i j []).ρ++r) (λx v e=>CA e) λ_ _=>id
end
def QS:Ar (-1):=⟨by decide,by decide⟩
def æ:Bh cE.2.2=[]:=by rfl'
def FR(l:List BN):AD nn (l.map DU)=some (l.map DU):=Eb (λ_=>rfl) l
section
variable{w:aB9}{W N:List Int}{ms:List BN}{K:ſ}{Q:AV->List Ob->Prop}
def Y2{tl:List AV}{i j:Int}(h:Lw W N ms)(hz:W.length<=12/\N.length<=12/\ms.length<=12)(hq:Q (.lst ((BI W N ms).map DU)) []):wL (ŕ w) (SB w 30) (FG.drop 2) (ř tl W N ((BI W N ms).map DU) i j []) (AG 0 Q):=by
 have lf:(BI W N ms).length<=100:=by unfold BI;rw[aC3];exact aA3 (aG8 hz.2.2) (by decide)
 rw[bA]
 refine⟨⟨fS W N ((BI W N ms).map DU) [],[],0,0⟩,.re [] [(0,.lst ((BI W N ms).map DU))] rfl rfl rfl rfl (Aq rfl rfl rfl (AR (FR _)) Bc) (Bo rfl (AK _ _ (A0 W)) (Bo rfl (AK _ _ (A0 N)) (Bo rfl rfl Be))) Bd,?_⟩
 rw[aK,æ]
 refine⟨FR _,Ko (f:=DU) (g:=λb=>decide (b.2.2=0)) (λρ=>ρ=[]\/∃u:AV,ρ=([("block",u)]:List (Str×AV))) (.inl rfl) (λ_ _ _ _=>trivial) lf (λb ρ L K hb hI hL hK=>?_) ?_⟩
 ·have go:=hK _ (.inr ⟨DU b,rfl⟩)
  have fin:Ar 2/\∃v,CD [.int (Ψ b.1),.int (Ψ b.2.1),.int (Ψ b.2.2)] 2=some v/\Cm .Eq v (.int 0) ⟨[("block",DU b)],Al [] 0 (.list L),1,0⟩ λv σ=>CV v σ λb τ=>An b (ŋ w τ K) (K τ):=by
   refine⟨BR (n:=2) (by decide),.int (Ψ b.2.2),rfl,Jl (R:=λb τ=>An b (ŋ w τ K) (K τ)) ?_⟩
   cases z:decide (b.2.2=0)with
   | true=>rw[z]at go;exact DD rfl (gH.mpr (E4 hL go))
   | false=>rw[z]at go;rw[show L++(bif false then [DU b]else [])=L from aF8 L]at go;exact CH rfl go
  exact hI.elim (λe=>e▸aV.mpr fin) λq=>q.elim λu e=>e▸kK.mpr fin
 ·rw[Ps h]
  refine gX.mpr ?_
  rw[kY,lW,AW,AW]
  refine⟨small (aA3 hz.1 (by decide)),small (aA3 hz.2.1 (by decide)),?_⟩
  rw[show Cs (W.length:Int) (N.length:Int) 0=DU (W.length,N.length,0)from rfl,Xb rfl]
  refine IW (CH rfl ⟨QS,DU (W.length,N.length,0),?_,BR (n:=0) (by decide),DU (W.length,N.length,0),rfl,?_⟩)
  ·unfold BI
   rw[<-Db]
   exact Jh
  ·rw[Xi]
   refine IW (CH rfl (CH rfl ?_))
   rw[jR]
   exact GP (fl:=.ret _) rfl (AR (FR _)) hq
end
def yC{w:aB9}{d:Nat}:LP (lF w) (H0 w.params) (ŕ w) d ļ L4 aM KQ aI:=Sz (λ_ _ e=>nomatch e) (λe=>nomatch e) (λe=>nomatch e) (λ_ e=>nomatch e)
def O9{w:aB9}{d:Nat}:BP (lF w) (H0 w.params) (d+2) (.ref 263) N6:=
 Pf yC (QH _).2.2 (QH _).1 (QH _).2.1 (ps:=["told","old","new"]) (fuel:=30) (by decide) (by rfl') (Sd λa b c=>by rfl') λas os Q hh=>by
  obtain⟨W,N,ms,ea,eo,hz,h,hq⟩:=hh
  subst ea;subst eo
  refine⟨⟨rfl,B6⟩,rK.mpr ⟨rfl,Eb (λ_=>rfl) _,λk τ=>τ=ř ((BI W N ms).map Ib) W N (((BI W N ms).take k).map DU) ((Ez ((BI W N ms).take k)).1:Nat) ((Ez ((BI W N ms).take k)).2:Nat) [],⟨_,.refl _,rfl⟩,λk τ v hv hI=>?_,λτ hI=>?_⟩⟩
  ·subst hI
   obtain⟨b,hb,rfl⟩:=map_some ((aC5 ..).symm.trans hv)
   exact V7 h hz hb ⟨_,VP,rfl⟩
  ·subst hI
   rw[aB0,aR3]
   rw[Cn]
   exact Y2 h hz hq
def Oz:List aE7:=(Bz pw.main.body "_law_follow").1
def EL:Scope:=(Bz pw.main.body "_law_follow").2
def S5(P:aD3):(CJ P 268).body = .stmts Oz/\(CJ P 268).scope=EL/\Av P 268=true:=⟨by rfl',by rfl',by rfl'⟩
noncomputable abbrev pF(w:aB9):Pm:=Qk w.params (λ_=>none) none false false aQ Qn
abbrev SF(w:aB9)(f:Nat):ĥ:=EI (pF w) EL f
def fF:Expr×List aE7:=Cp (Oz.getD 1 (.Pass AM))
def tT(w:aB9):AV->St->ſ->Prop:=λv σ K=>(ws (pF w) EL 29).A fF.1 v σ λσ=>wL (pF w) (SF w 29) fF.2 σ K
def Ņ(n:Nat):aE7:=fF.2.getD n (.Pass AM)
def cF:CL:=Jd (Bl (Ņ 0))
abbrev Zk(cs:List AV)(lo hi sd st:Int)(r:List (Str×AV)):List (Str×AV):=("chain",.lst cs)::("low",.int lo)::("high",.int hi)::("side",.int sd)::("steps",.int st)::r
abbrev YG(cs:List AV)(lo hi sd st:Int)(r:List (Str×AV)):St:=⟨Zk cs lo hi sd st r,[],0,0⟩
abbrev rF(w:aB9):St->(St->Prop)->Prop:=Ni (pF w) (CQ cF.2.2 EL) (Li (pF w) 27 (CQ cF.2.2 EL)) (XJ cF.1 (Li (pF w) 27 (CQ cF.2.2 EL)) 0) (cF.2.1.drop 1)
def uU(e:Expr):List Expr:=V8 e
def tF:List Expr:=uU (((cF.2.1.getD 0 mJ).ifs).getD 0 Jt)
def l7:Expr:=tF.getD 0 Jt
def dH:Expr:=tF.getD 1 Jt
def mI:Expr×Expr:=ZY (Bl (Ņ 2))
section
variable{w:aB9}{cs bl M:List AV}{lo hi sd st a b k x y:Int}{K:ſ}{R:Bool->St->Prop}{v:AV}
def oD:wL (pF w) (SF w 30) Oz (A7 [("chain",.lst cs),("low",.int lo),("high",.int hi),("side",.int sd)] []) K=(AD nn cs=some cs/\Cc cs (tT w) (wL (pF w) (SF w 29) []) (YG cs lo hi sd 0 []) (Ĭ (pF w) (SF w 30) (Oz.drop 2) K)):=by rfl'
def jZ:tT w (.lst bl) (YG cs lo hi sd st []) K=(AD nn bl=some bl/\BC (.list []) bl (Ej (pF w) 27 EL cF 0) (Bh cF.2.2) (YG cs lo hi sd st [("blocks",.lst bl)]) λv σ=>BG (ws (pF w) EL 28).A (Ak (Ņ 0)) v σ λσ=>wL (pF w) (SF w 29) (fF.2.drop 1) σ K):=by rfl'
abbrev hB(a b k lo hi sd:Int):List (Str×AV):=[("high",.int hi),("low",.int lo),("side",.int sd),("block",Cs a b k)]
abbrev J7(w:aB9):Expr->St->(Bool->St->Prop)->Prop:=(ws (pF w) (CQ cF.2.2 EL) 26).B
abbrev Ĺ(w:aB9)(R:St->Prop):Bool->St->Prop:=λb τ=>An b (rF w τ R) (R τ)
def jU{H:List (Nat×AO)}{m q:Nat}{R:St->Prop}:Ej (pF w) 27 EL cF 0 (Cs a b k) ⟨[("high",.int hi),("low",.int lo),("side",.int sd)],H,m,q⟩ R=J7 w l7 ⟨hB a b k lo hi sd,H,m,q⟩ λb σ=>An b (J7 w dH σ λb σ=>An b (Ĺ w R true σ) (Ĺ w R false σ)) (Ĺ w R false σ):=by rfl'
def fU{H:List (Nat×AO)}{m q:Nat}{R:St->Prop}:Ej (pF w) 27 EL cF 0 (Cs a b k) ⟨[("high",.int hi),("low",.int lo),("side",.int sd),("block",v)],H,m,q⟩ R=J7 w l7 ⟨hB a b k lo hi sd,H,m,q⟩ λb σ=>An b (J7 w dH σ λb σ=>An b (Ĺ w R true σ) (Ĺ w R false σ)) (Ĺ w R false σ):=by rfl'
def aH{H:List (Nat×AO)}{m q:Nat}:J7 w l7 ⟨hB a b k lo hi sd,H,m,q⟩ R=(Ar sd/\∃v,CD [.int a,.int b,.int k] sd=some v/\Cm .LtE v (.int lo) ⟨hB a b k lo hi sd,H,m,q⟩ λv σ=>CV v σ R):=by rfl'
def fG{H:List (Nat×AO)}{m q:Nat}:J7 w dH ⟨hB a b k lo hi sd,H,m,q⟩ R=(Ar sd/\∃v,CD [.int a,.int b,.int k] sd=some v/\Ar 2/\∃u,CD [.int a,.int b,.int k] 2=some u/\FL .Add v u ⟨hB a b k lo hi sd,H,m,q⟩ λx σ=>Cm .LtE (.int hi) x σ λv σ=>CV v σ R):=by rfl'
def Zo{H:List (Nat×AO)}{m q:Nat}{R:St->Prop}:rF w ⟨hB a b k lo hi sd,H,m,q⟩ R=BO .append [.ref 0,Cs a b k] ⟨hB a b k lo hi sd,H,m,q⟩ λ_ τ=>R τ:=by rfl'
def k9:BG (ws (pF w) EL 28).A (Ak (Ņ 0)) (.ref 0) ⟨Zk cs lo hi sd st [("blocks",.lst bl)],[(0,.list M)],1,0⟩ (λσ=>wL (pF w) (SF w 29) (fF.2.drop 1) σ K)=(Ab (DT ⟨Zk cs lo hi sd st [("blocks",.lst bl),("held",.ref 0)],[(0,.list M)],1,0⟩ (.ref 0) (.lst [])) λr=>An r (K (.ret (.tup [.int st,.int lo])) ⟨Zk cs lo hi sd st [("blocks",.lst bl),("held",.ref 0)],[(0,.list M)],1,0⟩) (wL (pF w) (SF w 29) (fF.2.drop 2) ⟨Zk cs lo hi sd st [("blocks",.lst bl),("held",.ref 0)],[(0,.list M)],1,0⟩ K)):=by rfl'
def kH:wL (pF w) (SF w 30) (Oz.drop 2) (YG cs lo hi sd st []) K=K (.ret (.tup [.int st,.int lo])) (YG cs lo hi sd st []):=by rfl'
abbrev hF(cs bl M:List AV)(lo hi sd st:Int)(r:List (Str×AV)):St:=⟨Zk cs lo hi sd st (("blocks",.lst bl)::("held",.ref 0)::r),[(0,.list M)],1,0⟩
abbrev KM(w:aB9)(K:ſ):AV->St->Prop:=λv σ=>BG (ws (pF w) EL 28).A (Ak (Ņ 2)) v σ λσ=>wL (pF w) (SF w 29) (fF.2.drop 3) σ K
variable{Q:AV->St->Prop}
def bO:wL (pF w) (SF w 29) (fF.2.drop 2) (hF cs bl M lo hi sd st []) K=(ws (pF w) EL 27).E mI.1 (hF cs bl M lo hi sd st []) λa σ=>(ws (pF w) EL 27).E mI.2 σ λb σ=>FL .Sub a b σ (KM w K):=by rfl'
def lI:(ws (pF w) EL 27).E mI.1 (hF cs bl M lo hi sd st []) Q=(Ar 0/\∃v,CD M 0=some v/\Fo v (.int (1-sd)) (hF cs bl M lo hi sd st []) Q):=by rfl'
def dM:(ws (pF w) EL 27).E mI.2 (hF cs bl M lo hi sd st []) Q=(Ar 0/\∃v,CD M 0=some v/\Fo v (.int sd) (hF cs bl M lo hi sd st []) Q):=by rfl'
def Vh:Fo (Cs a b k) (.int x) (hF cs bl M lo hi sd st []) Q=(Ar x/\∃v,CD [.int a,.int b,.int k] x=some v/\Q v (hF cs bl M lo hi sd st [])):=by rfl'
def eK:KM w K (.int x) (hF cs bl M lo hi sd st [])=(3=3/\K .next (hF cs bl M (lo+x) (hi+x) sd (st+1) [("move",.int x)])):=by rfl'
end
end Mine
end
namespace Mine
noncomputable def Az(s:Nat)(b:BN):Nat:=if s=0 then b.1 else b.2.1
def FW(s lo hi:Nat)(bl:List BN):List BN:=bl.filter λb=>decide (Az s b<=lo)&&decide (hi<=Az s b+b.2.2)
noncomputable def Ae(s:Nat):List (List BN)->Nat->Nat->Nat×Nat
 | [],lo,_=>(0,lo)
 | bl::cs,lo,hi=>((FW s lo hi bl).head?).elim (0,lo) λb=>((Ae s cs (lo-Az s b+Az (1-s) b) (hi-Az s b+Az (1-s) b)).1+1,(Ae s cs (lo-Az s b+Az (1-s) b) (hi-Az s b+Az (1-s) b)).2)
def Du{s:Nat}{bl:List BN}{cs:List (List BN)}{lo hi:Nat}:Ae s (bl::cs) lo hi=((FW s lo hi bl).head?).elim (0,lo) λb=>((Ae s cs (lo-Az s b+Az (1-s) b) (hi-Az s b+Az (1-s) b)).1+1,(Ae s cs (lo-Az s b+Az (1-s) b) (hi-Az s b+Az (1-s) b)).2):=rfl
end Mine
section
open PySem PySem.W PyProof.Rows
namespace Mine
def Gj{x y:Int}{σ:St}{Q:AV->St->Prop}:FL .Add (.int x) (.int y) σ Q=Q (.int (x+y)) σ:=by rfl'
def Us{x y:Int}{σ:St}{Q:AV->St->Prop}:FL .Sub (.int x) (.int y) σ Q=Q (.int (x-y)) σ:=by rfl'
def Â:Bh cF.2.2=(["high","low","side"]:List Str):=by rfl'
def JK{s:Nat}{b:BN}(h:s<=1):CD [.int (Ψ b.1),.int (Ψ b.2.1),.int (Ψ b.2.2)] (s:Int)=some (.int (Ψ (Az s b))):=by
 obtain rfl | rfl:s=0\/s=1:=by exists 1,0x18020802718008,h
 ·rfl
 ·rfl
def R9{m n:Nat}{σ:St}{R:Bool->St->Prop}(h:R (decide (m<=n)) σ):Cm .LtE (.int (m:Int)) (.int (n:Int)) σ λv σ=>CV v σ R:=by
 show R (decide ((m:Int)<=(n:Int))) σ
 rw[show decide ((m:Int)<=(n:Int))=decide (m<=n)from decide_eq_decide.mpr aM2]
 exact h
abbrev JZ(bl:List BN):AV:=.lst (bl.map DU)
def Fp(cs:List (List BN)):AD nn (cs.map JZ)=some (cs.map JZ):=Eb (λbl=>AR (FR bl)) cs
section
variable{w:aB9}{cs:List (List BN)}{bl:List BN}{lo hi s st:Nat}{K:ſ}{Q:AV->St->Prop}
def U1{ρ₀:List (Str×AV)}(hs:s<=1)(hl:bl.length<=100)(h1:ρ₀.lookup ("low":Str)=some (.int (lo:Int)))(h2:ρ₀.lookup ("high":Str)=some (.int (hi:Int)))(h3:ρ₀.lookup ("side":Str)=some (.int (s:Int)))
  (h:Q (.ref 0) ⟨ρ₀,[(0,.list ((FW s lo hi bl).map DU))],1,0⟩):BC (.list []) (bl.map DU) (Ej (pF w) 27 EL cF 0) (["high","low","side"]:List Str) ⟨ρ₀,[],0,0⟩ Q:=by
 refine Ko (f:=DU) (g:=λb=>decide (Az s b<=lo)&&decide (hi<=Az s b+b.2.2)) (λρ=>ρ=([("high",.int (hi:Int)),("low",.int (lo:Int)),("side",.int (s:Int))]:List (Str×AV))\/∃u:AV,ρ=([("high",.int (hi:Int)),("low",.int (lo:Int)),("side",.int (s:Int)),("block",u)]:List (Str×AV))) (.inl ?_) (λρ H' n' hI=>?_) hl (λb ρ L K hb hI hL hK=>?_) h
 ·show(aD5 _ _ _:List (Str×AV))=_
  rw[h2]
  show _::(aD5 _ _ _:List (Str×AV))=_
  rw[h1]
  show _::_::(aD5 _ _ _:List (Str×AV))=_
  rw[h3]
 ·have :∀{ρ:List (Str×AV)},ρ.lookup ("low":Str)=some (.int (lo:Int))->ρ.lookup ("high":Str)=some (.int (hi:Int))->ρ.lookup ("side":Str)=some (.int (s:Int))->ER ⟨ρ,H',n',0⟩ ⟨ρ₀,[],0,0⟩ (["high","low","side"]:List Str):=λq1 Ľ q3=>⟨Ľ.trans h2.symm,q1.trans h1.symm,q3.trans h3.symm,trivial⟩
  exact hI.elim (λe=>e▸this rfl rfl rfl) λq=>q.elim λu e=>e▸this rfl rfl rfl
 ·have go:=hK _ (.inr ⟨DU b,rfl⟩)
  have ixs:Ar (s:Int):=BR (aA3 hs (by decide))
  have fin:J7 w l7 ⟨hB (Ψ b.1) (Ψ b.2.1) (Ψ b.2.2) lo hi s,Al [] 0 (.list L),1,0⟩ λb σ=>An b (J7 w dH σ λb σ=>An b (Ĺ w K true σ) (Ĺ w K false σ)) (Ĺ w K false σ):=by
   refine aH.mpr ⟨ixs,_,JK hs,R9 (R:=λb σ=>An b (J7 w dH σ λb σ=>An b (Ĺ w K true σ) (Ĺ w K false σ)) (Ĺ w K false σ)) ?_⟩
   have no:(decide (Az s b<=lo)&&decide (hi<=Az s b+b.2.2))=false->Ĺ w K false ⟨hB (Ψ b.1) (Ψ b.2.1) (Ψ b.2.2) lo hi s,Al [] 0 (.list L),1,0⟩:=λz=>by
    rw[z]at go
    rw[show L++(bif false then [DU b]else [])=L from aF8 L]at go
    exact CH rfl go
   cases Š:decide (Az s b<=lo)with
   | false=>exact CH rfl (no (by rw[Š];rfl))
   | true=>
    refine DD rfl (fG.mpr ⟨ixs,_,JK hs,BR (n:=2) (by decide),.int (Ψ b.2.2),rfl,?_⟩)
    rw[Gj,show Ψ (Az s b)+Ψ b.2.2=((Az s b+b.2.2:Nat):Int)from rfl]
    refine R9 (R:=λb σ=>An b (Ĺ w K true σ) (Ĺ w K false σ)) ?_
    cases z2:decide (hi<=Az s b+b.2.2)with
    | false=>exact CH rfl (no (by rw[Š,z2];rfl))
    | true=>
     rw[Š,z2]at go
     exact DD rfl (DD rfl (Zo.mpr (E4 hL go)))
  exact hI.elim (λe=>e▸jU.mpr fin) λq=>q.elim λu e=>e▸fU.mpr fin
end
def fW{v:AV}{vs:List AV}:CD (v::vs) 0=some v:=by
 show(if(0<=(0:Int)&&decide ((0:Int)<((v::vs).length:Int)))=true then some (0:Int).toNat else none).bind ((v::vs)[·]?)=_
 rw[bO7 (aE8.mpr ⟨bP0 (aU4 0),bP0 (aD4.mpr (aV3 _))⟩:(decide ((0:Int)<=0)&&decide ((0:Int)<((v::vs).length:Int)))=true)]
 rfl
def IU:Ŕ:=λas os Q=>∃(cs:List (List BN)) (lo hi s:Nat),as=[.lst (cs.map JZ),.int (lo:Int),.int (hi:Int),.int (s:Int)]/\os=[]/\s<=1/\lo<=hi/\(∀bl∈cs,bl.length<=100)/\Q (.tup [.int ((Ae s cs lo hi).1:Nat),.int ((Ae s cs lo hi).2:Nat)]) []
section
variable{w:aB9}{cs:List (List BN)}{bl:List BN}{lo hi s st:Nat}{K:ſ}{Q:AV->List Ob->Prop}
def n5(cs:List (List BN))(lo0 hi0 s:Nat)(k:Nat)(τ:St):Prop:=∃lo hi:Nat,lo<=hi/\Ae s cs lo0 hi0=(k+(Ae s (cs.drop k) lo hi).1,(Ae s (cs.drop k) lo hi).2)/\τ=YG (cs.map JZ) (lo:Int) (hi:Int) (s:Int) (k:Int) []
def W4{M bl:List AV}{lo hi sd st x:Int}:Ac (hF (cs.map JZ) bl M lo hi sd st [("move",.int x)]) (YG (cs.map JZ) lo hi sd st []):=
 .re [] [] rfl rfl rfl rfl Bc (Bo rfl (AK _ _ (AR (Fp cs))) (Bo rfl rfl (Bo rfl rfl (Bo rfl rfl (Bo rfl rfl Be))))) Bd
def U3{lo0 hi0 k:Nat}{τ:St}(hs:s<=1)(hl:bl.length<=100)(hb:cs[k]?=some bl)(hI:n5 cs lo0 hi0 s k τ)(hq:Q (.tup [.int ((Ae s cs lo0 hi0).1:Nat),.int ((Ae s cs lo0 hi0).2:Nat)]) []) :
  tT w (JZ bl) τ (Eh (λσ=>∃τ,Ac σ τ/\n5 cs lo0 hi0 s (k+1) τ) (Ĭ (pF w) (SF w 30) (Oz.drop 2) (AG 0 Q))):=by
 obtain⟨lo,hi,hle,hf,rfl⟩:=hI
 rw[Ft hb]at hf
 refine jZ.mpr ⟨FR bl,?_⟩
 rw[Â]
 refine U1 hs hl rfl rfl rfl ?_
 rw[k9,No (M:=(FW s lo hi bl).map DU) rfl]
 refine IW ?_
 rw[Du]at hf
 have mem :∀b∈FW s lo hi bl,Az s b<=lo:=λb hb=>bP2 (aE8.mp (aI5.mp hb).2).1
 cases hh:FW s lo hi bl with
 | nil=>
  rw[hh]at hf
  have h1:(Ae s cs lo0 hi0).1=k:=bO6 Prod.fst hf
  have h2:(Ae s cs lo0 hi0).2=lo:=bO6 Prod.snd hf
  rw[h1,h2]at hq
  refine DD rfl ?_
  exact GP (fl:=.ret _) (r:=.tup [.int (k:Int),.int (lo:Int)]) rfl (AR (AH rfl (AH rfl rfl))) hq
 | cons b r=>
  rw[hh]at hf mem
  have hb0:=mem b (aC6 ..)
  refine CH rfl ?_
  have e1:(1:Int)-(s:Int)=((1-s:Nat):Int):=by exists 1,0x18b0f00f18b518008,hs
  rw[bO,lI,e1]
  refine⟨BR (n:=0) (by decide),DU b,fW,Vh.mpr ⟨BR (by exists 1,0x186a09018b0),_,JK (by exists 1,0x18018b0),?_⟩⟩
  rw[dM]
  refine⟨BR (n:=0) (by decide),DU b,fW,Vh.mpr ⟨BR (by exists 1,0x186a090018008,hs),_,JK hs,?_⟩⟩
  rw[Us,eK]
  refine⟨rfl,_,W4,lo-Az s b+Az (1-s) b,hi-Az s b+Az (1-s) b,by(exists 4,0x321ba320ba01008,hle),?_,?_⟩
  ·rw[hf]
   exact aV9 (show k+(_+1)=k+1+_ by exists 2,0x1180aa181a0a2) rfl
  ·rw[show(lo:Int)+(Ψ (Az (1-s) b)-Ψ (Az s b))=((lo-Az s b+Az (1-s) b:Nat):Int)by show(lo:Int)+((Az (1-s) b:Int)-(Az s b:Int))=_;exact id (ql [_,_,_] 0x201ba0f00f20fb10fa51008 (by rfl') hb0),show(hi:Int)+(Ψ (Az (1-s) b)-Ψ (Az s b))=((hi-Az s b+Az (1-s) b:Nat):Int)by show(hi:Int)+((Az (1-s) b:Int)-(Az s b:Int))=_;exact id (ql [_,_,_,_] 0x321ba0f20f30fb10fa502081008 (by rfl') hle hb0)];rfl
end
def ē{w:aB9}{d:Nat}:LP (lF w) (H0 w.params) (pF w) d ļ L4 aM KQ aI:=Sz (λ_ _ e=>nomatch e) (λe=>nomatch e) (λe=>nomatch e) (λ_ e=>nomatch e)
def Of{w:aB9}{d:Nat}:BP (lF w) (H0 w.params) (d+2) (.ref 268) IU:=
 Pf ē (S5 _).2.2 (S5 _).1 (S5 _).2.1 (ps:=["chain","low","high","side"]) (fuel:=30) (by decide) (by rfl') (Vq λa b c d=>by rfl') λas os Q hh=>by
  obtain⟨cs,lo,hi,s,ea,eo,hs,hle,hl,hq⟩:=hh
  subst ea;subst eo
  refine⟨⟨rfl,B6⟩,oD.mpr ⟨Fp cs,n5 cs lo hi s,⟨_,.refl _,lo,hi,hle,?_,rfl⟩,λk τ v hv hI=>?_,λτ hI=>?_⟩⟩
  ·rw[bH8,aF3]
  ·obtain⟨bl,hb,rfl⟩:=map_some ((aC5 ..).symm.trans hv)
   exact U3 hs (hl bl (aB8 hb)) hb hI hq
  ·obtain⟨lo',hi',_,hf,rfl⟩:=hI
   rw[aB0,bB1]at hf
   rw[aB0]
   rw[Cn,kH]
   have h1:(Ae s cs lo hi).1=cs.length:=bO6 Prod.fst hf
   have h2:(Ae s cs lo hi).2=lo':=bO6 Prod.snd hf
   rw[h1,h2]at hq
   exact GP (fl:=.ret _) rfl (AR (AH rfl (AH rfl rfl))) hq
def II:List aE7:=(Bz pw.main.body "_law_bonds").1
def B7:Scope:=(Bz pw.main.body "_law_bonds").2
def Rk(P:aD3):(CJ P 273).body = .stmts II/\(CJ P 273).scope=B7/\Av P 273=true:=⟨by rfl',by rfl',by rfl'⟩
noncomputable def XN:Pos->Bool:=λp=>!aD0 p.line 481
noncomputable def fH:Pos->Bool:=λp=>aD0 p.line 481
abbrev Ļ(w:aB9):Pm:=Qk w.params (λ_=>none) none false false XN fH
abbrev SO(w:aB9)(f:Nat):ĥ:=EI (Ļ w) B7 f
def OT:aE7:=II.getD 0 (.Pass AM)
def dQ:CL:=Jd ((Tu (Bl OT)).getD 0 Jt)
def hZ:CL:=Jd ((Tu (Bl OT)).getD 1 Jt)
def Pe:Expr×List aE7:=Cp (II.getD 1 (.Pass AM))
def Ŝ(n:Nat):aE7:=Pe.2.getD n (.Pass AM)
def Ķ:(Expr×Expr)×List aF6×Scope:=uS (Bl (Ŝ 1))
def Pd:Expr×List aE7:=Cp (Ŝ 3)
def OF(n:Nat):aE7:=Pd.2.getD n (.Pass AM)
abbrev B0(l:List Int):AV:=.lst (ĭ l)
def XF(w:aB9):AV->St->ſ->Prop:=λv σ K=>(ws (Ļ w) B7 29).A Pe.1 v σ λσ=>wL (Ļ w) (SO w 29) Pe.2 σ K
def Tk(w:aB9):AV->St->ſ->Prop:=λv σ K=>(ws (Ļ w) B7 28).A Pd.1 v σ λσ=>wL (Ļ w) (SO w 28) Pd.2 σ K
abbrev oN(rw_ dr:List AV)(r:List (Str×AV)):List (Str×AV):=("row",.lst rw_)::("drops",.lst dr)::r
section
variable{w:aB9}{rw_ dr ls ps M L:List AV}{old nw:List Int}{es:List (AB×AV)}{v x y j k:Int}{K:ſ}{R:Bool->St->Prop}{u:AV}{H:List (Nat×AO)}{m q:Nat}
abbrev wK(K:List AV->Prop)(v:AV):Prop:=Ab (T3 v) λvs=>AD nn vs=some vs/\K vs
abbrev KV(w:aB9)(K:ſ):AV->St->Prop:=λv σ=>aD5 (BG (ws (Ļ w) B7 29).A (Ak OT) v σ λσ=>wL (Ļ w) (SO w 30) (II.drop 1) σ K) (λxs=>PO v xs.length σ λvs σ=>Ze B7 xs.reverse vs.reverse σ λσ=>wL (Ļ w) (SO w 30) (II.drop 1) σ K) ((ans (aV8 (Ak OT) (Bl OT) (IQ B7))).getD none)
abbrev xL(w:aB9)(K:ſ):AV->St->Prop:=λu σ=>Lu (ws (Ļ w) B7 28).E ((Tu (Bl OT)).drop 1) σ λvs σ=>KV w K (.tup (u::vs)) σ
def uV:wL (Ļ w) (SO w 30) II (A7 [("row",.lst rw_),("drops",.lst dr)] []) K=(Ar 0/\∃v,CD rw_ 0=some v/\wK (λvs=>BC (.list []) vs (Ej (Ļ w) 27 B7 dQ 0) (Bh dQ.2.2) ⟨oN rw_ dr [],[],0,0⟩ (xL w K)) v):=by rfl'
def cL:xL w K (.ref 0) ⟨oN rw_ dr [],[(0,.list M)],1,0⟩=(Ar 0/\∃v,CD rw_ 0=some v/\wK (λvs=>BC (.list []) vs (Ej (Ļ w) 27 B7 hZ 1) (Bh hZ.2.2) ⟨oN rw_ dr [],[(0,.list M)],1,0⟩ λu σ=>KV w K (.tup [.ref 0,u]) σ) v):=by rfl'
def jP:KV w K (.tup [.ref 0,.ref 1]) ⟨oN rw_ dr [],[(0,.list M),(1,.list L)],2,0⟩=(2=2/\wL (Ļ w) (SO w 30) (II.drop 1) ⟨oN rw_ dr [("pairs",.ref 1),("lines",.ref 0)],[(0,.list M),(1,.list L)],2,0⟩ K):=by rfl'
def kL{R:St->Prop}:Ej (Ļ w) 27 B7 dQ 0 (.int k) ⟨[],H,m,q⟩ R=BO .append [.ref 0,.int 0] ⟨[("line",.int k)],H,m,q⟩ λ_ τ=>R τ:=by rfl'
def aW{R:St->Prop}:Ej (Ļ w) 27 B7 dQ 0 (.int k) ⟨[("line",u)],H,m,q⟩ R=BO .append [.ref 0,.int 0] ⟨[("line",.int k)],H,m,q⟩ λ_ τ=>R τ:=by rfl'
def X0{R:St->Prop}:Ej (Ļ w) 27 B7 hZ 1 (.int k) ⟨[],H,m,q⟩ R=BO .append [.ref 1,.int 0] ⟨[("line",.int k)],H,m,q⟩ λ_ τ=>R τ:=by rfl'
def W5{R:St->Prop}:Ej (Ļ w) 27 B7 hZ 1 (.int k) ⟨[("line",u)],H,m,q⟩ R=BO .append [.ref 1,.int 0] ⟨[("line",.int k)],H,m,q⟩ λ_ τ=>R τ:=by rfl'
def jW:wL (Ļ w) (SO w 30) (II.drop 2) ⟨oN rw_ dr [("lines",.lst ls),("pairs",.lst ps)],[],0,0⟩ K=K (.ret (.tup [.lst ls,.lst ps])) ⟨oN rw_ dr [("lines",.lst ls),("pairs",.lst ps)],[],0,0⟩:=by rfl'
def j6:wL (Ļ w) (SO w 30) (II.drop 1) ⟨oN rw_ dr [("pairs",.ref 1),("lines",.ref 0)],[(0,.list ls),(1,.list ps)],2,0⟩ K=(AE rw_.length/\BH 1 rw_.length/\Cc (Ah 1 ((rw_.length:Int)-1).toNat) (XF w) (wL (Ļ w) (SO w 29) []) ⟨oN rw_ dr [("pairs",.ref 1),("lines",.ref 0)],[(0,.list ls),(1,.list ps)],2,0⟩ (Ĭ (Ļ w) (SO w 30) (II.drop 2) K)):=by rfl'
abbrev oB(rw_ dr ls ps:List AV)(r:List (Str×AV)):List (Str×AV):=oN rw_ dr (("lines",.lst ls)::("pairs",.lst ps)::r)
def dG:XF w (.int v) ⟨oB rw_ dr ls ps [],[],0,0⟩ K=(Ar (v-1)/\∃a,CD rw_ (v-1)=some a/\Ar v/\∃b,CD rw_ v=some b/\2=2/\wL (Ļ w) (SO w 29) (Pe.2.drop 1) ⟨oB rw_ dr ls ps [("v",.int v),("old",a),("new",b)],[],0,0⟩ K):=by rfl'
def jF:wL (Ļ w) (SO w 29) (Pe.2.drop 1) ⟨oB rw_ dr ls ps [("v",.int v),("old",.lst (ĭ old)),("new",.lst (ĭ nw))],[],0,0⟩ K=(AE (ĭ old).length/\BH 0 (ĭ old).length/\BC (.dict []) (Ah 0 ((ĭ old).length-0:Int).toNat) (DV (Li (Ļ w) 27 (CQ Ķ.2.2 B7)) (Ķ.2.1.getD 0 mJ) (YD Ķ.1.1 Ķ.1.2 (Li (Ļ w) 27 (CQ Ķ.2.2 B7)) 0)) (Bh Ķ.2.2) ⟨oB rw_ dr ls ps [("v",.int v),("old",.lst (ĭ old)),("new",.lst (ĭ nw))],[],0,0⟩ λu σ=>BG (ws (Ļ w) B7 28).A (Ak (Ŝ 1)) u σ λσ=>wL (Ļ w) (SO w 29) (Pe.2.drop 2) σ K):=by rfl'
abbrev pN(dr:List AV)(old:List Int)(v:Int)(r:List (Str×AV)):List (Str×AV):=("drops",.lst dr)::("old",.lst (ĭ old))::("v",.int v)::r
abbrev qX(w:aB9):AV->St->(St->Prop)->Prop:=DV (Li (Ļ w) 27 (CQ Ķ.2.2 B7)) (Ķ.2.1.getD 0 mJ) (YD Ķ.1.1 Ķ.1.2 (Li (Ļ w) 27 (CQ Ķ.2.2 B7)) 0)
abbrev mL(w:aB9):St->(St->Prop)->Prop:=YD Ķ.1.1 Ķ.1.2 (Li (Ļ w) 27 (CQ Ķ.2.2 B7)) 0
def Zp{R:St->Prop}:qX w (.int k) ⟨pN dr old v [],H,m,q⟩ R=(Ar k/\∃a,CD (ĭ old) k=some a/\Ar (v-1)/\∃b,CD dr (v-1)=some b/\Pg a b ⟨pN dr old v [("i",.int k)],H,m,q⟩ λr=>An (!r) (mL w ⟨pN dr old v [("i",.int k)],H,m,q⟩ R) (R ⟨pN dr old v [("i",.int k)],H,m,q⟩)):=by rfl'
def jX{R:St->Prop}:qX w (.int k) ⟨pN dr old v [("i",u)],H,m,q⟩ R=(Ar k/\∃a,CD (ĭ old) k=some a/\Ar (v-1)/\∃b,CD dr (v-1)=some b/\Pg a b ⟨pN dr old v [("i",.int k)],H,m,q⟩ λr=>An (!r) (mL w ⟨pN dr old v [("i",.int k)],H,m,q⟩ R) (R ⟨pN dr old v [("i",.int k)],H,m,q⟩)):=by rfl'
def kB{R:St->Prop}:mL w ⟨pN dr old v [("i",.int k)],H,m,q⟩ R=(Ar k/\∃a,CD (ĭ old) k=some a/\GT ⟨pN dr old v [("i",.int k)],H,m,q⟩ (.ref 0) λx es=>Ab (BL a) λkk=>R (St.set ⟨pN dr old v [("i",.int k)],H,m,q⟩ x (.dict (dset es kk (.int k))))):=by rfl'
end
section
variable{w:aB9}{rw_ dr ls ps du bo M L:List AV}{old nw:List Int}{es:List (AB×AV)}{v x y j k:Int}{K:ſ}{R:Bool->St->Prop}{Q:AV->St->Prop}{u:AV}{H:List (Nat×AO)}{m q:Nat}
abbrev ĺ(rw_ dr ls ps:List AV)(nw:List Int)(es:List (AB×AV))(r:List (Str×AV)):List (Str×AV):=oB rw_ dr ls ps (("new",.lst (ĭ nw))::("place",.dct es)::r)
abbrev iO(rw_ dr ls ps:List AV)(nw:List Int)(es:List (AB×AV))(du bo:List AV)(r:List (Str×AV)):St:=⟨ĺ rw_ dr ls ps nw es (("both",.ref 1)::("due",.ref 0)::r),[(0,.list du),(1,.list bo)],2,0⟩
def lP{es:List (AB×AV)}{R:St->Prop}:BG (ws (Ļ w) B7 28).A (Ak (Ŝ 1)) (.ref 0) ⟨oB rw_ dr ls ps [("v",.int v),("old",.lst (ĭ old)),("new",.lst (ĭ nw))],[(0,.dict es)],1,0⟩ R=R ⟨oB rw_ dr ls ps [("v",.int v),("old",.lst (ĭ old)),("new",.lst (ĭ nw)),("place",.ref 0)],[(0,.dict es)],1,0⟩:=by rfl'
def dB{σ:St}:wL (Ļ w) (SO w 29) (Pe.2.drop 2) σ K =∃τ,Ac σ τ/\SO w 29 (Ŝ 2) τ (Ĭ (Ļ w) (SO w 29) (Pe.2.drop 3) K):=by rfl'
def bN:SO w 29 (Ŝ 2) ⟨ĺ rw_ dr ls ps nw es [],[],0,0⟩ (Ĭ (Ļ w) (SO w 29) (Pe.2.drop 3) K)=(2=2/\AE (ĭ nw).length/\BH 0 (ĭ nw).length/\Cc (Ah 0 ((ĭ nw).length-0:Int).toNat) (Tk w) (wL (Ļ w) (SO w 28) []) (iO rw_ dr ls ps nw es [] [] []) (Ĭ (Ļ w) (SO w 29) (Pe.2.drop 4) K)):=by rfl'
def lU:wL (Ļ w) (SO w 29) (Pe.2.drop 4) (iO rw_ dr ls ps nw es du bo []) K=(2=2/\K .next ⟨oN rw_ dr (("lines",.ref 0)::("pairs",.ref 1)::("new",.lst (ĭ nw))::("place",.dct es)::[("both",.ref 1),("due",.ref 0)]),[(0,.list du),(1,.list bo)],2,0⟩):=by rfl'
def vS(s:aE7):Expr:=(Qv s).2.1
def dI:Expr×Expr×Expr:=Sy ((AU (vS (OF 0))).2.1.getD 0 Jt)
abbrev KD(w:aB9)(K:ſ):AV->St->Prop:=λv σ=>D1 (Ļ w) (.fn .append) [.ref 0,v] σ λ_ σ=>wL (Ļ w) (SO w 28) (Pd.2.drop 1) σ K
def d8:Tk w (.int j) (iO rw_ dr ls ps nw es du bo []) K=(ws (Ļ w) B7 25).B dI.1 (iO rw_ dr ls ps nw es du bo [("j",.int j)]) λc σ=>An c ((ws (Ļ w) B7 25).E dI.2.1 σ (KD w K)) ((ws (Ļ w) B7 25).E dI.2.2 σ (KD w K)):=by rfl'
def ZQ:(ws (Ļ w) B7 25).B dI.1 (iO rw_ dr ls ps nw es du bo [("j",.int j)]) R=(Ar j/\∃a,CD (ĭ nw) j=some a/\Pg a (.dct es) (iO rw_ dr ls ps nw es du bo [("j",.int j)]) λr=>R r (iO rw_ dr ls ps nw es du bo [("j",.int j)])):=by rfl'
def Xq:(ws (Ļ w) B7 25).E dI.2.1 (iO rw_ dr ls ps nw es du bo [("j",.int j)]) Q=(Ar j/\∃a,CD (ĭ nw) j=some a/\Fo (.dct es) a (iO rw_ dr ls ps nw es du bo [("j",.int j)]) λp σ=>Fo (.lst ls) p σ λy σ=>FL .Add (.int 1) y σ Q):=by rfl'
def Wu{σ:St}:(ws (Ļ w) B7 25).E dI.2.2 σ Q=Q (.int 0) σ:=by rfl'
def bE(n:Nat):Expr:=(uU (Bl (OF 1))).getD n Jt
abbrev mP(w:aB9)(K:ſ):AV->St->Prop:=λv σ=>BG (ws (Ļ w) B7 27).A (Ak (OF 1)) v σ λσ=>wL (Ļ w) (SO w 28) (Pd.2.drop 2) σ K
def gV:wL (Ļ w) (SO w 28) (Pd.2.drop 1) (iO rw_ dr ls ps nw es du bo [("j",.int j)]) K=An (decide (0<j)==M9 .And) ((ws (Ļ w) B7 26).E (bE 1) (iO rw_ dr ls ps nw es du bo [("j",.int j)]) λv σ=>Ab (Tm v) λb=>An (b==M9 .And) ((ws (Ļ w) B7 26).E (bE 2) σ (mP w K)) (mP w K (.bool b) σ)) (mP w K (.bool (decide (0<j))) (iO rw_ dr ls ps nw es du bo [("j",.int j)])):=by rfl'
def X2:(ws (Ļ w) B7 26).E (bE 1) (iO rw_ dr ls ps nw es du bo [("j",.int j)]) Q=(Ar j/\∃a,CD (ĭ nw) j=some a/\Pg a (.dct es) (iO rw_ dr ls ps nw es du bo [("j",.int j)]) λr=>Q (.bool r) (iO rw_ dr ls ps nw es du bo [("j",.int j)])):=by rfl'
def Yc:(ws (Ļ w) B7 26).E (bE 2) (iO rw_ dr ls ps nw es du bo [("j",.int j)]) Q=(Ar (j-1)/\∃a,CD (ĭ nw) (j-1)=some a/\Pg a (.dct es) (iO rw_ dr ls ps nw es du bo [("j",.int j)]) λr=>Q (.bool r) (iO rw_ dr ls ps nw es du bo [("j",.int j)])):=by rfl'
def Ll{b:Bool}:mP w K (.bool b) (iO rw_ dr ls ps nw es du bo [("j",.int j)])=wL (Ļ w) (SO w 28) (Pd.2.drop 2) (iO rw_ dr ls ps nw es du bo [("j",.int j),("beside",.bool b)]) K:=by rfl'
def dE:wL (Ļ w) (SO w 28) (Pd.2.drop 2) (iO rw_ dr ls ps nw es du bo [("j",.int j),("beside",u)]) K=(ws (Ļ w) B7 27).B (G3 (OF 2)) (iO rw_ dr ls ps nw es du bo [("j",.int j),("beside",u)]) λc σ=>An c (wL (Ļ w) (SO w 27) (B4 (OF 2)) σ (Ĭ (Ļ w) (SO w 28) [] K)) (wL (Ļ w) (SO w 27) (F6 (OF 2)) σ (Ĭ (Ļ w) (SO w 28) [] K)):=by rfl'
def mE(n:Nat):Expr:=(uU (G3 (OF 2))).getD n Jt
def w6:Expr:=(Xk (mE 1)).2.getD 0 Jt
def Wi{b:Bool}:(ws (Ļ w) B7 27).B (G3 (OF 2)) (iO rw_ dr ls ps nw es du bo [("j",.int j),("beside",.bool b)]) R=An b ((ws (Ļ w) B7 26).B (mE 1) (iO rw_ dr ls ps nw es du bo [("j",.int j),("beside",.bool b)]) λb σ=>An b (R true σ) (R false σ)) (R false (iO rw_ dr ls ps nw es du bo [("j",.int j),("beside",.bool b)])):=by rfl'
def ZB:(ws (Ļ w) B7 26).B (mE 1) (iO rw_ dr ls ps nw es du bo [("j",.int j),("beside",u)]) R=(Ar j/\∃a,CD (ĭ nw) j=some a/\Fo (.dct es) a (iO rw_ dr ls ps nw es du bo [("j",.int j),("beside",u)]) λp σ=>(ws (Ļ w) B7 25).E w6 σ λq σ=>Cm .Eq p q σ λv σ=>CV v σ R):=by rfl'
def Xw:(ws (Ļ w) B7 25).E w6 (iO rw_ dr ls ps nw es du bo [("j",.int j),("beside",u)]) Q=(Ar (j-1)/\∃a,CD (ĭ nw) (j-1)=some a/\Fo (.dct es) a (iO rw_ dr ls ps nw es du bo [("j",.int j),("beside",u)]) λp σ=>FL .Add p (.int 1) σ Q):=by rfl'
def Xc:wL (Ļ w) (SO w 27) (B4 (OF 2)) (iO rw_ dr ls ps nw es du bo [("j",.int j),("beside",u)]) K=(Ar j/\∃a,CD (ĭ nw) j=some a/\Fo (.dct es) a (iO rw_ dr ls ps nw es du bo [("j",.int j),("beside",u)]) λp σ=>Fo (.lst ps) p σ λy σ=>FL .Add (.int 1) y σ λv σ=>D1 (Ļ w) (.fn .append) [.ref 1,v] σ λ_ σ=>K .next σ):=by rfl'
def XA:wL (Ļ w) (SO w 27) (F6 (OF 2)) (iO rw_ dr ls ps nw es du bo [("j",.int j),("beside",u)]) K=D1 (Ļ w) (.fn .append) [.ref 1,.int 0] (iO rw_ dr ls ps nw es du bo [("j",.int j),("beside",u)]) λ_ σ=>K .next σ:=by rfl'
end
end Mine
end
namespace Mine
noncomputable def KP:List Int->Int->Option Nat
 | [],_=>none
 | y::r,x=>if y=x then some 0 else(KP r x).map (· + 1)
theorem EB{x:Int} :∀{l:List Int} {k:Nat},KP l x=some k->l[k]?=some x
 | [],k,h=>nomatch h
 | y::r,k,h=>by
  unfold KP at h
  by_cases e:y=x
  ·rw[bO7 e]at h;cases h;exact bO6 some e
  ·rw[bO8 e]at h
   obtain⟨n,h1,rfl⟩:=aL4.mp h
   exact(show r[n]?=some x from EB h1)
theorem N7{x:Int} :∀{l:List Int},x∈l->∃k,KP l x=some k
 | [],h=>nomatch h
 | y::r,h=>by
  unfold KP
  by_cases e:y=x
  ·exact⟨0,bO7 e⟩
  ·rw[bO8 e]
   obtain⟨k,hk⟩:=N7 ((aD7.mp h).resolve_left λz=>e z.symm)
   exact⟨k+1,by rw[hk];rfl⟩
def Y9{x:Int}{l:List Int}{k:Nat}(n:l.Nodup)(h:l[k]?=some x):KP l x=some k:=by
 obtain⟨m,hm⟩:=N7 (aB8 h)
 have:=EB hm
 rw[hm]
 exact bO6 some ((aT6 (aA5.mp this).1 n).mp (this.trans h.symm))
def Ss{x:Int}{l:List Int}(h:x∉l):KP l x=none:=by
 cases e:KP l x with
 | none=>rfl
 | some k=>exact bO9 (aB8 (EB e)) h
def gP(old drop:List Int)(x:Int):Option Nat:=if x∈drop then none else KP old x
def Ŗ(old drop:List Int)(y x:Int):Option Nat:=(gP old drop x).bind λp=>(gP old drop y).bind λq=>if p=q+1 then some p else none
def ES(old new drop ls:List Int):List Int:=new.map λx=>(gP old drop x).elim 0 λp=>1+ls.getD p 0
def GN(old new drop ps:List Int)(j:Nat):Int:=if j=0 then 0 else(Ŗ old drop (new.getD (j-1) 0) (new.getD j 0)).elim 0 λp=>1+ps.getD p 0
def C5(old new drop ps:List Int):List Int:=(aC8 new.length).map (GN old new drop ps)
noncomputable def BA(row drops:List (List Int)):Nat->List Int×List Int
 | 0=>((row.getD 0 []).map λ_=>0,(row.getD 0 []).map λ_=>0)
 | k+1=>(ES (row.getD k []) (row.getD (k+1) []) (drops.getD k []) (BA row drops k).1,C5 (row.getD k []) (row.getD (k+1) []) (drops.getD k []) (BA row drops k).2)
def Ew{row drops:List (List Int)} :∀{k:Nat},(BA row drops k).1.length=(row.getD k []).length/\(BA row drops k).2.length=(row.getD k []).length
 | 0=>⟨aB0 ..,aB0 ..⟩
 | k+1=>⟨aB0 ..,(aB0 ..).trans aG6⟩
end Mine
section
open PySem PySem.W PyProof.Rows
namespace Mine
def Cz{vs:List AV}{k:Nat}{v:AV}(h:vs[k]?=some v):CD vs (k:Int)=some v:=by
 have hi:=(aA5.mp h).1
 show(if(0<=(if(k:Int)<0 then(k:Int)+(vs.length:Int)else k)&&decide ((if(k:Int)<0 then(k:Int)+(vs.length:Int)else k)<(vs.length:Int)))=true then some (if(k:Int)<0 then(k:Int)+(vs.length:Int)else k).toNat else none).bind (vs[·]?)=_
 rw[bO8 (bA7.mpr (aL1 k)),bO7 (aE8.mpr ⟨bP0 (aL1 k),bP0 (aD4.mpr hi)⟩)]
 exact h
def W3{x:Int}{es:List (AB×AV)}{σ:St}{K:Bool->Prop}:Pg (.int x) (.dct es) σ K=K (es.lookup (.int x)).isSome:=by rfl'
def Z5{x:Int}{l:List Int}{σ:St}{K:Bool->Prop}(h:K (decide (x∈l))):Pg (.int x) (.lst (ĭ l)) σ K:=by
 show Ab (BQ (ĭ l)) λks=>K (decide (AB.int x∈ks))
 rw[E9]
 show K (decide (AB.int x∈l.map AB.int))
 rw[JV];exact h
def Gc{x:Int}{es:List (AB×AV)}{σ:St}{Q:AV->St->Prop}:Fo (.dct es) (.int x) σ Q =∃v,es.lookup (.int x)=some v/\Q v σ:=by rfl'
def Jx{k:Int}{vs:List AV}{σ:St}{Q:AV->St->Prop}:Fo (.lst vs) (.int k) σ Q=(Ar k/\∃v,CD vs k=some v/\Q v σ):=by rfl'
theorem HM{x y:Int} :∀{l:List Int},KP (l++[x]) y=(KP l y).or (if x=y then some l.length else none)
 | []=>by
  show(if x=y then some 0 else(KP [] y).map (· + 1))=(if x=y then some 0 else none)
  rfl
 | a::r=>by
  show(if a=y then some 0 else(KP (r++[x]) y).map (· + 1))=Option.or (if a=y then some 0 else(KP r y).map (· + 1)) _
  by_cases e:a=y
  ·rw[bO7 e,bO7 e];rfl
  ·rw[bO8 e,bO8 e,HM]
   cases KP r y with
   | none=>
    by_cases z:x=y
    ·rw[bO7 z,bO7 z];rfl
    ·rw[bO8 z,bO8 z];rfl
   | some k=>rfl
structure PK(es:List (AB×AV))(old drop:List Int)(i:Nat):Prop where
 shut:AI nn es=some es
 len:es.length<=i
 look :∀x:Int,es.lookup (.int x)=(gP (old.take i) drop x).map λp:Nat=>AV.int (p:Int)
def PK.nil{old drop:List Int}:PK [] old drop 0:=⟨rfl,aA9 _,λx=>by
 rw[List.take_zero]
 unfold gP
 by_cases h:x∈drop
 ·rw[bO7 h];rfl
 ·rw[bO8 h];rfl⟩
def PK.skip{es:List (AB×AV)}{old drop:List Int}{i:Nat}{x:Int}(h:PK es old drop i)(e:old[i]?=some x)(d:x∈drop):PK es old drop (i+1):=
 ⟨h.shut,aI0 h.len,λy=>by
  rw[h.look,C8 e]
  unfold gP
  by_cases hy:y∈drop
  ·rw[bO7 hy,bO7 hy]
  ·rw[bO8 hy,bO8 hy,HM,bO8 (λz:x=y=>hy (z▸d))]
   cases KP (old.take i) y<;>rfl⟩
def PK.put{es:List (AB×AV)}{old drop:List Int}{i:Nat}{x:Int}(h:PK es old drop i)(n:old.Nodup)(e:old[i]?=some x)(d:x∉drop):PK (dset es (.int x) (.int (i:Int))) old drop (i+1):=
 ⟨Id h.shut rfl,aA3 Hh (aG8 h.len),λy=>by
  have hi:=(aA5.mp e).1
  rw[GV,h.look,C8 e]
  unfold gP
  by_cases hy:y∈drop
  ·rw[bO7 hy,bO7 hy,bO8 (λz:AB.int y=AB.int x=>d (AB.int.inj z▸hy))]
  ·rw[bO8 hy,bO8 hy,HM]
   by_cases z:y=x
   ·subst z
    have:KP (old.take i) y=none:=Ss λm=>by
     obtain⟨k,hk⟩:=aJ4 m
     have hk1:=(aA5.mp hk).1
     rw[aG2]at hk1
     rw[List.getElem?_take_of_lt (aB3 hk1 (aS7 ..))]at hk
     have:=(aT6 (aB3 hk1 (Nat.min_le_right ..)) n).mp (hk.trans e.symm)
     exact bO9 this (aE5 (aB3 hk1 (aS7 ..)))
    rw[bO7 rfl,bO7 rfl,this,aG2,aW0 (aE4 hi)];rfl
   ·rw[bO8 (λw:AB.int y=AB.int x=>z (AB.int.inj w)),bO8 (λw:x=y=>z w.symm)]
    cases KP (old.take i) y<;>rfl⟩
def vK:Bh Ķ.2.2=(["drops","old","v"]:List Str)/\Bh dQ.2.2=[]/\Bh hZ.2.2=[]:=⟨by rfl',by rfl',by rfl'⟩
section
variable{w:aB9}{rw_ dr:List AV}{old nw drop ls ps:List Int}{es:List (AB×AV)}{v:Nat}{K:ſ}{Q:AV->St->Prop}{ρ₀:List (Str×AV)}
def Qs(hn:old.Nodup)(hl:old.length<=100)(hv:0<v/\v<=1000)(hd:dr[v-1]?=some (B0 drop))(h1:ρ₀.lookup ("drops":Str)=some (.lst dr))(h2:ρ₀.lookup ("old":Str)=some (.lst (ĭ old)))(h3:ρ₀.lookup ("v":Str)=some (.int (v:Int)))
  (h :∀es,PK es old drop old.length->Q (.ref 0) ⟨ρ₀,[(0,.dict es)],1,0⟩):BC (.dict []) (Ah 0 old.length) (qX w) (["drops","old","v"]:List Str) ⟨ρ₀,[],0,0⟩ Q:=by
 refine⟨λk τ=>∃ρ es,(ρ=pN dr old (v:Int) []\/∃u:AV,ρ=pN dr old (v:Int) [("i",u)])/\PK es old drop k/\τ=⟨ρ,[(0,.dict es)],1,0⟩,⟨_,[],.inl ?_,PK.nil,rfl⟩,λk u τ hu hJ=>?_,λτ hJ=>?_⟩
 ·show(aD5 _ _ _:List (Str×AV))=_
  rw[h1]
  show _::(aD5 _ _ _:List (Str×AV))=_
  rw[h2]
  show _::_::(aD5 _ _ _:List (Str×AV))=_
  rw[h3]
 ·obtain⟨ρ,es,hI,hP,rfl⟩:=hJ
  have hk:=(aA5.mp hu).1
  rw[AQ]at hk
  cases aA1 (hu.symm.trans (As hk))
  obtain⟨x,hx⟩:=OS hk
  have hx':CD (ĭ old) ((k:Nat):Int)=some (.int x):=Ch hx
  have ev:((v:Int)-1)=((v-1:Nat):Int):=by exists 1,0x180b0f1800fb500818,hv.1
  have fin :∀R:St->Prop,(∀ρ' es',(ρ'=pN dr old (v:Int) []\/∃u:AV,ρ'=pN dr old (v:Int) [("i",u)])->PK es' old drop (k+1)->R ⟨ρ',[(0,.dict es')],1,0⟩)->Ar (k:Int)/\∃a,CD (ĭ old) (k:Int)=some a/\Ar ((v:Int)-1)/\∃b,CD dr ((v:Int)-1)=some b/\Pg a b ⟨pN dr old (v:Int) [("i",.int (k:Int))],[(0,.dict es)],1,0⟩ λr=>An (!r) (mL w ⟨pN dr old (v:Int) [("i",.int (k:Int))],[(0,.dict es)],1,0⟩ R) (R ⟨pN dr old (v:Int) [("i",.int (k:Int))],[(0,.dict es)],1,0⟩):=λR hR=>by
   refine⟨BR (by exists 2,0x186a091001180000649008,hl,hk),_,hx',by rw[ev];exact BR (by exists 1,0x186a09180b00003e89008,hv.2),_,by rw[ev];exact Cz hd,Z5 ?_⟩
   by_cases d:x∈drop
   ·rw[bP0 d]
    exact CH rfl (hR _ _ (.inr ⟨_,rfl⟩) (hP.skip hx d))
   ·rw[bP1 d]
    refine DD rfl (kB.mpr ⟨BR (by exists 2,0x186a091001180000649008,hl,hk),_,hx',?_⟩)
    show AE es.length/\R ⟨pN dr old (v:Int) [("i",.int (k:Int))],[(0,.dict (dset es (.int x) (.int (k:Int))))],1,0⟩
    exact⟨small (aA3 hP.len (by exists 2,0x6491001180000649008,hl,hk)),hR _ _ (.inr ⟨_,rfl⟩) (hP.put hn hx d)⟩
  rw[aL3]
  have F:=fin (λτ=>∃ρ es,(ρ=pN dr old (v:Int) []\/∃u:AV,ρ=pN dr old (v:Int) [("i",u)])/\PK es old drop (k+1)/\τ=⟨ρ,[(0,.dict es)],1,0⟩) λρ' es' h1 h2=>⟨ρ',es',h1,h2,rfl⟩
  exact hI.elim (λe=>e▸Zp.mpr F) λq=>q.elim λu e=>e▸jX.mpr F
 ·obtain⟨ρ,es,hI,hP,rfl⟩:=hJ
  rw[AQ]at hP
  have :∀{ρ:List (Str×AV)},ρ.lookup ("drops":Str)=some (.lst dr)->ρ.lookup ("old":Str)=some (.lst (ĭ old))->ρ.lookup ("v":Str)=some (.int (v:Int))->ER ⟨ρ,[(0,.dict es)],1,0⟩ ⟨ρ₀,[],0,0⟩ (["drops","old","v"]:List Str):=λq1 Ľ q3=>⟨q1.trans h1.symm,Ľ.trans h2.symm,q3.trans h3.symm,trivial⟩
  exact⟨hI.elim (λe=>e▸this rfl rfl rfl) λq=>q.elim λu e=>e▸this rfl rfl rfl,h es hP⟩
end
section
variable{w:aB9}{rw_ dr du bo:List AV}{old nw drop ls ps:List Int}{es:List (AB×AV)}{j:Nat}{x y:Int}{K:ſ}{R:Bool->St->Prop}{Q:AV->St->Prop}{u:AV}{b:Bool}
def Vj(es:List (AB×AV))(old drop:List Int):Prop:=∀x:Int,es.lookup (.int x)=(gP old drop x).map λp:Nat=>AV.int (p:Int)
def WH{p:Nat}(h:gP old drop x=some p):p<old.length:=by
 unfold gP at h
 by_cases d:x∈drop
 ·rw[bO7 d]at h;cases h
 ·rw[bO8 d]at h;exact(aA5.mp (EB h)).1
def Ge{p:Nat}(L:Vj es old drop)(h:gP old drop x=some p):es.lookup (.int x)=some (.int (p:Int)):=by rw[L,h];rfl
def JO(L:Vj es old drop){K:Bool->Prop}{σ:St}(h:K (gP old drop x).isSome):Pg (.int x) (.dct es) σ K:=by
 rw[W3,L]
 rw[Option.isSome_map];exact h
def eQ(L:Vj es old drop)(hl:ls.length=old.length)(hlo:old.length<=100)(hx:nw[j]?=some x)(hj:nw.length<=100)(hdu:du.length<=100)
  (h:wL (Ļ w) (SO w 28) (Pd.2.drop 1) (iO rw_ dr (ĭ ls) (ĭ ps) nw es (du++[.int ((gP old drop x).elim 0 λp=>1+ls.getD p 0)]) bo [("j",.int (j:Int))]) K) :
  Tk w (.int (j:Int)) (iO rw_ dr (ĭ ls) (ĭ ps) nw es du bo []) K:=by
 have hj2:=(aA5.mp hx).1
 have ij:Ar (j:Int):=BR (by exists 2,0x186a091001180000649008,hj,hj2)
 rw[d8,ZQ]
 refine⟨ij,_,Ch hx,JO L ?_⟩
 cases g:gP old drop x with
 | none=>
  rw[g]at h
  refine CH rfl ?_
  rw[Wu]
  exact F5 (vs:=du) rfl (small hdu) h
 | some p=>
  rw[g]at h
  have hp:=WH g
  obtain⟨z,hz⟩:=OS (l:=ls) (n:=p) (by exists 3,0x2112181028,hl,hp)
  have ez:ls.getD p 0=z:=by rw[aB2,hz];rfl
  refine DD rfl ?_
  rw[Xq]
  refine⟨ij,_,Ch hx,Gc.mpr ⟨_,Ge L g,Jx.mpr ⟨BR (by exists 2,0x186a091001180000649008,hlo,hp),_,Ch hz,?_⟩⟩⟩
  rw[Gj,<-ez]
  exact F5 (vs:=du) rfl (small hdu) h
abbrev KR(old drop:List Int)(j:Nat)(y x:Int):Bool:=decide (0<j)&&((gP old drop x).isSome&&(gP old drop y).isSome)
def cK(L:Vj es old drop)(hx:nw[j]?=some x)(hy:0<j->nw[j-1]?=some y)(hj:nw.length<=100)
  (h:wL (Ļ w) (SO w 28) (Pd.2.drop 2) (iO rw_ dr (ĭ ls) (ĭ ps) nw es du bo [("j",.int (j:Int)),("beside",.bool (KR old drop j y x))]) K) :
  wL (Ļ w) (SO w 28) (Pd.2.drop 1) (iO rw_ dr (ĭ ls) (ĭ ps) nw es du bo [("j",.int (j:Int))]) K:=by
 have hj2:=(aA5.mp hx).1
 have ij:Ar (j:Int):=BR (by exists 2,0x186a091001180000649008,hj,hj2)
 rw[gV,show decide ((0:Int)<(j:Int))=decide (0<j)from decide_eq_decide.mpr (by omega)]
 unfold KR at h
 by_cases c:0<j
 ·rw[bP0 c]at h ⊢
  refine DD rfl ?_
  rw[X2]
  refine⟨ij,_,Ch hx,JO L ?_⟩
  refine IW ?_
  cases g:gP old drop x with
  | none=>
   rw[g]at h
   refine CH rfl ?_
   rw[Ll];exact h
  | some p=>
   rw[g]at h
   refine DD rfl ?_
   have ej:((j:Int)-1)=((j-1:Nat):Int):=by exists 1,0x180b0f1800fb500818,c
   rw[Yc,ej]
   refine⟨BR (by exists 2,0x186a09181b001180000649008,hj,hj2),_,Ch (hy c),JO L ?_⟩
   rw[Ll];exact h
 ·rw[bP1 c]at h ⊢
  refine CH rfl ?_
  rw[Ll];exact h
def ZO(L:Vj es old drop)(hx:nw[j]?=some x)(hy:0<j->nw[j-1]?=some y)(hj:nw.length<=100)
  (h:R (decide (0<j)&&(Ŗ old drop y x).isSome) (iO rw_ dr (ĭ ls) (ĭ ps) nw es du bo [("j",.int (j:Int)),("beside",.bool (KR old drop j y x))])) :
  (ws (Ļ w) B7 27).B (G3 (OF 2)) (iO rw_ dr (ĭ ls) (ĭ ps) nw es du bo [("j",.int (j:Int)),("beside",.bool (KR old drop j y x))]) R:=by
 have hj2:=(aA5.mp hx).1
 rw[Wi]
 have no:KR old drop j y x=false->An (KR old drop j y x) ((ws (Ļ w) B7 26).B (mE 1) (iO rw_ dr (ĭ ls) (ĭ ps) nw es du bo [("j",.int (j:Int)),("beside",.bool (KR old drop j y x))]) λb σ=>An b (R true σ) (R false σ)) (R false (iO rw_ dr (ĭ ls) (ĭ ps) nw es du bo [("j",.int (j:Int)),("beside",.bool (KR old drop j y x))])):=λe=>by
  refine CH e ?_
  have:(decide (0<j)&&(Ŗ old drop y x).isSome)=false:=by
   unfold KR at e
   unfold Ŗ
   by_cases c:0<j
   ·rw[bP0 c]at e ⊢
    cases g:gP old drop x with
    | none=>rfl
    | some p=>cases g2:gP old drop y with
     | none=>rfl
     | some q=>rw[g,g2]at e;cases e
   ·rw[bP1 c];rfl
  rw[this]at h;exact h
 by_cases c:0<j
 ·cases g:gP old drop x with
  | none=>exact no (by unfold KR;rw[g,bP0 c];rfl)
  | some p=>cases g2:gP old drop y with
   | none=>exact no (by unfold KR;rw[g,g2,bP0 c];rfl)
   | some q=>
    refine DD (by unfold KR;rw[g,g2,bP0 c];rfl) ?_
    have ej:((j:Int)-1)=((j-1:Nat):Int):=by exists 1,0x180b0f1800fb500818,c
    rw[ZB]
    refine⟨BR (by exists 2,0x186a091001180000649008,hj,hj2),_,Ch hx,Gc.mpr ⟨_,Ge L g,?_⟩⟩
    rw[Xw,ej]
    refine⟨BR (by exists 2,0x186a09181b001180000649008,hj,hj2),_,Ch (hy c),Gc.mpr ⟨_,Ge L g2,?_⟩⟩
    rw[Gj]
    have hgq:(Ŗ old drop y x).isSome=decide (p=q+1):=by
     unfold Ŗ
     rw[g,g2]
     show(if p=q+1 then some p else none).isSome=_
     by_cases z:p=q+1
     ·rw[bO7 z,bP0 z];rfl
     ·rw[bO8 z,bP1 z];rfl
    rw[hgq,bP0 c]at h
    show(λb σ=>An b (R true σ) (R false σ)) (decide (AB.int (p:Int)=AB.int ((q:Int)+1))) _
    by_cases z:p=q+1
    ·rw[bP0 z]at h
     exact DD (bP0 (by rw[z];rfl)) h
    ·rw[bP1 z]at h
     exact CH (bP1 λe=>z (by have:=AB.int.inj e;exists 2,0x181a021810fa00f58,this)) h
 ·exact no (by unfold KR;rw[bP1 c];rfl)
end
section
variable{w:aB9}{rw_ dr du bo:List AV}{old nw drop ls ps:List Int}{es:List (AB×AV)}{j:Nat}{x y:Int}{K:ſ}{R:Bool->St->Prop}{Q:AV->St->Prop}{u:AV}{b:Bool}
def lT{p:Nat}(h:Ŗ old drop y x=some p):gP old drop x=some p/\p<old.length:=by
 unfold Ŗ at h
 obtain⟨p',h1,h⟩:=AF h
 obtain⟨q,h2,h⟩:=AF h
 by_cases z:p'=q+1
 ·rw[bO7 z]at h;cases h;exact⟨h1,WH h1⟩
 ·rw[bO8 z]at h;cases h
def Tw(L:Vj es old drop)(hl:ps.length=old.length)(hlo:old.length<=100)(hx:nw[j]?=some x)(hy:0<j->nw[j-1]?=some y)(hj:nw.length<=100)(hbo:bo.length<=100)
  (h:K .next (iO rw_ dr (ĭ ls) (ĭ ps) nw es du (bo++[.int (GN old nw drop ps j)]) [("j",.int (j:Int)),("beside",.bool (KR old drop j y x))])) :
  wL (Ļ w) (SO w 28) (Pd.2.drop 2) (iO rw_ dr (ĭ ls) (ĭ ps) nw es du bo [("j",.int (j:Int)),("beside",.bool (KR old drop j y x))]) K:=by
 have hj2:=(aA5.mp hx).1
 have ex:nw.getD j 0=x:=by rw[aB2,hx];rfl
 rw[dE]
 refine ZO L hx hy hj ?_
 unfold GN at h
 rw[ex]at h
 have zero:(if j=0 then(0:Int)else(Ŗ old drop (nw.getD (j-1) 0) x).elim 0 λp=>1+ps.getD p 0)=0->(decide (0<j)&&(Ŗ old drop y x).isSome)=false->An (decide (0<j)&&(Ŗ old drop y x).isSome) (wL (Ļ w) (SO w 27) (B4 (OF 2)) (iO rw_ dr (ĭ ls) (ĭ ps) nw es du bo [("j",.int (j:Int)),("beside",.bool (KR old drop j y x))]) (Ĭ (Ļ w) (SO w 28) [] K)) (wL (Ļ w) (SO w 27) (F6 (OF 2)) (iO rw_ dr (ĭ ls) (ĭ ps) nw es du bo [("j",.int (j:Int)),("beside",.bool (KR old drop j y x))]) (Ĭ (Ļ w) (SO w 28) [] K)):=λe f=>by
  rw[e]at h
  refine CH f ?_
  rw[XA]
  refine F5 (vs:=bo) rfl (small hbo) ?_
  refine I9 (P':=Ļ w) (S':=SO w 28) rfl ?_
  rw[EN];exact h
 by_cases c:j=0
 ·exact zero (bO7 c) (by rw[bP1 (by exists 1,0x81908028,c)];rfl)
 ·have ey:nw.getD (j-1) 0=y:=by rw[aB2,hy (by exists 1,0x81080298,c)];rfl
  rw[ey]at zero h
  cases g:Ŗ old drop y x with
  | none=>
   rw[g]at zero
   exact zero (bO8 c) (by rw[bP0 (by exists 1,0x81080298,c)];rfl)
  | some p=>
   obtain⟨g1,hp⟩:=lT g
   rw[bO8 c,g]at h
   obtain⟨z,hz⟩:=OS (l:=ps) (n:=p) (by exists 3,0x2112181028,hl,hp)
   have ez:ps.getD p 0=z:=by rw[aB2,hz];rfl
   refine DD (by rw[bP0 (by exists 1,0x81080298,c)];rfl) ?_
   rw[Xc]
   refine⟨BR (by exists 2,0x186a091001180000649008,hj,hj2),_,Ch hx,Gc.mpr ⟨_,Ge L g1,Jx.mpr ⟨BR (by exists 2,0x186a091001180000649008,hlo,hp),_,Ch hz,?_⟩⟩⟩
   rw[Gj,<-ez]
   refine F5 (vs:=bo) rfl (small hbo) ?_
   refine I9 (P':=Ļ w) (S':=SO w 28) rfl ?_
   rw[EN];exact h
end
section
variable{w:aB9}{rw_ dr:List AV}{old nw drop ls ps:List Int}{es:List (AB×AV)}{j:Nat}{K:ſ}{Q:AV->St->Prop}
def Ui{du bo:List AV}{r:List (Str×AV)}{a b:List AV}:Ac (iO rw_ dr a b nw es du bo r) (iO rw_ dr a b nw es du bo []):=.less (ρ:=(iO rw_ dr a b nw es du bo []).ρ++r) (λx v e=>CA e) λ_ _=>id
def YH(L:Vj es old drop)(hl:ls.length=old.length)(hp:ps.length=old.length)(hlo:old.length<=100)(hn:nw.length<=100)(hj:j<nw.length)
  (h :∀r,K .next (iO rw_ dr (ĭ ls) (ĭ ps) nw es (ĭ ((ES old nw drop ls).take (j+1))) (ĭ ((C5 old nw drop ps).take (j+1))) r)) :
  Tk w (.int (j:Int)) (iO rw_ dr (ĭ ls) (ĭ ps) nw es (ĭ ((ES old nw drop ls).take j)) (ĭ ((C5 old nw drop ps).take j)) []) K:=by
 obtain⟨x,hx⟩:=OS hj
 have hy:0<j->nw[j-1]?=some (nw.getD (j-1) 0):=λc=>by
  obtain⟨y,e⟩:=OS (l:=nw) (n:=j-1) (by exists 2,0x1180b11018,hj)
  rw[aB2,e];rfl
 have hd:(ES old nw drop ls)[j]?=some ((gP old drop x).elim 0 λp=>1+ls.getD p 0):=by
  unfold ES
  rw[aC5,hx];rfl
 have hb:(C5 old nw drop ps)[j]?=some (GN old nw drop ps j):=by
  unfold C5
  rw[aC5,bC3 hj];rfl
 have l1:((ES old nw drop ls).take j).length<=100:=by rw[aG2];exists 3,0x64921d001180000649008,hn,hj
 have l2:((C5 old nw drop ps).take j).length<=100:=by rw[aG2];exists 3,0x64921d001180000649008,hn,hj
 rw[C8 hd,C8 hb]at h
 refine eQ L hl hlo hx hn (by rw[AW];exact l1) (cK L hx hy hn (Tw L hp hlo hx hy hn (by rw[AW];exact l2) ?_))
 have:=h [("j",.int (j:Int)),("beside",.bool (KR old drop j (nw.getD (j-1) 0) x))]
 rw[<-D0,<-D0]at this
 exact this
def Tb{du bo:List Int}(hr:AD nn rw_=some rw_)(hd:AD nn dr=some dr):Ac ⟨oN rw_ dr (("lines",.ref 0)::("pairs",.ref 1)::("new",.lst (ĭ nw))::("place",.dct es)::[("both",.ref 1),("due",.ref 0)]),[(0,.list (ĭ du)),(1,.list (ĭ bo))],2,0⟩ ⟨oB rw_ dr (ĭ du) (ĭ bo) [],[],0,0⟩:=
 .re [] [(0,.lst (ĭ du)),(1,.lst (ĭ bo))] rfl rfl rfl rfl (Aq rfl rfl rfl (A0 _) (Aq rfl rfl rfl (A0 _) Bc)) (Bo rfl (AK _ _ (AR hr)) (Bo rfl (AK _ _ (AR hd)) (Bo rfl rfl (Bo rfl rfl Be)))) Bd
end
def B3(l:List (List Int)):AD nn (l.map B0)=some (l.map B0):=Eb (λx=>A0 x) l
def GO{l:List (List Int)}{k:Nat}{x:List Int}(h:l[k]?=some x):(l.map B0)[k]?=some (B0 x):=(aC5 ..).trans (bO6 (aD8 B0) h)
section
variable{w:aB9}{row drops:List (List Int)}{old nw drop ls ps:List Int}{k:Nat}{K:ſ}
def UX{a b:List AV}{es:List (AB×AV)}{v:Int}(hs:AI nn es=some es)(ha:AD nn a=some a)(hb:AD nn b=some b):Ac ⟨oB (row.map B0) (drops.map B0) a b [("v",.int v),("old",.lst (ĭ old)),("new",.lst (ĭ nw)),("place",.ref 0)],[(0,.dict es)],1,0⟩ ⟨ĺ (row.map B0) (drops.map B0) a b nw es [],[],0,0⟩:=
 .re [] [(0,.dct es)] rfl rfl rfl rfl (Aq rfl rfl rfl (bO6 (aD8 AV.dct) hs) Bc) (Bo rfl (AK _ _ (AR (B3 row))) (Bo rfl (AK _ _ (AR (B3 drops))) (Bo rfl (AK _ _ (AR ha)) (Bo rfl (AK _ _ (AR hb)) (Bo rfl (AK _ _ (A0 nw)) (Bo rfl rfl Be)))))) Bd
def X7(e1:row[k]?=some old)(e2:row[k+1]?=some nw)(e3:drops[k]?=some drop)(ho:old.Nodup)(lo:old.length<=12)(ln:nw.length<=12)(hk:k<=900)(hl:ls.length=old.length)(hp:ps.length=old.length)
  (hK :∀es,K .next ⟨oN (row.map B0) (drops.map B0) (("lines",.ref 0)::("pairs",.ref 1)::("new",.lst (ĭ nw))::("place",.dct es)::[("both",.ref 1),("due",.ref 0)]),[(0,.list (ĭ (ES old nw drop ls))),(1,.list (ĭ (C5 old nw drop ps)))],2,0⟩) :
  XF w (.int ((k+1:Nat):Int)) ⟨oB (row.map B0) (drops.map B0) (ĭ ls) (ĭ ps) [],[],0,0⟩ K:=by
 have ev:(((k+1:Nat):Int)-1)=(k:Int):=by exists 1,0xf18180a0fb5
 rw[dG,ev]
 refine⟨BR (by exists 1,0x186a09000003849008,hk),_,Cz (GO e1),BR (by exists 1,0x186a09180a00003849008,hk),_,Cz (GO e2),rfl,?_⟩
 show wL (Ļ w) (SO w 29) (Pe.2.drop 1) ⟨oB (row.map B0) (drops.map B0) (ĭ ls) (ĭ ps) [("v",.int ((k+1:Nat):Int)),("old",.lst (ĭ old)),("new",.lst (ĭ nw))],[],0,0⟩ K
 rw[jF,AW,vK.1]
 refine⟨small (aA3 lo (by decide)),⟨by decide,by decide,by(exists 1,0xf0f424091f3),by exists 1,0xf4240900f3c8008,lo⟩,?_⟩
 rw[show((old.length:Int)-0).toNat=old.length by exists 2,0x102080810fbe00f58,(aD6 _)]
 refine Qs (v:=k+1) ho (aA3 lo (by decide)) ⟨by(exists 1,0x180a081),by exists 1,0x3e89180a00003849008,hk⟩ (GO e3) rfl rfl rfl λes hP=>lP.mpr ?_
 have L:Vj es old drop:=λx=>by have:=hP.look x;rwa[aR3]at this
 rw[dB]
 refine⟨_,UX hP.shut (CB ls) (CB ps),bN.mpr ?_⟩
 rw[AW]
 refine⟨rfl,small (aA3 ln (by decide)),⟨by decide,by decide,by(exists 1,0xf0f424091f3),by exists 1,0xf4240900f3c8008,ln⟩,?_⟩
 rw[show((nw.length:Int)-0).toNat=nw.length by exists 2,0x102080810fbe00f58,(aD6 _)]
 refine⟨λj τ=>τ=iO (row.map B0) (drops.map B0) (ĭ ls) (ĭ ps) nw es (ĭ ((ES old nw drop ls).take j)) (ĭ ((C5 old nw drop ps).take j)) [],⟨_,.refl _,rfl⟩,λj τ v hv hI=>?_,λτ hI=>?_⟩
 ·subst hI
  have hj:=(aA5.mp hv).1
  rw[AQ]at hj
  cases aA1 (hv.symm.trans (As hj))
  rw[aL3]
  exact YH L hl hp (aA3 lo (by decide)) (aA3 ln (by decide)) hj λr=>⟨_,Ui,rfl⟩
 ·subst hI
  rw[AQ,show(ES old nw drop ls).take nw.length=ES old nw drop ls from aP2 (aB7 (aB0 ..)),show(C5 old nw drop ps).take nw.length=C5 old nw drop ps from aP2 (aB7 ((aB0 ..).trans aG6)),Cn,lU]
  exact⟨rfl,hK es⟩
end
def I8:Ŕ:=λas os Q=>∃(row drops:List (List Int)) (n:Nat),as=[.lst (row.map B0),.lst (drops.map B0)]/\os=[]/\row.length=n+1/\drops.length=n/\n<=90/\(∀l∈row,l.Nodup/\l.length<=12)/\Q (.tup [.lst (ĭ (BA row drops n).1),.lst (ĭ (BA row drops n).2)]) []
section
variable{w:aB9}{rw_ dr:List AV}{l:List Int}{Q:AV->St->Prop}{M:List AV}
def a6(l:List Int):(aC8 l.length).flatMap (λ_=>[AV.int 0])=ĭ (l.map λ_=>0):=by
 rw[MR]
 show(aC8 l.length).map (λ_=>AV.int 0)=aP9 AV.int (l.map λ_=>0)
 rw[aO2]
 exact List.ext_getElem (by rw[aB0,aB0,aG6]) λi h1 h2=>by rw[bF9,bF9];rfl
def NK{tn:AV->St->(St->Prop)->Prop}{ρ₀:List (Str×AV)}{H:List (Nat×AO)}{n:Nat}(hl:l.length<=100)
  (ht :∀(k:Int) H m q (R:St->Prop),tn (.int k) ⟨[],H,m,q⟩ R=BO .append [.ref n,.int 0] ⟨[("line",.int k)],H,m,q⟩ λ_ τ=>R τ) (hu :∀(k:Int) (u:AV) H m q (R:St->Prop),tn (.int k) ⟨[("line",u)],H,m,q⟩ R=BO .append [.ref n,.int 0] ⟨[("line",.int k)],H,m,q⟩ λ_ τ=>R τ)
  (h:Q (.ref n) ⟨ρ₀,Al H n (.list (ĭ (l.map λ_=>0))),n+1,0⟩):BC (.list []) (ĭ l) tn [] ⟨ρ₀,H,n,0⟩ Q:=by
 refine Dl (λ_=>[AV.int 0]) (λρ=>ρ=[]\/∃u:AV,ρ=([("line",u)]:List (Str×AV))) (.inl rfl) (λ_ _ _ _=>trivial) (by rw[AW];exact aA3 hl (by decide)) (λ_=>aA9 _) (λk v hv ρ L K hI hL hK=>?_) ?_
 ·obtain⟨x,hx,rfl⟩:=map_some ((aC5 ..).symm.trans hv)
  have go:=hK _ (.inr ⟨.int x,rfl⟩)
  exact hI.elim (λe=>e▸(ht _ _ _ _ _).mpr (E4 hL go)) λq=>q.elim λu e=>e▸(hu _ _ _ _ _ _).mpr (E4 hL go)
 ·rw[AW,a6];exact h
end
def vN{w:aB9}{d:Nat}:LP (lF w) (H0 w.params) (Ļ w) d ļ L4 aM KQ aI:=Sz (λ_ _ e=>nomatch e) (λe=>nomatch e) (λe=>nomatch e) (λ_ e=>nomatch e)
def U6{row drops:List (List Int)}{a b:List Int}:Ac ⟨oN (row.map B0) (drops.map B0) [("pairs",.ref 1),("lines",.ref 0)],[(0,.list (ĭ a)),(1,.list (ĭ b))],2,0⟩ ⟨oB (row.map B0) (drops.map B0) (ĭ a) (ĭ b) [],[],0,0⟩:=
 .re [] [(0,.lst (ĭ a)),(1,.lst (ĭ b))] rfl rfl rfl rfl (Aq rfl rfl rfl (A0 _) (Aq rfl rfl rfl (A0 _) Bc)) (Bo rfl (AK _ _ (AR (B3 row))) (Bo rfl (AK _ _ (AR (B3 drops))) (Bo rfl rfl (Bo rfl rfl Be)))) Bd
def RB{w:aB9}{d:Nat}:BP (lF w) (H0 w.params) (d+2) (.ref 273) I8:=
 Pf vN (Rk _).2.2 (Rk _).1 (Rk _).2.1 (ps:=["row","drops"]) (fuel:=30) (by decide) (by rfl') (Ka λa b=>by rfl') λas os Q hh=>by
  obtain⟨row,drops,n,ea,eo,hr,hd,hn,hw,hq⟩:=hh
  subst ea;subst eo
  obtain⟨l0,e0⟩ :∃l,row[0]?=some l:=⟨_,aA6 (by exists 2,0x81181a028,hr)⟩
  have h0:=hw l0 (aB8 e0)
  have g0:row.getD 0 []=l0:=by rw[aB2,e0];rfl
  have gd :∀{l:List (List Int)} {k:Nat} {x:List Int},l[k]?=some x->l.getD k []=x:=λh=>by rw[aB2,h];rfl
  refine⟨⟨rfl,B6⟩,uV.mpr ⟨BR (n:=0) (by decide),_,Cz (k:=0) (GO e0),CB l0,?_⟩⟩
  rw[vK.2.1]
  refine NK (aA3 h0.2 (by decide)) (λ_ _ _ _ _=>kL) (λ_ _ _ _ _ _=>aW) (cL.mpr ⟨BR (n:=0) (by decide),_,Cz (k:=0) (GO e0),CB l0,?_⟩)
  rw[vK.2.2]
  refine NK (aA3 h0.2 (by decide)) (λ_ _ _ _ _=>X0) (λ_ _ _ _ _ _=>W5) (jP.mpr ⟨rfl,j6.mpr ⟨by rw[aB0];exact small (by exists 2,0x6490000005a9108181a028,hr,hn),⟨by decide,by decide,by rw[aB0];(exists 1,0xf0f424091f3),by rw[aB0];exists 2,0xf4240900f300005a9108181a028,hr,hn⟩,?_⟩⟩)
  rw[aB0,show((row.length:Int)-1).toNat=n by exists 3,0x122081800fbe20f58181a028,hr,(aD6 _)]
  refine⟨λk τ=>τ=⟨oB (row.map B0) (drops.map B0) (ĭ (BA row drops k).1) (ĭ (BA row drops k).2) [],[],0,0⟩,⟨_,U6,by unfold BA;rw[g0]⟩,λk τ v hv hI=>?_,λτ hI=>?_⟩
  ·subst hI
   have hk:=(aA5.mp hv).1
   rw[AQ]at hk
   cases aA1 (hv.symm.trans (As hk))
   obtain⟨old,e1⟩ :∃l,row[k]?=some l:=⟨_,aA6 (by exists 3,0x211218181a028,hr,hk)⟩
   obtain⟨nw,e2⟩ :∃l,row[k+1]?=some l:=⟨_,aA6 (by exists 3,0x182a11218181a028,hr,hk)⟩
   obtain⟨drop,e3⟩ :∃l,drops[k]?=some l:=⟨_,aA6 (by exists 3,0x2112181028,hd,hk)⟩
   have ho:=hw old (aB8 e1)
   have hb:=Ew (row:=row) (drops:=drops) (k:=k)
   rw[gd e1]at hb
   rw[show(1:Int)+(k:Int)=((k+1:Nat):Int)by exists 1,0x180a0f00f18a5]
   refine X7 e1 e2 e3 ho.1 ho.2 (hw nw (aB8 e2)).2 (by exists 2,0x384910011800005a9008,hn,hk) hb.1 hb.2 λes=>⟨_,Tb (B3 row) (B3 drops),?_⟩
   have eb:BA row drops (k+1)=(ES old nw drop (BA row drops k).1,C5 old nw drop (BA row drops k).2):=by rw[BA,gd e1,gd e2,gd e3]
   show _=(⟨oB (row.map B0) (drops.map B0) (ĭ (BA row drops (k+1)).1) (ĭ (BA row drops (k+1)).2) [],[],0,0⟩:St)
   rw[eb]
  ·subst hI
   rw[AQ,Cn,jW]
   exact GP (fl:=.ret _) rfl (AR (AH (A0 _) (AH (A0 _) rfl))) hq
noncomputable def Yi:Pos->Bool:=λp=>(aD0 p.line 492&&aD0 p.col 27)||aD0 p.line 493||aD0 p.line 497
noncomputable def bY:Pos->Bool:=λp=>aD0 p.line 499||aD0 p.line 506
noncomputable def sS:aC1->Option Ŕ:=λf=>bif aD0 f 258 then some NE else bif aD0 f 181 then some J1 else bif aD0 f 174 then some N8 else bif aD0 f 203 then some Mr else bif aD0 f 263 then some N6 else bif aD0 f 268 then some IU else bif aD0 f 273 then some I8 else none
abbrev ı(w:aB9):Pm:=Qk w.params sS (some Rd) false false Yi bY
noncomputable def iX(W:ŷ):ŷ:=⟨λe σ Q=>aH3 (W.E e σ Q) (e=LD/\σ.H.lookup 0=some (.tab false)/\Q .lam (σ.set 0 (.tab true))) (ix e 4),W.B,W.A⟩
noncomputable def XY(P:Pm)(sc:Scope)(f:Nat)(W:ŷ):ŷ:=⟨NH P sc (Li P f) W,NQ W,Nk P sc W⟩
def Rx(P:Pm)(sc:Scope)(f:Nat):ŷ:=XY P sc f (XY P sc f (iX (ws P sc f)))
noncomputable def Qu(s:aE7):Bool:=aD0 s.ctorIdx 5
def g5(P:Pm)(sc:Scope)(l f:Nat):ĥ:=λs σ K=>aH3 (EI P sc f s σ K) (Fl sc (Rx P sc f) (Ak s) (Bl s) s.pos.line σ K) (Qu s&&aD0 s.pos.line l)
abbrev SL(w:aB9):ĥ:=g5 (ı w) Fs 498 30
abbrev wS(w:aB9)(f:Nat):ĥ:=EI (ı w) Fs f
abbrev Ň(w:aB9)(f:Nat):WE:=(ws (ı w) Fs f).E
abbrev xG(w:aB9)(f:Nat):Ŷ:=(ws (ı w) Fs f).B
abbrev KA(w:aB9)(f:Nat):WA:=(ws (ı w) Fs f).A
def gL(n:Nat):aE7:=DO.getD n (.Pass AM)
def Ye:Expr×List aE7:=Cp (gL 1)
def SY:Expr×List aE7:=Cp (gL 3)
def Pc:Expr×List aE7:=Cp (gL 4)
def ZC(w:aB9):AV->St->ſ->Prop:=λv σ K=>KA w 29 Ye.1 v σ λσ=>wL (ı w) (wS w 29) Ye.2 σ K
def YJ(w:aB9):AV->St->ſ->Prop:=λv σ K=>KA w 29 SY.1 v σ λσ=>wL (ı w) (wS w 29) SY.2 σ K
def W6(w:aB9):AV->St->ſ->Prop:=λv σ K=>KA w 29 Pc.1 v σ λσ=>wL (ı w) (wS w 29) Pc.2 σ K
def a9(n:Nat):aE7:=Ye.2.getD n (.Pass AM)
def nZ(n:Nat):aE7:=SY.2.getD n (.Pass AM)
def kP(n:Nat):aE7:=Pc.2.getD n (.Pass AM)
abbrev uP:AV:=.lst (ĭ [0,1,2,3,4,5])
abbrev Δ(sc:List Int)(made:Int)(T D:List AV)(tl:List (Str×AV))(H:List (Nat×AO))(n:Nat):St:=⟨("script",.lst (ĭ sc))::("made",.int made)::("drops",.ref 2)::("texts",.ref 1)::tl,(0,.tab false)::(1,.list T)::(2,.list D)::H,n,1⟩
section
variable{w:aB9}{sc tx dr:List Int}{made x k:Int}{T D M:List AV}{tl:List (Str×AV)}{H:List (Nat×AO)}{n m a:Nat}{v u:AV}{K:ſ}{R:St->Prop}{Q:AV->St->Prop}
def l0:wL (ı w) (SL w) DO ⟨[("script",.lst (ĭ sc))],[(0,.tab false)],1,1⟩ K=(3=3/\wL (ı w) (SL w) (DO.drop 1) (Δ sc 6 [uP] [] [] [] 3) K):=by rfl'
def l1:wL (ı w) (SL w) (DO.drop 1) (Δ sc 6 T D [] [] 3) K=(AE (5+(ĭ sc).length)/\AD nn (ĭ [41,7,39,43,30]++ĭ sc)=some (ĭ [41,7,39,43,30]++ĭ sc)/\Cc (ĭ [41,7,39,43,30]++ĭ sc) (ZC w) (wL (ı w) (wS w 29) []) (Δ sc 6 T D [] [] 3) (Ĭ (ı w) (SL w) (DO.drop 2) K)):=by rfl'
def ź:ZC w (.int x) (Δ sc made T D [] [] 3) K=(Ar (-1)/\∃v,CD T (-1)=some v/\BE NE [.int x,v,.int made] (Δ sc made T D [("x",.int x)] [] 3) λr σ=>BG (KA w 28) (Ak (a9 0)) r σ λσ=>wL (ı w) (wS w 29) (Ye.2.drop 1) σ K):=by rfl'
def a2:BG (KA w 28) (Ak (a9 0)) (.tup [.lst (ĭ tx),.lst (ĭ dr)]) (Δ sc made T D [("x",.int x)] [] 3) R=(2=2/\R (Δ sc made T D [("x",.int x),("text",.lst (ĭ tx)),("drop",.lst (ĭ dr))] [] 3)):=by rfl'
abbrev ņ(x:Int)(tx dr:List Int):List (Str×AV):=[("x",.int x),("text",.lst (ĭ tx)),("drop",.lst (ĭ dr))]
def cM:CL:=Jd (ZY ((AU (Bl (a9 3))).2.1.getD 0 Jt)).2
def a3:wL (ı w) (wS w 29) (Ye.2.drop 1) (Δ sc made T D (ņ x tx dr) [] 3) K=(AE T.length/\AE D.length/\wL (ı w) (wS w 29) (Ye.2.drop 3) (Δ sc made (T++[.lst (ĭ tx)]) (D++[.lst (ĭ dr)]) (ņ x tx dr) [] 3) K):=by rfl'
def š:wL (ı w) (wS w 29) (Ye.2.drop 3) (Δ sc made T D (ņ x tx dr) [] 3) K=(AD nn (ĭ tx)=some (ĭ tx)/\BC (.list []) (ĭ tx) (Ej (ı w) 25 Fs cM 3) (Bh cM.2.2) (Δ sc made T D (ņ x tx dr) [] 3) λv σ=>FL .Add (.lst [.int made]) v σ λa σ=>D1 (ı w) (.fn .max) [a] σ λv σ=>BG (KA w 28) (Ak (a9 3)) v σ λσ=>K .next σ):=by rfl'
def zN:Bh cM.2.2=[]:=by rfl'
def ĉ{R:St->Prop}:Ej (ı w) 25 Fs cM n (.int k) ⟨[],H,m,a⟩ R=BO .append [.ref n,.int (k+1)] ⟨[("line",.int k)],H,m,a⟩ λ_ τ=>R τ:=by rfl'
def À{R:St->Prop}:Ej (ı w) 25 Fs cM n (.int k) ⟨[("line",v)],H,m,a⟩ R=BO .append [.ref n,.int (k+1)] ⟨[("line",.int k)],H,m,a⟩ λ_ τ=>R τ:=by rfl'
def yL{A:List Int}{σ:St}(h:D5 (ĭ A)=some A):D1 (ı w) (.fn .max) [.lst (ĭ A)] σ Q=Jw [.lst (ĭ A)] σ Q:=rfl
def Ö:BG (KA w 28) (Ak (a9 3)) (.int k) (Δ sc made T D (ņ x tx dr) H n) R=R (Δ sc k T D (ņ x tx dr) H n):=by rfl'
end
abbrev iJ(a b mb op fb b2j bj:AV):AO:=.inst aD (DB a b mb op fb b2j bj)
abbrev G6(T D:List AV)(I:AO)(C:List AV)(tl:List (Str×AV)):St:=⟨("drops",.lst D)::("texts",.lst T)::("matcher",.ref 1)::("chain",.ref 2)::tl,[(0,.tab true),(1,I),(2,.list C)],3,1⟩
abbrev xK(sc:List Int)(made:Int)(T D:List AV)(I:AO)(C:List AV):St:=⟨("script",.lst (ĭ sc))::("made",.int made)::("drops",.ref 2)::("texts",.ref 1)::[("chain",.ref 4),("matcher",.ref 3)],[(0,.tab true),(1,.list T),(2,.list D),(3,I),(4,.list C)],5,1⟩
section
variable{w:aB9}{sc:List Int}{made x v:Int}{T D C B:List AV}{tl:List (Str×AV)}{H:List (Nat×AO)}{n:Nat}{a b mb op fb b2j bj u:AV}{I:AO}{K:ſ}{R:St->Prop}{Q:AV->St->Prop}{Z:List AV->St->Prop}{σ:St}
abbrev wM(w:aB9)(K:ſ):List AV->St->Prop:=λvs σ=>aD5 (BG (Rx (ı w) Fs 30).A (Ak (gL 2)) (.tup vs) σ λσ=>wL (ı w) (SL w) (DO.drop 3) σ K) (λxs=>PO (.tup vs) xs.length σ λvs σ=>Ze Fs xs.reverse vs.reverse σ λσ=>wL (ı w) (SL w) (DO.drop 3) σ K) ((ans (aV8 (Ak (gL 2)) (Bl (gL 2)) (IQ Fs))).getD none)
def l2:wL (ı w) (SL w) (DO.drop 2) (Δ sc made T D [] [] 3) K=(LD=LD/\some (AO.tab false)=some (.tab false)/\BE Rd [.ref 3,.lam] ⟨("script",.lst (ĭ sc))::("made",.int made)::("drops",.ref 2)::("texts",.ref 1)::[],[(0,.tab true),(1,.list T),(2,.list D),(3,.inst aD [])],4,1⟩ λr σ=>r = .none/\wM w K [.ref 3,.ref σ.n] (σ.new (.list []))):=by rfl'
def yU:wM w K [.ref 3,.ref 4] ⟨("script",.lst (ĭ sc))::("made",.int made)::("drops",.ref 2)::("texts",.ref 1)::[],[(0,.tab true),(1,.list T),(2,.list D),(3,I),(4,.list C)],5,1⟩=(2=2/\wL (ı w) (SL w) (DO.drop 3) (xK sc made T D I C) K):=by rfl'
def l3:wL (ı w) (SL w) (DO.drop 3) σ K =∃τ,Ac σ τ/\SL w (gL 3) τ (Ĭ (ı w) (SL w) (DO.drop 4) K):=by rfl'
def b1:SL w (gL 3) (G6 T D I C []) K=(AE T.length/\BH 1 T.length/\Cc (Ah 1 ((T.length:Int)-1).toNat) (YJ w) (wL (ı w) (wS w 29) []) (G6 T D I C []) K):=by rfl'
def b2:YJ w (.int v) (G6 T D (iJ a b mb op fb b2j bj) C []) K=(Ar v/\∃x,CD T v=some x/\BE J1 [.ref 1,x] (G6 T D (iJ a b mb op fb b2j bj) C [("v",.int v)]) λ_ σ=>wL (ı w) (wS w 29) (SY.2.drop 1) σ K):=by rfl'
def b3:wL (ı w) (wS w 29) (SY.2.drop 1) (G6 T D (iJ a b mb op fb b2j bj) C [("v",.int v)]) K=(Ar (v-1)/\∃x,CD T (v-1)=some x/\BE N8 [.ref 1,x] (G6 T D (iJ a b mb op fb b2j bj) C [("v",.int v)]) λ_ σ=>wL (ı w) (wS w 29) (SY.2.drop 2) σ K):=by rfl'
def ģ:List Expr:=(AU (Bl (nZ 2))).2.1
def Ŵ:wL (ı w) (wS w 29) (SY.2.drop 2) (G6 T D (iJ a b mb op fb b2j bj) C [("v",.int v)]) K=BE Mr [.ref 1] (G6 T D (iJ a b mb op fb b2j bj) C [("v",.int v)]) λu σ=>Lu (Ň w 27) (ģ.drop 1) σ λvs σ=>D1 (ı w) (.glo 263) (u::vs) σ λr σ=>BG (KA w 28) (Ak (nZ 2)) r σ λσ=>wL (ı w) (wS w 29) (SY.2.drop 3) σ K:=by rfl'
def ċ:Lu (Ň w 27) (ģ.drop 1) (G6 T D I C [("v",.int v)]) Z=(Ar (v-1)/\∃a,CD T (v-1)=some a/\Ar v/\∃b,CD T v=some b/\Z [a,b] (G6 T D I C [("v",.int v)])):=by rfl'
def yD{V:List AV}:D1 (ı w) (.glo 263) V σ Q=BE N6 V σ Q:=by rfl'
def zM:BG (KA w 28) (Ak (nZ 2)) u (G6 T D I C [("v",.int v)]) R=R (G6 T D I C [("v",.int v),("blocks",u)]):=by rfl'
def Ÿ:wL (ı w) (wS w 29) (SY.2.drop 3) (G6 T D I C [("v",.int v),("blocks",.lst B)]) K=(AE C.length/\K .next (G6 T D I (C++[.lst B]) [("v",.int v),("blocks",.lst B)])):=by rfl'
end
def qK:Expr×List aE7:=Cp (kP 2)
def Y4:Expr×List aE7:=Cp (qK.2.getD 0 (.Pass AM))
def TN(n:Nat):aE7:=Y4.2.getD n (.Pass AM)
def cR(w:aB9):AV->St->ſ->Prop:=λv σ K=>KA w 28 qK.1 v σ λσ=>wL (ı w) (wS w 28) qK.2 σ K
def Wl(w:aB9):AV->St->ſ->Prop:=λv σ K=>KA w 27 Y4.1 v σ λσ=>wL (ı w) (wS w 27) Y4.2 σ K
abbrev CE(T D C:List AV)(tl:List (Str×AV)):St:=⟨("drops",.lst D)::("texts",.lst T)::("chain",.lst C)::tl,[(0,.tab true)],1,1⟩
abbrev Θ(s:Int)(W:List AV)(L P:List Int)(tl:List (Str×AV)):List (Str×AV):=("side",.int s)::("row",.lst W)::("lines",.lst (ĭ L))::("pairs",.lst (ĭ P))::tl
section
variable{w:aB9}{T D C W:List AV}{L P:List Int}{tl:List (Str×AV)}{s lo hi d p:Int}{x u v:AV}{K:ſ}{R:St->Prop}{V:Bool->St->Prop}{Q:AV->St->Prop}{Z:List AV->St->Prop}{σ:St}
def ŗ:wL (ı w) (SL w) (DO.drop 4) σ K =∃τ,Ac σ τ/\SL w (gL 4) τ (Ĭ (ı w) (SL w) (DO.drop 5) K):=by rfl'
def Ź:wL (ı w) (SL w) (DO.drop 5) (CE T D C tl) K=K (.ret (.bool true)) (CE T D C tl):=by rfl'
def xV:SL w (gL 4) (CE T D C []) K=(AD nn [AV.int 0,AV.int 1]=some [AV.int 0,AV.int 1]/\Cc [.int 0,.int 1] (W6 w) (wL (ı w) (wS w 29) []) (CE T D C []) K):=by rfl'
abbrev mO:Prop:=(some (-1):Option Int)≠some 0
def Ã:W6 w (.int 0) (CE T D C []) K=((mO/\AE T.length/\wL (ı w) (wS w 29) (Pc.2.drop 1) (CE T D C [("side",.int 0),("row",.lst (Ag T none none (some (-1))))]) K)):=by rfl'
def qZ:W6 w (.int 1) (CE T D C []) K=wL (ı w) (wS w 29) (Pc.2.drop 1) (CE T D C [("side",.int 1),("row",.lst T)]) K:=by rfl'
def yH:wL (ı w) (wS w 29) (Pc.2.drop 1) (CE T D C [("side",.int 0),("row",.lst W)]) K=(mO/\AE D.length/\BE I8 [.lst W,.lst (Ag D none none (some (-1)))] (CE T D C [("side",.int 0),("row",.lst W)]) λr σ=>BG (KA w 28) (Ak (kP 1)) r σ λσ=>wL (ı w) (wS w 29) (Pc.2.drop 2) σ K):=by rfl'
def oV:wL (ı w) (wS w 29) (Pc.2.drop 1) (CE T D C [("side",.int 1),("row",.lst W)]) K=(BE I8 [.lst W,.lst D] (CE T D C [("side",.int 1),("row",.lst W)]) λr σ=>BG (KA w 28) (Ak (kP 1)) r σ λσ=>wL (ı w) (wS w 29) (Pc.2.drop 2) σ K):=by rfl'
def uK:BG (KA w 28) (Ak (kP 1)) (.tup [.lst (ĭ L),.lst (ĭ P)]) (CE T D C [("side",.int s),("row",.lst W)]) R=(2=2/\R (CE T D C (Θ s W L P []))):=by rfl'
def ÿ:wL (ı w) (wS w 29) (Pc.2.drop 2) (CE T D C (Θ s W L P [])) K=(Ar (-1)/\∃v,CD W (-1)=some v/\D1 (ı w) (.fn .len) [v] (CE T D C (Θ s W L P [])) λn σ=>GL [n] σ λitems σ=>Cc items (cR w) (wL (ı w) (wS w 28) []) σ K):=by rfl'
def Ò:cR w (.int lo) (CE T D C (Θ s W L P [])) K=(Ar (-1)/\∃v,CD W (-1)=some v/\D1 (ı w) (.fn .len) [v] (CE T D C (Θ s W L P [("low",.int lo)])) λn σ=>FL .Add n (.int 1) σ λm σ=>GL [.int (lo+1),m] σ λitems σ=>Cc items (Wl w) (wL (ı w) (wS w 27) []) σ K):=by rfl'
abbrev u5(L P:List Int)(lo hi:Int):List AV:=Ag (ĭ L) (some lo) (some hi) none++Ag (ĭ P) (some (lo+1)) (some hi) none
def Î:Wl w (.int hi) (CE T D C (Θ s W L P [("low",.int lo)])) K=(Le/\AE (ĭ L).length/\Le/\AE (ĭ P).length/\AE ((Ag (ĭ L) (some lo) (some hi) none).length+(Ag (ĭ P) (some (lo+1)) (some hi) none).length)/\JD [.lst (u5 L P lo hi)] (CE T D C (Θ s W L P [("low",.int lo),("high",.int hi)])) λv σ=>BG (KA w 26) (Ak (TN 0)) v σ λσ=>wL (ı w) (wS w 27) (Y4.2.drop 1) σ K):=by rfl'
def sC:BG (KA w 26) (Ak (TN 0)) (.int d) (CE T D C (Θ s W L P [("low",.int lo),("high",.int hi)])) R=R (CE T D C (Θ s W L P [("low",.int lo),("high",.int hi),("due",.int d)])):=by rfl'
def xB:List Expr:=(AU (Bl (TN 1))).2.1
def yW:wL (ı w) (wS w 27) (Y4.2.drop 1) (CE T D C (Θ s W L P [("low",.int lo),("high",.int hi),("due",.int d)])) K=(AE W.length/\Ar ((W.length:Int)-1-d)/\∃a,CD W ((W.length:Int)-1-d)=some a/\Ab (MD (ı w).K a "index" (CE T D C (Θ s W L P [("low",.int lo),("high",.int hi),("due",.int d)]))) λg=>Lu (Ň w 25) xB (CE T D C (Θ s W L P [("low",.int lo),("high",.int hi),("due",.int d)])) λvs σ=>D1 (ı w) g.1 (bif g.2 then a::vs else vs) σ λv σ=>BG (KA w 26) (Ak (TN 1)) v σ λσ=>wL (ı w) (wS w 27) (Y4.2.drop 2) σ K):=by rfl'
def vZ{A:List AV}{Z:AV×Bool->Prop}:Ab (MD (ı w).K (.lst A) "index" σ) Z=Z (.fn .index,true):=by rfl'
def tP:Lu (Ň w 25) xB (CE T D C (Θ s W L P [("low",.int lo),("high",.int hi),("due",.int d)])) Z=(Ar (-1)/\∃a,CD W (-1)=some a/\Fo a (.int lo) (CE T D C (Θ s W L P [("low",.int lo),("high",.int hi),("due",.int d)])) λv σ=>Z [v] σ):=by rfl'
def qE{A:List AV}{v:AV}:D1 (ı w) (.fn .index) [.lst A,v] σ Q=BO .index [.lst A,v] σ Q:=by rfl'
def qH:BG (KA w 26) (Ak (TN 1)) (.int p) (CE T D C (Θ s W L P [("low",.int lo),("high",.int hi),("due",.int d)])) R=R (CE T D C (Θ s W L P [("low",.int lo),("high",.int hi),("due",.int d),("place",.int p)])):=by rfl'
abbrev Ũ(lo hi d p:Int):List (Str×AV):=[("low",.int lo),("high",.int hi),("due",.int d),("place",.int p)]
def cX:Expr×List Expr:=Xk (G3 (TN 2))
def yJ:wL (ı w) (wS w 27) (Y4.2.drop 2) (CE T D C (Θ s W L P (Ũ lo hi d p))) K=xG w 26 (G3 (TN 2)) (CE T D C (Θ s W L P (Ũ lo hi d p))) λc σ=>An c (wL (ı w) (wS w 26) (B4 (TN 2)) σ (Ĭ (ı w) (wS w 27) [] K)) (K .next σ):=by rfl'
def nR:xG w 26 (G3 (TN 2)) σ V=Ň w 25 cX.1 σ λa σ=>Ň w 25 (cX.2.getD 0 Jt) σ λb σ=>Cm .NotEq a b σ λv σ=>CV v σ V:=by rfl'
def nX:Ň w 25 cX.1 (CE T D C (Θ 0 W L P (Ũ lo hi d p))) Q=BE IU [.lst C,.int lo,.int hi,.int 0] (CE T D C (Θ 0 W L P (Ũ lo hi d p))) Q:=by rfl'
def rZ:Ň w 25 cX.1 (CE T D C (Θ 1 W L P (Ũ lo hi d p))) Q=(mO/\AE C.length/\BE IU [.lst (Ag C none none (some (-1))),.int lo,.int hi,.int 1] (CE T D C (Θ 1 W L P (Ũ lo hi d p))) Q):=by rfl'
def rH:Ň w 25 (cX.2.getD 0 Jt) (CE T D C (Θ s W L P (Ũ lo hi d p))) Q=Q (.tup [.int d,.int p]) (CE T D C (Θ s W L P (Ũ lo hi d p))):=by rfl'
def xY{e f:Int}:(Cm .NotEq (.tup [.int e,.int f]) (.tup [.int d,.int p]) σ λv σ=>CV v σ V)=V (!(decide (AB.int e=AB.int d)&&(decide (AB.int f=AB.int p)&&([]:List AV).isEmpty))) σ:=by rfl'
end
end Mine
end
namespace Mine
structure Sg where
 u:Nat
 v:Nat
 X:List Int
 kept:Prop
def Ph(old new drop:List Int)(i j:Nat):Prop:=∃x,old[i]?=some x/\new[j]?=some x/\x∉drop
def Ph.cmn{old new drop:List Int}{i j:Nat}(h:Ph old new drop i j):IH old new i j:=h.imp λx q=>⟨q.1,q.2.1⟩
structure Bg(old new drop:List Int)(S:Sg->Prop):Prop where
 cm :∀i j,IH old new i j->∃s,S s/\∃d,d<s.X.length/\i=s.u+d/\j=s.v+d
 at_ :∀s,S s->∀d,d<s.X.length->old[s.u+d]?=s.X[d]?/\new[s.v+d]?=s.X[d]?
 mx :∀s,S s->∀s',S s'->∀d',d'<s'.X.length->0<s.X.length->¬ (s.u+s.X.length=s'.u+d'/\s.v+s.X.length=s'.v+d')
 mn :∀s,S s->∀s',S s'->∀d',d'<s'.X.length->0<s.X.length->¬ (s.u=s'.u+d'+1/\s.v=s'.v+d'+1)
 kp :∀s,S s->∀x∈s.X,(x∉drop↔s.kept)
 ch :∀s,S s->∀s',S s'->s.kept->s'.kept->s=s'\/(s.u+s.X.length<=s'.u/\s.v+s.X.length<=s'.v)\/(s'.u+s'.X.length<=s.u/\s'.v+s'.X.length<=s.v)
 an :∀s,S s->s.kept->s.X≠[]->0<AJ s.X\/(s.u=0/\s.v=0)
 st :∀s,S s->s.X≠[]->s.u=0->s.v=0->s.kept
 ag :∀s,S s->¬ s.kept->0<AJ s.X->∃r,S r/\r.kept/\((s.u+s.X.length<=r.u/\r.v+r.X.length<=s.v)\/(r.u+r.X.length<=s.u/\s.v+s.X.length<=r.v))/\(AJ s.X<AJ r.X\/(AJ s.X<=AJ r.X/\r.u+r.X.length<=s.u))
section
variable{old new drop:List Int}{S:Sg->Prop}
def Bg.item(h:Bg old new drop S){s:Sg}(hs:S s){d:Nat}(hd:d<s.X.length) :∃x,s.X[d]?=some x/\old[s.u+d]?=some x/\new[s.v+d]?=some x:=
 ⟨s.X[d],aA6 hd,(h.at_ s hs d hd).1.trans (aA6 hd),(h.at_ s hs d hd).2.trans (aA6 hd)⟩
def Bg.of_kpt(h:Bg old new drop S){i j:Nat}(k:Ph old new drop i j) :∃s,S s/\s.kept/\∃d,d<s.X.length/\i=s.u+d/\j=s.v+d:=by
 obtain⟨s,hs,d,hd,rfl,rfl⟩:=h.cm i j k.cmn
 obtain⟨x,e1,e2,e3⟩:=h.item hs hd
 obtain⟨y,ľ,k2,k3⟩:=k
 cases aA1 (e2.symm.trans ľ)
 exact⟨s,hs,(h.kp s hs x (aB8 e1)).mp k3,d,hd,rfl,rfl⟩
def Bg.kpt(h:Bg old new drop S){s:Sg}(hs:S s)(k:s.kept){d:Nat}(hd:d<s.X.length):Ph old new drop (s.u+d) (s.v+d):=by
 obtain⟨x,e1,e2,e3⟩:=h.item hs hd
 exact⟨x,e2,e3,(h.kp s hs x (aB8 e1)).mpr k⟩
def Bg.up(h:Bg old new drop S){s:Sg}(hs:S s){d:Nat}(hd:d<s.X.length)(c:IH old new (s.u+d+1) (s.v+d+1)):d+1<s.X.length:=by
 refine aG4 λn=>?_
 obtain⟨s',hs',d',hd',e1,e2⟩:=h.cm _ _ c
 exact h.mx s hs s' hs' d' hd' (by exists 2,0x10811018,hd) ⟨by(exists 5,0x43a12a243a1802aa281180a1981018,hd,n,e1),by exists 5,0x43a12a243a1802aa281180a1981018,hd,n,e2⟩
def Bg.down(h:Bg old new drop S){s:Sg}(hs:S s){d i j:Nat}(hd:d<s.X.length)(e1:i+1=s.u+d)(e2:j+1=s.v+d)(c:IH old new i j):0<d:=by
 refine aG4 λn=>?_
 obtain⟨s',hs',d',hd',e1',e2'⟩:=h.cm _ _ c
 exact h.mn s hs s' hs' d' hd' (by exists 2,0x10811018,hd) ⟨by(exists 5,0x1843aa1243a02820819821a180a28,e1,n,e1'),by exists 5,0x1843aa1243a02820819821a180a28,e2,n,e2'⟩
end
def WL{P:Nat->Prop} :∀{n:Nat},P n->∃t,P t/\∀s,s<t->¬ P s:=λ{n}=>by
 induction n using Nat.strongRecOn with
 | _ n ih=>
  intro h
  by_cases c :∃m,m<n/\P m
  ·exact c.elim λm q=>ih m q.1 q.2
  ·exact⟨n,h,λs hs q=>c ⟨s,hs,q⟩⟩
section
variable{old new drop:List Int}{S:Sg->Prop}
def Bg.chain(h:Bg old new drop S)(i j i' j':Nat)(a:Ph old new drop i j)(b:Ph old new drop i' j'):L3 i j i' j'\/(i=i'/\j=j')\/L3 i' j' i j:=by
 obtain⟨s,hs,k,d,hd,rfl,rfl⟩:=h.of_kpt a
 obtain⟨s',hs',k',d',hd',rfl,rfl⟩:=h.of_kpt b
 unfold L3
 rcases h.ch s hs s' hs' k k' with rfl | q | q
 ·rcases Nat.lt_trichotomy d d' with z | z | z<;>exists 4,0x13a23a110a20a1623a13a220a10a26723a13a120a10a167
 ·exists 7,0x4a65a102a63a1665a04a263a02a26765a04a163a02a167514a08312a081018,hd,q.1,q.2
 ·exists 7,0x65a04a163a02a1604a65a202a63a26704a65a102a63a167514a08312a081018,hd',q.1,q.2
def Bg.clr(h:Bg old new drop S){s:Sg}(hs:S s){d:Nat}(hd:d<s.X.length){x:Int}(e:s.X[d]?=some x):(CM x=false->Dg old new (s.u+d) (s.v+d))/\(CM x=true->Cy old new (s.u+d) (s.v+d)):=by
 have q:=h.at_ s hs d hd
 exact⟨λj=>⟨x,q.1.trans e,q.2.trans e,j⟩,λj=>⟨x,q.1.trans e,q.2.trans e,j⟩⟩
def Bg.hit(h:Bg old new drop S){s:Sg}(hs:S s){d:Nat}(hd:d<s.X.length)(c:Dg old new (s.u+d) (s.v+d)) :∃x,s.X[d]?=some x/\CM x=false:=by
 obtain⟨x,e1,e2,e3⟩:=c
 exact⟨x,(h.at_ s hs d hd).1.symm.trans e1,e3⟩
def Bg.run(h:Bg old new drop S){s:Sg}(hs:S s){d si sj sk e:Nat}(hd:d<s.X.length)(he:e<sk)(e1:s.u+d=si+e)(e2:s.v+d=sj+e)(c :∀t,t<sk->IH old new (si+t) (sj+t)):e<=d/\d-e+sk<=s.X.length:=by
 have dn :∀n,n<=e->n<=d:=λn=>by
  induction n with
  | zero=>exact λ_=>aC7 _
  | succ n ih=>
   intro hn
   have hnd:=ih (by exists 2,0x1001180a08,hn)
   have:=h.down hs (d:=d-n) (i:=si+(e-n-1)) (j:=sj+(e-n-1)) (by exists 3,0x120b11018,hd) (by exists 5,0x41b0a181843bb2aa214083184a0832a10a28,e1,hn,hnd) (by exists 5,0x41b0a181843bb2aa214083184a0832a10a28,e2,hn,hnd) (c _ (by exists 3,0x11820bb11018,he))
   exists 2,0x181a010b0818,this
 have up :∀n,e+n<sk->d+n<s.X.length:=λn=>by
  induction n with
  | zero=>exact λ_=>hd
  | succ n ih=>
   intro hn
   have hnd:=ih (by exists 3,0x210a12181a0a18,hn)
   have:=h.up hs hnd (by rw[show s.u+(d+n)+1=si+(e+n+1)by(exists 5,0x1843aa2a1841a0aa232a10a28,e1),show s.v+(d+n)+1=sj+(e+n+1)by exists 5,0x1843aa2a1841a0aa232a10a28,e2];exact c _ (by exists 3,0x21810aa12181a0a18,hn))
   exists 3,0x2181a0a121810aa18,this
 have a:=dn e (aA9 _)
 have b:=up (sk-1-e) (by exists 2,0x10181bb0a11018,he)
 exact⟨a,by exists 4,0x3201ba030182bb1a181008,a,b⟩
def Bg.agn(h:Bg old new drop S)(i j:Nat)(c:Dg old new i j)(n:¬ Ph old new drop i j) :∃ri rj rk,sD old new (Ph old new drop) i j ri rj rk:=by
 obtain⟨s,hs,d,hd,rfl,rfl⟩:=h.cm i j c.cmn
 have nk:¬ s.kept:=λk=>n (h.kpt hs k hd)
 have c1:0<AJ s.X:=by
  have:=Gs (l:=s.X) (u:=d) (k:=1) λt ht=>by
   rw[aZ6.mp ht];exact h.hit hs hd c
  exists 1,0x8101808,this
 obtain⟨r,hr,kr,cr,lr⟩:=h.ag s hs nk c1
 obtain⟨u,hu⟩:=Hc r.X
 have hlen :∀t,t<AJ r.X->u+t<r.X.length:=λt ht=>by
  obtain⟨x,e,_⟩:=hu t ht
  exact(aA5.mp e).1
 have pos:0<AJ r.X:=by exists 5,0x1081432a010061017800818,c1,lr
 refine⟨r.u+u,r.v+u,AJ r.X,pos,λt ht=>?_,λsi sj sk e he e1 e2 cc=>?_⟩
 ·have hl:=hlen t ht
  obtain⟨x,ex,jx⟩:=hu t ht
  rw[show r.u+u+t=r.u+(u+t)by(exists 3,0x21a0a210aa2),show r.v+u+t=r.v+(u+t)by exists 3,0x21a0a210aa2]
  refine⟨h.kpt hr kr hl,(h.clr hr hl ex).1 jx,?_,?_⟩
  ·unfold L3;exists 9,0x10a6a2f7a110a5a2f3a169647a0325a06726a0543a0678210a18,hl,cr
  ·unfold L3;exists 9,0x6a2f7a4a102a2f7a3a169416a0253a06654a0312a06781018,hd,cr
 ·have q:=h.run hs hd he e1 e2 λt ht=>(cc t ht).cmn
  have le:sk<=AJ s.X:=Gs (u:=d-e) λt ht=>by
   have:=cc t ht
   rw[show si+t=s.u+(d-e+t)by(exists 5,0x431ba0a42a2130832a10a28,e1,q.1),show sj+t=s.v+(d-e+t)by exists 5,0x431ba0a42a2130832a10a28,e2,q.1]at this
   exact h.hit hs (by exists 5,0x3410ba124183210ba08,q.2,ht) this
  have:=hlen 0 pos
  exists 10,0x263fa12f4262f417073fa02f5062f51787086a185408130832a10a28,e1,q.1,le,this,lr
def Bg.anch(h:Bg old new drop S)(i j:Nat)(k:Ph old new drop i j):ZT old new 0 old.length 0 new.length i j:=by
 obtain⟨s,hs,ks,d,hd,rfl,rfl⟩:=h.of_kpt k
 have bd :∀c,c<s.X.length->s.u+c<old.length/\s.v+c<new.length:=λc hc=>by
  obtain⟨x,_,e2,e3⟩:=h.item hs hc
  exact⟨(aA5.mp e2).1,(aA5.mp e3).1⟩
 have jk :∀c,c<s.X.length->¬ Dg old new (s.u+c) (s.v+c)->Cy old new (s.u+c) (s.v+c):=λc hc n=>by
  obtain⟨x,e,_⟩:=h.item hs hc
  cases jx:CM x with
  | false=>exact bO9 ((h.clr hs hc e).1 jx) n
  | true=>exact(h.clr hs hc e).2 jx
 by_cases hc :∃c,c<s.X.length/\Dg old new (s.u+c) (s.v+c)
 ·obtain⟨c,hc,cc⟩:=hc
  rcases aY2 d c with z | z
  ·obtain⟨t,⟨t1,t2⟩,t3⟩:=WL (P:=λt=>d+t<s.X.length/\Dg old new (s.u+(d+t)) (s.v+(d+t))) (n:=c-d) ⟨by(exists 3,0x102b0a112181018,hd,hc),by rw[show d+(c-d)=c by exists 2,0x101b0a21018,z];exact cc⟩
   refine .right t (λn hn=>?_) (by rw[aM1,aM1];exact t2) (by have:=bd _ t1;exists 4,0x3210aa1321a0a18,this.1) (by have:=bd _ t1;exists 4,0x3210aa1321a0a18,this.2)
   rw[aM1,aM1]
   exact jk (d+n) (by exists 4,0x230a11318210a18,t1,hn) λq=>t3 n hn ⟨by(exists 4,0x230a11318210a18,t1,hn),q⟩
  ·obtain⟨t,⟨t1,t2⟩,t3⟩:=WL (P:=λt=>t<=d/\Dg old new (s.u+(d-t)) (s.v+(d-t))) (n:=d-c) ⟨by(exists 2,0x10b0),by rw[show d-(d-c)=c by exists 2,0x1b1b21008,z];exact cc⟩
   refine .left t (by exists 3,0x12a008a01008,t1) (by exists 3,0x12a008a01008,t1) (λn hn=>?_) (by rw[aZ7 t1,aZ7 t1];exact t2)
   rw[aZ7 (by exists 3,0x12002181008,t1,hn),aZ7 (by exists 3,0x12002181008,t1,hn)]
   exact jk (d-n) (by exists 3,0x120b11018,hd) λq=>t3 n hn ⟨by(exists 3,0x12002181008,t1,hn),q⟩
 ·have no :∀c,c<s.X.length->¬ Dg old new (s.u+c) (s.v+c):=λc h1 h2=>hc ⟨c,h1,h2⟩
  rcases h.an s hs ks (λz=>by rw[z]at hd;cases hd)with z | ⟨Š,z2⟩
  ·obtain⟨u,hu⟩:=Hc s.X
   obtain⟨x,e,jx⟩:=hu 0 z
   have hl:=(aA5.mp e).1
   exact bO9 ((h.clr hs hl e).1 jx) (no _ hl)
  ·refine .start d (by exists 2,0x108a10a208028,Š) (by exists 2,0x108a10a208028,z2) λn hn=>?_
   have:=jk n (by exists 3,0x12102081018,hd,hn) (no n (by exists 3,0x12102081018,hd,hn))
   rw[Š,z2]at this
   exact this
def Bg.cov(h:Bg old new drop S){bs:List BN}(r:GU old new 0 old.length 0 new.length bs) :∀i j,Tq bs i j↔Ph old new drop i j:=
 r.kept (λi j k=>k.cmn) h.chain (λi j k c=>by
  obtain⟨s,hs,ks,d,hd,rfl,rfl⟩:=h.of_kpt k
  exact h.kpt hs ks (h.up hs hd c)) (λi j k c=>by
  obtain⟨s,hs,ks,d,hd,e1,e2⟩:=h.of_kpt k
  have p:=h.down hs hd e1 e2 c
  have:=h.kpt hs ks (d:=d-1) (by exists 2,0x1180b11018,hd)
  rw[show s.u+(d-1)=i by(exists 3,0x182b1a22081821a180a28,e1,p),show s.v+(d-1)=j by exists 3,0x182b1a22081821a180a28,e2,p]at this
  exact this) (λc=>by
  obtain⟨s,hs,d,hd,e1,e2⟩:=h.cm 0 0 c.cmn
  have:=h.kpt hs (h.st s hs (λz=>by rw[z]at hd;cases hd) (by exists 2,0x80210a0828,e1) (by exists 2,0x80210a0828,e2)) hd
  rw[<-e1,<-e2]at this
  exact this) h.agn h.anch
end
def Ht{l:List Int}(h:l.Nodup){i j:Nat}{x:Int}(e:l[i]?=some x)(f:l[j]?=some x):i=j:=(aT6 (aA5.mp e).1 h).mp (e.trans f.symm)
section
variable{H A B R:List Int}
def Sb{i:Nat}(h:i<H.length):(H++A++R)[i]?=H[i]?:=by
 rw[aL8,aI4 h]
def TO{i:Nat}(h:i<A.length):(H++A++R)[H.length+i]?=A[i]?:=by
 rw[aL8,aJ2 (aE1 ..),aX8,aI4 h]
def Sc{i:Nat}:(H++A++R)[H.length+A.length+i]?=R[i]?:=by
 have:H.length+A.length=(H++A).length:=aC3.symm
 rw[this,aJ2 (aE1 ..),aX8]
def QG(i:Nat):i<H.length\/(∃d,d<A.length/\i=H.length+d)\/∃d,i=H.length+A.length+d:=by
 by_cases h:i<H.length
 ·exact .inl h
 ·by_cases g:i<H.length+A.length
  ·exact .inr (.inl ⟨i-H.length,by(exists 3,0x210b121a01810198,h,g),by exists 2,0x10b1a0210198,h⟩)
  ·exact .inr (.inr ⟨i-(H.length+A.length),by exists 3,0x21a0b21aa0221a0198,g⟩)
def At{l:List Int}{i:Nat}{x:Int}(h:l[i]?=some x):i<l.length:=(aA5.mp h).1
def KB{l:List Int}{i:Nat}(h:i<l.length) :∃x,l[i]?=some x:=⟨_,aA6 h⟩
variable{dI:List Int}{SI:Sg->Prop}
def Fy{x:Int}(ho:(H++A++R).Nodup):(x∈H->x∈A->False)/\(x∈H->x∈R->False)/\(x∈A->x∈R->False):=by
 have q:=aK8.mp ho
 have Ľ:=aK8.mp q.1
 exact⟨λh k=>Ľ.2.2 x h x k rfl,λh k=>q.2.2 x (aC0.mpr (.inl h)) x k rfl,λh k=>q.2.2 x (aC0.mpr (.inr h)) x k rfl⟩
def X3(ho:(H++A++R).Nodup)(hn:(H++B++R).Nodup){i j:Nat}(c:IH (H++A++R) (H++B++R) i j) :
  (i<H.length/\i=j)\/(∃a b,IH A B a b/\i=H.length+a/\j=H.length+b)\/∃d,d<R.length/\i=H.length+A.length+d/\j=H.length+B.length+d:=by
 obtain⟨x,e,f⟩:=c
 rcases QG (H:=H) (A:=A) i with h | ⟨a,ha,rfl⟩ | ⟨d,rfl⟩
 ·rw[Sb h]at e
  exact .inl ⟨h,Ht hn (by rw[Sb h];exact e) f⟩
 ·rw[TO ha]at e
  rcases QG (H:=H) (A:=B) j with h | ⟨b,hb,rfl⟩ | ⟨d,rfl⟩
  ·rw[Sb h]at f
   exact((Fy ho).1 (aB8 f) (aB8 e)).elim
  ·rw[TO hb]at f
   exact .inr (.inl ⟨a,b,⟨x,e,f⟩,rfl,rfl⟩)
  ·rw[Sc]at f
   exact((Fy ho).2.2 (aB8 e) (aB8 f)).elim
 ·rw[Sc]at e
  exact .inr (.inr ⟨d,At e,rfl,Ht hn f (by rw[Sc];exact e)⟩)
def vB(H A B R:List Int)(SI:Sg->Prop)(s:Sg):Prop:=
 s=⟨0,0,H,True⟩\/s=⟨H.length+A.length,H.length+B.length,R,AJ R≠0⟩\/∃i,SI i/\s=⟨H.length+i.u,H.length+i.v,i.X,i.kept⟩
def Bg.bd(h:Bg A B dI SI){s:Sg}(hs:SI s)(n:0<s.X.length):s.u+s.X.length<=A.length/\s.v+s.X.length<=B.length:=by
 obtain⟨x,e1,e2,e3⟩:=h.item hs (d:=s.X.length-1) (by exists 1,0x180b100818,n)
 have:=At e2
 have:=At e3
 rename_i u0;exists 5,0x413a0210a064181b3a182181b0a18,u0,this
def Bg.out(h:Bg A B dI SI)(ho:(H++A++R).Nodup)(hn:(H++B++R).Nodup)(hI :∀x∈dI,x∈A)(hX :∀s,SI s->0<s.X.length)
  (c0 :∀s,SI s->¬ (s.u=0/\s.v=0)) (c1 :∀s,SI s->¬ (s.u+s.X.length=A.length/\s.v+s.X.length=B.length)) (ne:¬ (A.length=0/\B.length=0)) :
  Bg (H++A++R) (H++B++R) (dI++if AJ R=0 then R else []) (vB H A B R SI):=by
 have rm :∀x,x∈(if AJ R=0 then R else [])->x∈R:=λx hx=>by
  by_cases z:AJ R=0
  ·rwa[bO7 z]at hx
  ·rw[bO8 z]at hx;cases hx
 refine⟨λi j c=>?_,?_,?_,?_,?_,?_,?_,?_,?_⟩
 ·rcases X3 ho hn c with⟨q,rfl⟩ | ⟨a,b,q,rfl,rfl⟩ | ⟨d,q,rfl,rfl⟩
  ·exact⟨_,.inl rfl,i,q,(aF3 _).symm,(aF3 _).symm⟩
  ·obtain⟨s,hs,d,hd,rfl,rfl⟩:=h.cm a b q
   exact⟨_,.inr (.inr ⟨s,hs,rfl⟩),d,hd,(aM1 ..).symm,(aM1 ..).symm⟩
  ·exact⟨_,.inr (.inl rfl),d,q,rfl,rfl⟩
 ·rintro _ (rfl | rfl | ⟨s,hs,rfl⟩) d hd
  ·exact⟨by rw[aF3];exact Sb hd,by rw[aF3];exact Sb hd⟩
  ·exact⟨Sc,Sc⟩
  ·have q:=h.at_ s hs d hd
   have b:=h.bd hs (aD1 (aC7 _) hd)
   have hd:d<s.X.length:=hd
   exact⟨by show(H++A++R)[H.length+s.u+d]?=_;rw[aM1,TO (by rename_i u0;exists 4,0x302a1312a081018,u0,b.1)];exact q.1,by show(H++B++R)[H.length+s.v+d]?=_;rw[aM1,TO (by rename_i u0;exists 4,0x302a1312a081018,u0,b.2)];exact q.2⟩
 ·rintro _ (rfl | rfl | ⟨s,hs,rfl⟩) _ (rfl | rfl | ⟨s',hs',rfl⟩) d (hd:d<aU6 _) (hp:0<aU6 _)<;>dsimp only at hd hp ⊢
  ·exists 2,0x8a108a2008a108a2691018,hd
  ·exists 4,0x312aa208a2302aa208a26908120802698,ne
  ·have:=c0 s' hs'
   exists 4,0x312aa208a2302aa208a26908120802698,this
  ·exists 5,0x8a341aa2008a321aa2691018,hd
  ·exists 5,0x42aa142aa2032aa132aa2691018,hd
  ·have:=h.bd hs' (hX s' hs')
   exists 8,0x74aa564aa2024aa534aa269312a081018,hd,this.1
  ·have:=h.bd hs (hX s hs)
   exists 5,0x8a341aa2008a321aa2691018,hd
  ·have:=h.bd hs (hX s hs)
   have:=c1 s hs
   rename_i u0;exists 7,0x645aa135aa2625aa105aa269413a2210a2698210a08,u0.1,this
  ·have:=h.mx s hs s' hs' d hd hp
   exists 7,0x356aa146aa2326aa106aa26935a14a232a10a2698,this
 ·rintro _ (rfl | rfl | ⟨s,hs,rfl⟩) _ (rfl | rfl | ⟨s',hs',rfl⟩) d (hd:d<aU6 _) (hp:0<aU6 _)<;>dsimp only at hd hp ⊢
  ·exists 1,0x18008aa08218008aa08269
  ·exists 4,0x18230aaa08218210aaa08269
  ·exists 4,0x18230aaa08218210aaa08269
  ·exists 4,0x18008aa31a218008aa21a269083208226981018,hd,ne
  ·exists 4,0x18230aaa30a218210aaa10a269
  ·have:=h.bd hs' (hX s' hs')
   have:=c1 s' hs'
   rename_i u0;exists 7,0x18046aaa56a218026aaa36a269514a2312a2698312a081018,hd,u0.1,this
  ·have:=c0 s hs
   exists 4,0x18008aa31a218008aa21a269083208226981018,hd,this
  ·have:=h.bd hs (hX s hs)
   exists 7,0x18463aaa53a218423aaa03a269210a08,this.1
  ·have:=h.mn s hs s' hs' d hd hp
   exists 6,0x18245aaa35a218215aaa05a2691824aa321821aa02698,this
 ·rintro _ (rfl | rfl | ⟨s,hs,rfl⟩) x hx
  ·exact iff_of_true (λz=>(aC0.mp z).elim (λz=>(Fy ho).1 hx (hI x z)) λz=>(Fy ho).2.1 hx (rm x z)) trivial
  ·by_cases z:AJ R=0
   ·rw[bO7 z]
    exact iff_of_false (λn=>n (aC0.mpr (.inr hx))) λn=>n z
   ·rw[bO8 z,aF8]
    exact iff_of_true (λn=>(Fy ho).2.2 (hI x n) hx) z
  ·have q:=h.kp s hs x hx
   refine Iff.trans (not_congr (aC0.trans (or_iff_left λz=>?_))) q
   obtain⟨d,hd⟩:=aJ4 hx
   have:=(h.at_ s hs d (At hd)).1.trans hd
   exact(Fy ho).2.2 (aB8 this) (rm x z)
 ·rintro _ (rfl | rfl | ⟨s,hs,rfl⟩) _ (rfl | rfl | ⟨s',hs',rfl⟩) k k'<;>dsimp only at k k' ⊢
  ·exact .inl rfl
  ·exact .inr (.inl (by exists 3,0x20a008a010a008a06))
  ·exact .inr (.inl (by exists 3,0x20a008a010a008a06))
  ·exact .inr (.inr (by exists 3,0x20a008a010a008a06))
  ·exact .inl rfl
  ·have:=h.bd hs' (hX s' hs')
   exact .inr (.inr (by exists 6,0x45a135aa025a105aa06413a08210a08,this.1,this.2))
  ·exact .inr (.inr (by exists 3,0x20a008a010a008a06))
  ·have:=h.bd hs (hX s hs)
   exact .inr (.inl (by exists 6,0x45a135aa025a105aa06413a08210a08,this.1,this.2))
  ·rcases h.ch s hs s' hs' k k' with rfl | q | q
   ·exact .inl rfl
   ·exact .inr (.inl (by exists 6,0x45a135aa025a105aa06413a08210a08,q.1,q.2))
   ·exact .inr (.inr (by exists 6,0x45a135aa025a105aa06413a08210a08,q.1,q.2))
 ·rintro _ (rfl | rfl | ⟨s,hs,rfl⟩) k n
  ·exact .inr ⟨rfl,rfl⟩
  ·exact .inl (aI6 k)
  ·exact(h.an s hs k n).imp id λq=>(c0 s hs q).elim
 ·rintro _ (rfl | rfl | ⟨s,hs,rfl⟩) n e1 e2<;>dsimp only at e1 e2 ⊢
  ·exact bO9 ⟨by(exists 2,0x8120810a28,e1),by exists 2,0x8120810a28,e2⟩ ne
  ·exact bO9 ⟨by(exists 2,0x8120810a28,e1),by exists 2,0x8120810a28,e2⟩ (c0 s hs)
 ·rintro _ (rfl | rfl | ⟨s,hs,rfl⟩) n c
  ·exact bO9 trivial n
  ·exact bO9 (Nat.pos_iff_ne_zero.mp c) n
  ·obtain⟨r,hr,kr,q1,Ľ⟩:=h.ag s hs n c
   exact⟨_,.inr (.inr ⟨r,hr,rfl⟩),kr,by dsimp only;(exists 7,0x36a156aa006a426aa0656a436aa026a106aa067315a0042a06543a0210a0678,q1),by dsimp only;exists 6,0x45a325aa010061017432a0100610178,Ľ⟩
end
def Bg.same{l:List Int}(hn:l.Nodup):Bg l l [] λs=>s=⟨0,0,l,True⟩:=by
 refine⟨λi j ⟨x,e,f⟩=>⟨_,rfl,i,At e,(aF3 _).symm,(Ht hn e f).symm.trans (aF3 _).symm⟩,?_,?_,?_,?_,?_,?_,?_,?_⟩
 ·rintro _ rfl d hd
  exact⟨by rw[aF3],by rw[aF3]⟩
 ·rintro _ rfl _ rfl d hd hp;dsimp only at hd ⊢;exists 2,0x8a108a2008a108a2691018,hd
 ·rintro _ rfl _ rfl d hd hp;dsimp only at hd ⊢;exists 1,0x18008aa08218008aa08269
 ·rintro _ rfl x hx
  exact iff_of_true (λz=>nomatch z) trivial
 ·rintro _ rfl _ rfl _ _
  exact .inl rfl
 ·rintro _ rfl _ _
  exact .inr ⟨rfl,rfl⟩
 ·rintro _ rfl _ _ _
  trivial
 ·rintro _ rfl n
  exact bO9 trivial n
structure jG(A B dI:List Int)(SI:Sg->Prop):Prop where
 sg:Bg A B dI SI
 dr :∀x∈dI,x∈A
 ps :∀s,SI s->0<s.X.length
 c0 :∀s,SI s->¬ (s.u=0/\s.v=0)
 c1 :∀s,SI s->¬ (s.u+s.X.length=A.length/\s.v+s.X.length=B.length)
 ne:¬ (A.length=0/\B.length=0)
def Uq{A B:List Int}(h :∀x∈A,x∉B)(ne:¬ (A.length=0/\B.length=0)):jG A B [] λ_=>False:=
 ⟨⟨λi j ⟨x,e,f⟩=>(h x (aB8 e) (aB8 f)).elim,λ_ z=>aA8 z,λ_ z=>aA8 z,λ_ z=>aA8 z,λ_ z=>aA8 z,λ_ z=>aA8 z,λ_ z=>aA8 z,λ_ z=>aA8 z,λ_ z=>aA8 z⟩,
  λ_ z=>(nomatch z),λ_ z=>aA8 z,λ_ z=>aA8 z,λ_ z=>aA8 z,ne⟩
def Eg{l:List Int}{x:Int}(h:x∈l)(j:CM x=false):0<AJ l:=by
 obtain⟨d,hd⟩:=aJ4 h
 exact Gs (u:=d) (k:=1) λt ht=>by rw[aZ6.mp ht];exact⟨x,hd,j⟩
def Gq{l:List Int}(h:0<AJ l) :∃x∈l,CM x=false:=by
 obtain⟨u,hu⟩:=Hc l
 obtain⟨x,e,j⟩:=hu 0 h
 exact⟨x,aB8 e,j⟩
def GD{p q:List Int}:AJ (q++p)=0↔AJ q=0/\AJ p=0:=by
 refine⟨λh=>⟨aL5 λz=>?_,aL5 λz=>?_⟩,λh=>aL5 λz=>?_⟩
 ·obtain⟨x,hx,j⟩:=Gq z
  exact bO9 h (aJ6 (Eg (aC0.mpr (.inl hx)) j))
 ·obtain⟨x,hx,j⟩:=Gq z
  exact bO9 h (aJ6 (Eg (aC0.mpr (.inr hx)) j))
 ·obtain⟨x,hx,j⟩:=Gq z
  exact(aC0.mp hx).elim (λm=>bO9 h.1 (aJ6 (Eg m j))) λm=>bO9 h.2 (aJ6 (Eg m j))
def nK(P Q:List Int)(s:Sg):Prop:=s=⟨0,Q.length,P,0<AJ P/\AJ Q<=AJ P⟩\/s=⟨P.length,0,Q,AJ P<AJ Q⟩
def NT{P Q:List Int}{i:Nat}(h:i<P.length):(P++Q)[i]?=P[i]?:=aI4 h
def NW{P Q:List Int}{i:Nat}:(P++Q)[P.length+i]?=Q[i]?:=by rw[aJ2 (aE1 ..),aX8]
def VT{P Q:List Int}(hn:(P++Q).Nodup)(hp:P≠[])(hq:Q≠[]):jG (P++Q) (Q++P) (Ct P Q) (nK P Q):=by
 have n2:(Q++P).Nodup:=(List.perm_append_comm.nodup_iff).mp hn
 have one :∀x,x∈P->x∈Q->False:=λx h k=>(aK8.mp hn).2.2 x h x k rfl
 have lp:=List.length_pos_iff.mpr hp
 have lq:=List.length_pos_iff.mpr hq
 have la:(P++Q).length=P.length+Q.length:=aC3
 have lb:(Q++P).length=Q.length+P.length:=aC3
 refine⟨⟨λi j ⟨x,e,f⟩=>?_,?_,?_,?_,?_,?_,?_,?_,?_⟩,λx hx=>?_,?_,?_,?_,by exists 4,0x83208126920a12800818,lp,la⟩
 ·by_cases z:i<P.length
  ·rw[NT z]at e
   exact⟨_,.inl rfl,i,z,(aF3 _).symm,Ht n2 f (by rw[NW];exact e)⟩
  ·obtain⟨d,rfl⟩ :∃d,i=P.length+d:=⟨i-P.length,by exists 2,0x10b1a0210198,z⟩
   rw[NW]at e
   exact⟨_,.inr rfl,d,At e,rfl,(Ht n2 f (by rw[NT (At e)];exact e)).trans (aF3 _).symm⟩
 ·rintro _ (rfl | rfl) d (hd:d<aU6 _)<;>dsimp only at hd ⊢
  ·exact⟨by rw[aF3,NT hd],NW⟩
  ·exact⟨NW,by rw[aF3,NT hd]⟩
 ·rintro _ (rfl | rfl) _ (rfl | rfl) d (hd:d<aU6 _) _
  ·dsimp only at hd ⊢;exists 3,0x2a12a2008a108a2691018,hd
  ·dsimp only at hd ⊢;exists 3,0x108a02a210a008a26900818,lp
  ·dsimp only at hd ⊢;exists 3,0x21a108a2208a10a26900818,lp
  ·dsimp only at hd ⊢;exists 3,0x8a108a202a12a2691018,hd
 ·rintro _ (rfl | rfl) _ (rfl | rfl) d (hd:d<aU6 _) _
  ·dsimp only at hd ⊢;exists 2,0x1801aa1218008aa08269
  ·dsimp only at hd ⊢;exists 3,0x18108aa221810aa08269
  ·dsimp only at hd ⊢;exists 3,0x1812aa08218108aa0269
  ·dsimp only at hd ⊢;exists 2,0x18108aa0821810aa0269
 ·rintro _ (rfl | rfl) x hx<;>dsimp only at hx ⊢ <;> unfold Ct
  ·by_cases z:AJ (Q++P)=0
   ·rw[bO7 z]
    exact iff_of_false (λn=>n (aC0.mpr (.inr hx))) λn=>aJ6 n.1 (GD.mp z).2
   ·rw[bO8 z]
    by_cases c:AJ Q<=AJ P
    ·rw[bO7 c]
     exact iff_of_true (one x hx) ⟨aI6 λe=>z (GD.mpr ⟨bI3.mp (e▸c),e⟩),c⟩
    ·rw[bO8 c]
     exact iff_of_false (λn=>n hx) λn=>c n.2
  ·by_cases z:AJ (Q++P)=0
   ·rw[bO7 z]
    exact iff_of_false (λn=>n (aC0.mpr (.inl hx))) λn=>bO9 (GD.mp z).1 (aJ6 (aD1 (aC7 _) n))
   ·rw[bO8 z]
    by_cases c:AJ Q<=AJ P
    ·rw[bO7 c]
     exact iff_of_false (λn=>n hx) (aM3.mpr c)
    ·rw[bO8 c]
     exact iff_of_true (λn=>one x n hx) (bA3 c)
 ·rintro _ (rfl | rfl) _ (rfl | rfl) k k'<;>dsimp only at k k' ⊢
  ·exact .inl rfl
  ·exact bO9 k.2 (bG6.mpr k')
  ·exact bO9 k'.2 (bG6.mpr k)
  ·exact .inl rfl
 ·rintro _ (rfl | rfl) k _<;>dsimp only at k ⊢
  ·exact .inl k.1
  ·exact .inl (aD1 (aC7 _) k)
 ·rintro _ (rfl | rfl) _ h1 h2
  ·dsimp only at h1 h2 ⊢;exists 3,0x120108160802800818,lq,h2
  ·dsimp only at h1 h2 ⊢;exists 3,0x2110802800818,lp,h1
 ·rintro _ (rfl | rfl) k c<;>dsimp only at k c ⊢
  ·have g:AJ P<AJ Q:=bA3 λz=>k ⟨c,z⟩
   exact⟨_,.inr rfl,g,.inl ⟨aB7 (aF3 _),aB7 (aF3 _)⟩,.inl g⟩
  ·have g:=aN5 k
   exact⟨_,.inl rfl,⟨aB3 c g,g⟩,.inr ⟨aB7 (aF3 _),aB7 (aF3 _)⟩,.inr ⟨g,aB7 (aF3 _)⟩⟩
 ·unfold Ct at hx
  by_cases z:AJ (Q++P)=0
  ·rw[bO7 z]at hx
   exact aC0.mpr (aC0.mp hx).symm
  ·rw[bO8 z]at hx
   by_cases c:AJ Q<=AJ P
   ·rw[bO7 c]at hx;exact aC0.mpr (.inr hx)
   ·rw[bO8 c]at hx;exact aC0.mpr (.inl hx)
 ·rintro _ (rfl | rfl)
  ·exact lp
  ·exact lq
 ·rintro _ (rfl | rfl)
  ·dsimp only;exists 1,0x802080826900818,lq
  ·dsimp only;exists 1,0x808208026900818,lp
 ·rintro _ (rfl | rfl)
  ·dsimp only;exists 4,0x320a21208a26902a12800818,lq,la
  ·dsimp only;exists 4,0x1208a2320a26902a12800818,lp,lb
def IZ(T:List Int)(x:Int):Prop:=x∈(T.filter λl=>!CM l).take 1
def bH(T:List Int)(s:Sg):Prop:=∃t x,T[t]?=some x/\s=⟨t,T.length-1-t,[x],IZ T x⟩
theorem Gk{x:Int}(j:CM x=false) :∀{T:List Int} {t:Nat},T[t]?=some x->∃t0 x0,t0<=t/\T[t0]?=some x0/\IZ T x0/\CM x0=false
 | [],t,e=>nomatch e
 | y::T,t,e=>by
  cases jy:CM y with
  | false=>exact⟨0,y,aC7 _,rfl,by unfold IZ;rw[aK9 (by rw[jy];rfl)];exact aC6 ..,jy⟩
  | true=>
   cases t with
   | zero=>cases aA1 e;exact nomatch jy.symm.trans j
   | succ t=>
    obtain⟨t0,x0,h1,h2,h3,ō⟩:=Gk j (T:=T) (t:=t) e
    exact⟨t0+1,x0,aG8 h1,h2,by unfold IZ at h3 ⊢;rw[aL0 (by rw[jy];decide)];exact h3,ō⟩
def Qw{l:List Int}{x y:Int}(h:x∈l.take 1)(k:y∈l.take 1):x=y:=by
 cases l with
 | nil=>cases h
 | cons z l=>exact(aB6.mp h).trans (aB6.mp k).symm
def Ec{x:Int}:(0<AJ [x]↔CM x=false)/\AJ [x]<=1:=by
 unfold AJ
 show(0<(EG (0,0) x).1↔_)/\(EG (0,0) x).1<=1
 unfold EG
 cases CM x
 ·exact⟨⟨λ_=>rfl,λ_=>aR5⟩,aA9 _⟩
 ·exact⟨⟨λh=>(nomatch h),λh=>(nomatch h)⟩,aC7 _⟩
def Re{T:List Int}{t:Nat}{x:Int}(h:T[t]?=some x):T.reverse[T.length-1-t]?=some x:=by
 have:=At h
 rw[bA1 (by exists 2,0x10181bb11018,this),show T.length-1-(T.length-1-t)=t by exists 2,0x181bb181bb21018,this]
 exact h
def TY{T:List Int}(hn:T.Nodup)(h2:2<=T.length):jG T T.reverse (Fa T) (bH T):=by
 have n2:T.reverse.Nodup:=(List.reverse_perm T).nodup_iff.mpr hn
 have kd :∀{x},IZ T x->CM x=false:=λ{x} k=>by
  have:=(aI5.mp (List.mem_of_mem_take k)).2
  cases j:CM x with
  | false=>rfl
  | true=>rw[j]at this;exact nomatch this
 have lr:T.reverse.length=T.length:=aN3
 refine⟨⟨λi j ⟨x,e,f⟩=>⟨_,⟨i,x,e,rfl⟩,0,aR5,rfl,Ht n2 f (Re e)⟩,?_,?_,?_,?_,?_,?_,?_,?_⟩,λx hx=>(aI5.mp hx).1,?_,?_,?_,by exists 2,0x81208026902808,h2⟩
 ·rintro _ ⟨t,x,e,rfl⟩ d (hd:d<1)
  cases aZ6.mp hd
  exact⟨e,Re e⟩
 ·rintro _ ⟨t,x,e,rfl⟩ _ ⟨t',x',e',rfl⟩ d hd _
  have hd:d<1:=hd
  have:=At e;have:=At e'
  show ¬ (t+1=t'+d/\T.length-1-t+1=T.length-1-t'+d)
  exact id (ql [_,_,_,_] 0x2183bba181183bba202a181a26918018 (by rfl') hd)
 ·rintro _ ⟨t,x,e,rfl⟩ _ ⟨t',x',e',rfl⟩ d hd _
  have hd:d<1:=hd
  have:=At e;have:=At e'
  show ¬ (t=t'+d+1/\T.length-1-t=T.length-1-t'+d+1)
  exact id (ql [_,_,_,_] 0x1821183bbaa0183bb21821aa0269 (by rfl'))
 ·rintro _ ⟨t,x,e,rfl⟩ y hy
  cases aB6.mp hy
  show x∉Fa T↔IZ T x
  unfold Fa
  refine⟨λn=>aG4 λm=>n (aI5.mpr ⟨aB8 e,?_⟩),λk m=>?_⟩
  ·show(!decide (x∈(T.filter λl=>!CM l).take 1))=true
   have m:¬ x∈(T.filter λl=>!CM l).take 1:=m
   rw[bP1 m];rfl
  ·have:=(aI5.mp m).2
   change (!decide (x∈(T.filter λl=>!CM l).take 1))=true at this
   have k:x∈(T.filter λl=>!CM l).take 1:=k
   rw[bP0 k]at this
   exact nomatch this
 ·rintro _ ⟨t,x,e,rfl⟩ _ ⟨t',x',e',rfl⟩ k k'
  cases Qw k k'
  cases Ht hn e e'
  exact .inl rfl
 ·rintro _ ⟨t,x,e,rfl⟩ k _
  exact .inl (Ec.1.mpr (kd k))
 ·rintro _ ⟨t,x,e,rfl⟩ _ h1 h3
  have h1:t=0:=h1
  have h3:T.length-1-t=0:=h3
  exfalso
  rename_i u1 _;exists 2,0xa081180bb280812802808,h2,u1,h3
 ·rintro _ ⟨t,x,e,rfl⟩ n (c:0<AJ [x])
  obtain⟨t0,x0,q1,Ľ,q3,ő⟩:=Gk (Ec.1.mp c) e
  have:t0≠t:=λz=>n (by cases z;cases e.symm.trans Ľ;exact q3)
  have:=At e
  have:=Ec (x:=x)
  have:=(Ec (x:=x0)).1.mpr ő
  refine⟨_,⟨t0,x0,Ľ,rfl⟩,q3,.inr ⟨?_,?_⟩,.inr ⟨?_,?_⟩⟩
  ·show t0+1<=t;rename_i u0 _ _;exact id (ql [_,_] 0x1180a0102981008 (by rfl') q1 u0)
  ·show T.length-1-t+1<=T.length-1-t0;rename_i u0 u1 _;exact id (ql [_,_,_] 0x182bb181182bba01029821181008 (by rfl') q1 u1 u0)
  ·show AJ [x]<=AJ [x0];rename_i u2;exact id (ql [_,_] 0x1001081818008 (by rfl') u2.2 this)
  ·show t0+1<=t;rename_i u0 _ _;exact id (ql [_,_] 0x1180a0102981008 (by rfl') q1 u0)
 ·rintro _ ⟨t,x,e,rfl⟩
  exact aR5
 ·rintro _ ⟨t,x,e,rfl⟩ ⟨h1,h3⟩
  have h1:t=0:=h1
  have h3:T.length-1-t=0:=h3
  rename_i u0 _;exists 2,0xa081180bb280812802808,h2,u0,h3
 ·rintro _ ⟨t,x,e,rfl⟩ ⟨h1,h3⟩
  have h1:t+1=T.length:=h1
  have h3:T.length-1-t+1=T.reverse.length:=h3
  exists 3,0xa1182180bba280182a28012802808,h2,lr,h1,h3
structure Dd(old nw dr:List Int)(made:Int):Prop where
 nd:nw.Nodup
 len:nw.length<=12
 bd :∀y∈nw,0<=y/\y<made+4
 sg :∃S,Bg old nw dr S
section
variable{H A B R tx dI M:List Int}{made:Int}{one two n:Nat}
def WG(ho:(H++A++R).Nodup)(hn:(H++B++R).Nodup)(hl:(H++B++R).length<=12)(hb :∀y∈H++A++R,0<=y/\y<made)(hm :∀y∈B,y∈A\/(0<=y/\y<made+4))
  (h:A≠B->∃SI,jG A B dI SI):Dd (H++A++R) (Bv (H++A++R) H (B,R,dI)).1 (Bv (H++A++R) H (B,R,dI)).2 made:=by
 refine⟨hn,hl,λy hy=>?_,?_⟩
 ·have up :∀{y},y∈H++A++R->0<=y/\y<made+4:=λ{y} q=>⟨(hb y q).1,by have:=(hb y q).2;exists[],[_,_],0x481a041048,this⟩
  rcases aC0.mp hy with q | q
  ·rcases aC0.mp q with q | q
   ·exact up (aC0.mpr (.inl (aC0.mpr (.inl q))))
   ·exact(hm y q).elim (λq=>up (aC0.mpr (.inl (aC0.mpr (.inr q))))) id
  ·exact up (aC0.mpr (.inr q))
 ·show∃S,Bg (H++A++R) (H++B++R) (if H++B++R=H++A++R then []else dI++if AJ R=0 then R else []) S
  by_cases e:H++B++R=H++A++R
  ·rw[bO7 e,e]
   exact⟨_,.same ho⟩
  ·rw[bO8 e]
   obtain⟨SI,i⟩:=h λz=>e (by rw[z])
   exact⟨_,i.sg.out ho hn i.dr i.ps i.c0 i.c1 i.ne⟩
def MJ(ho:(H++A++R).Nodup)(hM:M.Nodup)(hn :∀x∈M,x∉H++A++R)(hm :∀y∈M,0<=y/\y<made+4)(hl:(H++M++R).length<=12)(hb :∀y∈H++A++R,0<=y/\y<made) :
  Dd (H++A++R) (Bv (H++A++R) H (M,R,[])).1 (Bv (H++A++R) H (M,R,[])).2 made:=by
 refine WG ho ?_ hl hb (λy hy=>.inr (hm y hy)) λe=>⟨_,Uq (λx hx hx'=>hn x hx' (aC0.mpr (.inl (aC0.mpr (.inr hx))))) λz=>e ?_⟩
 ·have p:(H++M++R).Perm (M++(H++R)):=by
   rw[aL8]
   exact List.perm_append_comm_assoc ..
  rw[p.nodup_iff]
  refine aK8.mpr ⟨hM,ho.sublist ((List.sublist_append_left ..).append (.refl _)),λa ha b hb e=>?_⟩
  subst e
  exact hn a ha ((aC0.mp hb).elim (λh=>aC0.mpr (.inl (aC0.mpr (.inl h)))) λh=>aC0.mpr (.inr h))
 ·rw[List.length_eq_zero_iff.mp z.1,List.length_eq_zero_iff.mp z.2]
def Nx(p:B.Perm A)(ho:(H++A++R).Nodup)(hl:(H++A++R).length<=12)(hb :∀y∈H++A++R,0<=y/\y<made)
  (h:A≠B->∃SI,jG A B dI SI):Dd (H++A++R) (Bv (H++A++R) H (B,R,dI)).1 (Bv (H++A++R) H (B,R,dI)).2 made:=by
 have q:(H++B++R).Perm (H++A++R):=bI7.append_right _ (aZ9 _ p)
 exact WG ho (q.nodup_iff.mpr ho) (by rw[q.length_eq];exact hl) hb (λy hy=>.inl (p.mem_iff.mp hy)) h
def QL{m:Nat}(hm:m<=4)(h0:0<=made)(hb :∀y∈tx,0<=y/\y<made):(Ci made m).Nodup/\(∀x∈Ci made m,x∉tx)/\(∀y∈Ci made m,0<=y/\y<made+4)/\(Ci made m).length=m:=by
 have mem :∀y∈Ci made m,made<=y/\y<made+4:=λy hy=>by
  obtain⟨k,hk,rfl⟩:=aM8.mp hy
  have:=aR0.mp hk
  exists[_,_],[_],0x480a10f0a410f0a036011848008,hm,this
 refine⟨aV6.map _ (λa b h e=>h (by exists[_,_],[_],0x10210f0a00f0a58,e)) bF8,λx hx h=>?_,λy hy=>⟨aQ3 h0 (mem y hy).1,(mem y hy).2⟩,(aB0 ..).trans aG6⟩
 have:=(mem x hx).1;have:=(hb x h).2;rename_i u0;exists[],[_,_],0xa01481038,u0,this
def TF(h0:0<=made)(i j:Nat):(((Bu made tx).take j).drop i).Nodup/\(∀x∈((Bu made tx).take j).drop i,x∉tx)/\∀y∈((Bu made tx).take j).drop i,0<=y/\y<made+4:=by
 have sub:(((Bu made tx).take j).drop i).Sublist (Bu made tx):=(aY4 ..).trans (List.take_sublist ..)
 have nd:(Bu made tx).Nodup:=List.Nodup.sublist List.filter_sublist (aV6.map _ (λa b h e=>h (by exists 2,0x10210f00f58,e)) bF8)
 refine⟨nd.sublist sub,λx hx h=>by
  have q:=(aI5.mp (sub.subset hx)).2
  rw[bP0 h]at q
  exact(nomatch q),λy hy=>?_⟩
 obtain⟨k,hk,rfl⟩:=aM8.mp (aI5.mp (sub.subset hy)).1
 have:=aR0.mp hk
 exists[_,_],[_],0x480a00f400f0836080e10f581018,this,(aD6 _)
def Ol{T:List Int}(h:T.length<2):T.reverse=T:=by
 cases T with
 | nil=>rfl
 | cons x T=>cases T with
  | nil=>rfl
  | cons y T=>exact bO9 h (aM3.mpr (Nat.le_add_left 2 T.length))
def SE{kd x2:Int}{hd tl:List Int}(h1:one<=4)(ho:(hd++tl).Nodup)(hl:(hd++tl).length<=12)(h0:0<=made)(hb :∀y∈hd++tl,0<=y/\y<made) :
  Dd (hd++tl) (Bv (hd++tl) hd (IT kd x2 made one two (hd++tl) tl)).1 (Bv (hd++tl) hd (IT kd x2 made one two (hd++tl) tl)).2 made:=by
 have lt:(hd++tl).length=hd.length+tl.length:=aC3
 have tk :∀k,hd++tl.take k++tl.drop k=hd++tl:=λk=>by rw[aL8,bA2]
 have e0:hd++[]++tl=hd++tl:=by rw[aF8]
 unfold IT
 by_cases k0:kd=0
 ·rw[bO7 k0]
  obtain⟨f1,f2,f3,f4⟩:=QL (m:=min one (12-(hd++tl).length)) (aA3 (aS7 ..) h1) h0 hb
  have:=MJ (H:=hd) (A:=[]) (R:=tl) (made:=made) (M:=Ci made (min one (12-(hd++tl).length))) (by rw[e0];exact ho) f1 (by rw[e0];exact f2) f3 (by rw[aC3,aC3,f4];exists 4,0xc820c8b3d1aa021a028c8008,hl,lt) (by rw[e0];exact hb)
  rwa[e0]at this
 ·rw[bO8 k0]
  by_cases ľ:kd=1
  ·rw[bO7 ľ]
   have:=MJ (H:=hd) (A:=tl.take one) (R:=tl.drop one) (made:=made) (M:=[]) (by rw[tk];exact ho) bI1 (λ_ h=>nomatch h) (λ_ h=>nomatch h) (by rw[aF8,aC3,aJ1];exists 4,0xc832b1a021a028c8008,hl,lt) (by rw[tk];exact hb)
   rwa[tk]at this
  ·rw[bO8 ľ]
   by_cases k2:kd=2
   ·rw[bO7 k2]
    have e:tl.take one++(tl.take (one+two)).drop one=tl.take (one+two):=by
     conv=>rhs;rw[<-bA2 one (tl.take (one+two)),List.take_take,aW0 (aE1 ..)]
    have e2:=tk (one+two)
    rw[<-e]at e2
    generalize (tl.take (one+two)).drop one=q at e2 ⊢
    generalize tl.take one=p at e2 ⊢
    rw[<-e2]at ho hl hb ⊢
    refine Nx List.perm_append_comm ho hl hb λn=>⟨_,VT ((aK8.mp (aK8.mp ho).1).2.1) (λz=>n ?_) λz=>n ?_⟩
    ·rw[z];exact(aF8 q).symm
    ·rw[z];exact aF8 p
   ·rw[bO8 k2]
    by_cases k3:kd=3
    ·rw[bO7 k3]
     have e:=tk (one+two)
     rw[<-e]at ho hl hb ⊢
     exact Nx (List.reverse_perm _) ho hl hb λn=>⟨_,TY ((aK8.mp (aK8.mp ho).1).2.1) (aN5 λz=>n (Ol z).symm)⟩
    ·rw[bO8 k3]
     obtain⟨f1,f2,f3⟩:=TF (tx:=hd++tl) h0 ((x2.fdiv 16).fmod ((Bu made (hd++tl)).length+1)).toNat (((x2.fdiv 16).fmod ((Bu made (hd++tl)).length+1)).toNat+min one (12-(hd++tl).length))
     have:=MJ (H:=hd) (A:=[]) (R:=tl) (made:=made) (M:=((Bu made (hd++tl)).take (((x2.fdiv 16).fmod ((Bu made (hd++tl)).length+1)).toNat+min one (12-(hd++tl).length))).drop ((x2.fdiv 16).fmod ((Bu made (hd++tl)).length+1)).toNat) (by rw[e0];exact ho) f1 (by rw[e0];exact f2) f3 (by rw[aC3,aC3,aJ1,aG2];exists 6,0xc82350c8b4d3adb1aa021a028c8008,hl,lt) (by rw[e0];exact hb)
     rwa[e0]at this
end
def RG{x made:Int}{tx:List Int}(ho:tx.Nodup)(hl:tx.length<=12)(h0:0<=made)(hb :∀y∈tx,0<=y/\y<made):Dd tx (DS x tx made).1 (DS x tx made).2 made:=by
 have four :∀i:Int,(1+i.fmod 4).toNat<=4:=λi=>by
  have:=aS3 i (by decide:(0:Int)<4);have:=Int.fmod_lt_of_pos i (by decide:(0:Int)<4);exists[_],[_],0x480008018ae00f5848048,this,(aD6 _)
 have e:=bA2 ((x.fdiv 5).fmod (tx.length+1)).toNat tx
 have:=SE (kd:=x.fmod 5) (x2:=(x.fdiv 5).fdiv (tx.length+1)) (made:=made) (hd:=tx.take ((x.fdiv 5).fmod (tx.length+1)).toNat) (tl:=tx.drop ((x.fdiv 5).fmod (tx.length+1)).toNat) (two:=(1+(((x.fdiv 5).fdiv (tx.length+1)).fdiv 4).fmod 4).toNat) (four ((x.fdiv 5).fdiv (tx.length+1))) (by rw[e];exact ho) (by rw[e];exact hl) h0 (by rw[e];exact hb)
 rw[e]at this
 exact this
def C3{b:BN}{r:List BN}{x y:Nat}:Tq (b::r) x y↔(∃d,d<b.2.2/\x=b.1+d/\y=b.2.1+d)\/Tq r x y:=by
 constructor
 ·rintro ⟨c,hc,q⟩
  rcases aD7.mp hc with rfl | hc
  ·exact .inl q
  ·exact .inr ⟨c,hc,q⟩
 ·rintro (q | ⟨c,hc,q⟩)
  ·exact⟨b,aC6 ..,q⟩
  ·exact⟨c,aC9 _ hc,q⟩
theorem Ga{x y:Nat} :∀{bs:List BN} {i j k:Nat},Tq (Et (i,j,k) bs) x y↔Tq ((i,j,k)::bs) x y
 | [],i,j,k=>by
  unfold Et
  split
  ·rename_i h
   subst h
   exact⟨λ⟨c,hc,_⟩=>(nomatch hc),λh=>(C3.mp h).elim (λ⟨d,hd,_⟩=>bO9 hd (aE6 d)) id⟩
  ·exact Iff.rfl
 | (i2,j2,k2)::r,i,j,k=>by
  unfold Et
  split
  ·rename_i h
   obtain⟨rfl,rfl⟩:=h
   rw[Ga,C3,C3,C3,<-or_assoc]
   refine or_congr_left ⟨λ⟨d,h1,h2,h3⟩=>?_,λh=>?_⟩
   ·by_cases z:d<k
    ·exact .inl ⟨d,z,h2,h3⟩
    ·exact .inr ⟨d-k,by show d-k<k2;have:d<k+k2:=h1;exact id (ql [_,_,_] 0x210b121a01810198 (by rfl') z this),by show x=i+k+(d-k);have:x=i+d:=h2;exact id (ql [_,_,_,_] 0x32b31aa023219821a028 (by rfl') h2 z),by show y=j+k+(d-k);have:y=j+d:=h3;exact id (ql [_,_,_,_] 0x32b31aa023219821a028 (by rfl') h3 z)⟩
   ·rcases h with⟨d,h1,h2,h3⟩ | ⟨d,h1,h2,h3⟩
    ·exact⟨d,aB3 h1 (aE1 ..),h2,h3⟩
    ·exact⟨k+d,bC7 h1 k,h2.trans (aM1 ..),h3.trans (aM1 ..)⟩
  ·split
   ·rename_i h
    subst h
    rw[Ga,C3 (b:=(i,j,0))]
    exact⟨.inr,λh=>h.elim (λ⟨d,hd,_⟩=>bO9 hd (aE6 d)) id⟩
   ·rw[C3,Ga,C3 (b:=(i,j,k))]
def Wz(n m:Nat):Nat->Nat->List BN->Prop
 | i,j,[]=>i<=n/\j<=m
 | i,j,b::r=>(i<=b.1/\j<=b.2.1)/\0<b.2.2/\Wz n m (b.1+b.2.2) (b.2.1+b.2.2) r
theorem Mm{n m:Nat} :∀{L:List BN} {i j x y k:Nat} {R:List BN},Wz x y i j L->0<k->Wz n m (x+k) (y+k) R->Wz n m i j (L++(x,y,k)::R)
 | [],_,_,_,_,_,_,h,hk,r=>⟨h,hk,r⟩
 | b::L,_,_,_,_,_,_,⟨h1,h2,h3⟩,hk,r=>⟨h1,h2,Mm h3 hk r⟩
def GU.ups{la lb:List Int}{alo ahi blo bhi:Nat}{bs:List BN}(h:GU la lb alo ahi blo bhi bs):Wz ahi bhi alo blo bs:=by
 induction h with
 | zero h=>exact⟨aA3 h.str.1 h.str.2.2.1,aA3 h.str.2.1 h.str.2.2.2.1⟩
 | step h hk l r ihl ihr=>exact Mm ihl hk ihr
theorem Ms{n m:Nat} :∀{bs:List BN} {i j:Nat},Wz n m i j bs->j+bs.length<=m
 | [],_,_,h=>h.2
 | b::r,i,j,⟨h1,h2,h3⟩=>by
  have:=Ms h3
  rw[bG1];have:=h1.2;rename_i u0;exists 5,0x4183a0a04321aa08208181008,h1.2,h2,u0
theorem JP :∀{bs:List BN} {i j k:Nat},(Et (i,j,k) bs).length<=bs.length+1/\(k=0->(Et (i,j,k) bs).length<=bs.length)
 | [],i,j,k=>by
  unfold Et
  split
  ·exact⟨aC7 _,λ_=>aC7 _⟩
  ·rename_i h
   exact⟨aA9 _,λz=>bO9 z h⟩
 | (i2,j2,k2)::r,i,j,k=>by
  unfold Et
  split
  ·have:=(JP (bs:=r) (i:=i) (j:=j) (k:=k+k2)).1
   exact⟨aI0 this,λ_=>this⟩
  ·have:=(JP (bs:=r) (i:=i2) (j:=j2) (k:=k2)).1
   split
   ·exact⟨aI0 this,λ_=>this⟩
   ·rename_i h
    exact⟨aG8 this,λz=>bO9 z h⟩
def dA(b b':BN):Prop:=b.1+b.2.2<=b'.1/\b.2.1+b.2.2<=b'.2.1/\¬ (b.1+b.2.2=b'.1/\b.2.1+b.2.2=b'.2.1)
theorem Jm{n m:Nat} :∀{bs:List BN} {i j k:Nat},Wz n m (i+k) (j+k) bs->(∀b∈Et (i,j,k) bs,0<b.2.2)/\(Et (i,j,k) bs).Pairwise dA/\(∀b∈Et (i,j,k) bs,i<=b.1/\j<=b.2.1)/\(0<k->∃k' r,Et (i,j,k) bs=(i,j,k')::r)
 | [],i,j,k,h=>by
  unfold Et
  split
  ·rename_i z
   exact⟨λ_ h=>(nomatch h),.nil,λ_ h=>(nomatch h),λq=>bO9 z (aJ6 q)⟩
  ·rename_i z
   exact⟨λb h=>(aB6.mp h)▸aI6 z,List.pairwise_singleton ..,λb h=>(aB6.mp h)▸⟨aA9 _,aA9 _⟩,λ_=>⟨k,[],rfl⟩⟩
 | (i2,j2,k2)::r,i,j,k,⟨⟨h1,h2⟩,h3,ō⟩=>by
  change i+k<=i2 at h1;change j+k<=j2 at h2;change 0<k2 at h3
  unfold Et
  split
  ·rename_i h
   obtain⟨rfl,rfl⟩:=h
   obtain⟨q1,Ľ,q3,ő⟩:=Jm (bs:=r) (i:=i) (j:=j) (k:=k+k2) (n:=n) (m:=m) (by rw[<-aM1,<-aM1];exact ō)
   exact⟨q1,Ľ,q3,λ_=>ő (by exists 2,0x1a08100818,h3)⟩
  ·rename_i nt
   obtain⟨q1,Ľ,q3,ő⟩:=Jm (bs:=r) (i:=i2) (j:=j2) (k:=k2) (n:=n) (m:=m) ō
   split
   ·rename_i z
    subst z
    exact⟨q1,Ľ,λb hb=>⟨aA3 h1 (q3 b hb).1,aA3 h2 (q3 b hb).2⟩,λq=>bO9 q (aM6 0)⟩
   ·rename_i z
    obtain⟨k',r',e⟩:=ő h3
    have up :∀b∈Et (i2,j2,k2) r,dA (i,j,k) b:=λb hb=>by
     have:=q3 b hb
     refine⟨by show i+k<=_;exact id (ql [_,_,_,_] 0x310a03208210a08 (by rfl') h1 this.1),by show j+k<=_;exact id (ql [_,_,_,_] 0x310a03208210a08 (by rfl') h2 this.2),λ(w:i+k=b.1/\j+k=b.2.1)=>?_⟩
     exact nt ⟨by(exists 4,0x210a2310a283208210a08,h1,this.1,w.1),by exists 4,0x210a2310a283208210a08,h2,this.2,w.2⟩
    refine⟨λb hb=>?_,aR7.mpr ⟨up,Ľ⟩,λb hb=>?_,λ_=>⟨k,_,rfl⟩⟩
    ·rcases aD7.mp hb with rfl | hb
     ·exact aI6 z
     ·exact q1 b hb
    ·rcases aD7.mp hb with rfl | hb
     ·exact⟨aA9 _,aA9 _⟩
     ·exact⟨aA3 (aN1 h1) (q3 b hb).1,aA3 (aN1 h2) (q3 b hb).2⟩
def KE{old drop:List Int}(n:old.Nodup){x:Int}{p:Nat}:gP old drop x=some p↔x∉drop/\old[p]?=some x:=by
 unfold gP
 by_cases h:x∈drop
 ·rw[bO7 h]
  exact⟨λz=>(nomatch z),λz=>bO9 h z.1⟩
 ·rw[bO8 h]
  exact⟨λz=>⟨h,EB z⟩,λz=>Y9 n z.2⟩
structure Zh(s:Nat)(F F' D:List Int)(bl:List BN):Prop where
 hk :∀b∈bl,∀d,d<b.2.2->∃x,F[Az s b+d]?=some x/\gP F' D x=some (Az (1-s) b+d)
 cv :∀a x p,F[a]?=some x->gP F' D x=some p->∃b∈bl,∃d,d<b.2.2/\a=Az s b+d/\p=Az (1-s) b+d
 nb :∀b∈bl,∀b'∈bl,∀d d',d<b.2.2->d'<b'.2.2->Az s b+d+1=Az s b'+d'->Az (1-s) b+d+1=Az (1-s) b'+d'->b=b'
structure mM(W N D:List Int)(ms:List BN):Prop where
 ml:ms.length<=12
 lw:Lw W N ms
 l0:Zh 0 W N D (BI W N ms)
 l1:Zh 1 N W D (BI W N ms)
section
variable{W N D:List Int}{S:Sg->Prop}{bs ms:List BN}
def RZ(hp:ms.Pairwise dA) :∀b∈ms,∀b'∈ms,∀d d',d<b.2.2->d'<b'.2.2->b.1+d+1=b'.1+d'->b.2.1+d+1=b'.2.1+d'->b=b':=by
 induction hp with
 | nil=>exact λb h=>nomatch h
 | @cons a l h _ ih=>
  intro b hb b' hb' d d' h1 h2 h3 ō
  rcases aD7.mp hb with rfl | g<;>rcases aD7.mp hb' with rfl | g'
  ·rfl
  ·have q:=h b' g'
   unfold dA at q
   exact aA8 (ql [_,_,_,_,_,_,_] 0xa615a2312a2698312a0846a1805aa2843a1802aa281018 (by rfl') h1 h3 ō q.1 q.2.2)
  ·have q:=h b g
   unfold dA at q
   exact aA8 (ql [_,_,_,_,_] 0xa214a0804a1832aa281018 (by rfl') h2 h3 q.1)
  ·exact ih b g b' g' d d' h1 h2 h3 ō
def Ee{b:BN}{d:Nat}(h:b∈BI W N ms)(hd:d<b.2.2):b∈ms:=by
 unfold BI at h
 rcases aC0.mp h with h | h
 ·exact h
 ·cases aB6.mp h
  exact bO9 hd (aE6 d)
def Bg.stg(h:Bg W N D S)(nW:W.Nodup)(nN:N.Nodup)(hl:N.length<=12)(r:GU W N 0 W.length 0 N.length bs):bs.length<64/\mM W N D (Et (0,0,0) bs):=by
 have u:=r.ups
 have lb:=Ms u
 have le:=(JP (bs:=bs) (i:=0) (j:=0) (k:=0)).2 rfl
 obtain⟨q1,Ľ,-,-⟩:=Jm (bs:=bs) (i:=0) (j:=0) (k:=0) (n:=W.length) (m:=N.length) u
 have cv :∀i j,Tq (Et (0,0,0) bs) i j↔Ph W N D i j:=λi j=>by
  rw[<-h.cov r i j,Ga,C3]
  exact⟨λz=>z.elim (λ⟨d,hd,_⟩=>bO9 hd (aE6 d)) id,.inr⟩
 generalize Et (0,0,0) bs=ms at q1 Ľ le cv ⊢
 have kp :∀b∈ms,∀d,d<b.2.2->Ph W N D (b.1+d) (b.2.1+d):=λb hb d hd=>(cv _ _).mp ⟨b,hb,d,hd,rfl,rfl⟩
 have bd :∀b∈ms,b.1+b.2.2<=W.length/\b.2.1+b.2.2<=N.length:=λb hb=>by
  have p:=q1 b hb
  obtain⟨x,e,f,_⟩:=kp b hb (b.2.2-1) (by exists 1,0x180b100818,p)
  have:=At e;have:=At f
  exact⟨by rename_i u1;(exists 3,0x210a02181b0a18,u1),by exists 3,0x210a02181b0a18,this⟩
 have lw:Lw W N ms:=⟨q1,λb hb=>⟨(bd b hb).1,(bd b hb).2,?_⟩,λk b b' e e'=>?_⟩
 ·refine⟨by(exists 2,0x409110108a08c8008,hl,lb),by(exists 3,0xc82012080108a08c8008,hl,lb,le),lw,⟨λb hb d hd=>?_,λa x p e g=>?_,λb hb b' hb' d d' h1 h2 h3 ō=>?_⟩,⟨λb hb d hd=>?_,λa x p e g=>?_,λb hb b' hb' d d' h1 h2 h3 ō=>?_⟩⟩
  ·obtain⟨x,e,f,n⟩:=kp b (Ee hb hd) d hd
   exact⟨x,e,(KE nN).mpr ⟨n,f⟩⟩
  ·have q:=(KE nN).mp g
   obtain⟨b,hb,z⟩:=(cv a p).mpr ⟨x,e,q.2,q.1⟩
   exact⟨b,aC0.mpr (.inl hb),z⟩
  ·exact RZ Ľ b (Ee hb h1) b' (Ee hb' h2) d d' h1 h2 h3 ō
  ·obtain⟨x,e,f,n⟩:=kp b (Ee hb hd) d hd
   exact⟨x,f,(KE nW).mpr ⟨n,e⟩⟩
  ·have q:=(KE nW).mp g
   obtain⟨b,hb,d,Š,z2,ĳ⟩:=(cv p a).mpr ⟨x,q.2,e,q.1⟩
   exact⟨b,aC0.mpr (.inl hb),d,Š,ĳ,z2⟩
  ·exact RZ Ľ b (Ee hb h1) b' (Ee hb' h2) d d' h1 h2 ō h3
 ·refine List.ext_getElem? λt=>?_
  rw[aO0,aO0,aQ0,aQ0]
  by_cases z:t<b.2.2
  ·rw[bO7 (bC7 z _),bO7 (bC7 z _)]
   obtain⟨x,e,f,_⟩:=kp b hb t z
   exact e.trans f.symm
  ·rw[bO8 λy=>z (Nat.lt_of_add_lt_add_left y),bO8 λy=>z (Nat.lt_of_add_lt_add_left y)]
 ·obtain⟨h1,rfl⟩:=aA5.mp e
  obtain⟨h2,rfl⟩:=aA5.mp e'
  exact aN4.mp Ľ k (k+1) h1 h2 (aC2 k)
end
section
variable{F F' D ls ps:List Int}{bl:List BN}{s lo hi:Nat}
def SW{j:Nat}{x:Int}(e:F[j]?=some x):(ES F' F D ls).getD j 0=(gP F' D x).elim 0 λp=>1+ls.getD p 0:=by
 rw[aB2]
 unfold ES
 rw[aC5,e];rfl
def NY{j:Nat}{x y:Int}(e:F[j]?=some x)(f:F[j+1]?=some y):(C5 F' F D ps).getD (j+1) 0=(Ŗ F' D x y).elim 0 λp=>1+ps.getD p 0:=by
 rw[aB2]
 unfold C5
 rw[aC5,bC3 (At f)]
 show GN F' F D ps (j+1)=_
 unfold GN
 rw[bO8 (Nat.succ_ne_zero j),Nat.add_sub_cancel,aB2,aB2,e,f];rfl
def aY{x y:Int}{p:Nat}(h:gP F' D x=some p)(k:gP F' D y=some (p+1)):Ŗ F' D x y=some (p+1):=by
 unfold Ŗ
 rw[k,h]
 exact bO7 rfl
def dW{x y:Int}{p q:Nat}(h:Ŗ F' D x y=some q) :∃p,gP F' D x=some p/\gP F' D y=some (p+1)/\q=p+1:=by
 unfold Ŗ at h
 obtain⟨a,ha,h⟩:=aQ8.mp h
 obtain⟨b,hb,h⟩:=aQ8.mp h
 by_cases e:a=b+1
 ·rw[bO7 e]at h
  exact⟨b,hb,e▸ha,(aA1 h).symm.trans e⟩
 ·rw[bO8 e]at h
  cases h
def Zh.one(h:Zh s F F' D bl)(hl:hi<=F.length) :∀k,lo+k+1=hi->(∀j,lo<=j->j<hi->(ES F' F D ls).getD j 0≠0)->(∀j,lo<j->j<hi->(C5 F' F D ps).getD j 0≠0)->
  ∃b∈bl,Az s b<=lo/\hi<=Az s b+b.2.2/\∃x,F[lo+k]?=some x/\gP F' D x=some (Az (1-s) b+(lo+k-Az s b)):=by
 intro k
 induction k generalizing hi with
 | zero=>
  intro e h1 h2
  obtain⟨x,ex⟩:=KB (l:=F) (i:=lo) (by exists 3,0x121018082aa281008,hl,e)
  have q:=h1 lo (aA9 _) (by exists 2,0x101118080aa28,e)
  rw[SW ex]at q
  cases g:gP F' D x with
  | none=>rw[g]at q;exact bO9 rfl q
  | some p=>
   obtain⟨b,hb,d,hd,e1,e2⟩:=h.cv lo x p ex g
   exact⟨b,hb,by(exists 3,0x1021a028,e1),by(exists 5,0x34a1024a0283218118080aa28,e,hd,e1),x,ex,g.trans (bO6 some (by exists 5,0x1080ab4a3224a32821a028,e1,e2))⟩
 | succ k ih=>
  intro e h1 h2
  obtain⟨b,hb,q1,Ľ,x,ex,gx⟩:=ih (hi:=lo+k+1) (by exists 4,0x11832aa0018183a2aa281008,hl,e) rfl (λj a c=>h1 j a (by exists 4,0x2311810aa318218181a0aa28,e,c)) λj a c=>h2 j a (by exists 4,0x2311810aa318218181a0aa28,e,c)
  obtain⟨y,ey⟩:=KB (l:=F) (i:=lo+k+1) (by exists 4,0x11832aa1018183a2aa281008,hl,e)
  have q:=h2 (lo+k+1) (by exists 2,0x1810aa01) (by exists 3,0x21810aa1218181a0aa28,e)
  rw[NY ex ey]at q
  cases g:Ŗ F' D x y with
  | none=>rw[g]at q;exact bO9 rfl q
  | some p=>
   obtain⟨p',g1,g2,rfl⟩:=dW (p:=0) g
   obtain⟨b',hb',d',hd',e1,e2⟩:=h.cv _ _ _ ey g2
   have ep:=aA1 (g1.symm.trans gx)
   have:=h.nb b hb b' hb' (lo+k-Az s b) d' (by exists 4,0x3021ab130a1821aa081008,q1,Ľ) hd' (by exists 5,0x43a18021ab0aa243a1821aa281008,q1,e1) (by exists 7,0x21a18654ab3aa2654ab3a02821a180a28,e2,ep)
   subst this
   exact⟨b,hb,q1,by(exists 6,0x45a2035a1810aa284318218181a0aa28,e,hd',e1),y,ey,g2.trans (bO6 some (by exists 5,0x184a1ab3a182a2041ab3a2281008,q1,ep))⟩
end
section
variable{s n:Nat}{F Dr ls ps:Nat->List Int}{bl:Nat->List BN}
structure xN(F ls ps:Nat->List Int)(t lo hi:Nat)(r:Nat×Nat):Prop where
 le :∀j,(lo<=j->j<hi->(r.1:Int)<=(ls t).getD j 0)/\(lo<j->j<hi->(r.1:Int)<=(ps t).getD j 0)
 eq :∃j,j<hi/\((lo<=j/\(ls t).getD j 0=(r.1:Int))\/(lo<j/\(ps t).getD j 0=(r.1:Int)))
 pl :∃x,(F t)[lo]?=some x/\(F (t+r.1))[r.2]?=some x
def WN(hz :∀j,(ls n).getD j 0=0/\(ps n).getD j 0=0)(hs :∀t,t<n->ls t=ES (F (t+1)) (F t) (Dr t) (ls (t+1))/\ps t=C5 (F (t+1)) (F t) (Dr t) (ps (t+1))) :∀k t,t+k=n->∀j,0<=(ls t).getD j 0/\0<=(ps t).getD j 0:=by
 intro k
 induction k with
 | zero=>
  intro t e j
  have:t=n:=e
  subst this
  exact⟨aY1 (hz j).1.symm,aY1 (hz j).2.symm⟩
 | succ k ih=>
  intro t e j
  have i:=ih (t+1) (by exists 3,0x21180aa22181a0a28,e)
  rw[(hs t (by exists 3,0x2012181a0a28,e)).1,(hs t (by exists 3,0x2012181a0a28,e)).2]
  have el :∀(o:Option Nat) (f:Nat->Int),(∀p,0<=f p)->0<=o.elim 0 λp=>1+f p:=λo f hf=>by
   cases o with
   | none=>exact aU4 0
   | some p=>show 0<=1+f p;have:=hf p;exists[],[_],0x18a08300838,this
  constructor
  ·rw[aB2]
   unfold ES
   rw[aC5]
   cases(F t)[j]? with
   | none=>exact aU4 0
   | some x=>exact el _ _ λp=>(i p).1
  ·rw[aB2]
   unfold C5
   rw[aC5]
   cases(aC8 (F t).length)[j]? with
   | none=>exact aU4 0
   | some x=>
    show 0<=GN _ _ _ _ x
    unfold GN
    by_cases z:x=0
    ·rw[bO7 z];exact aU4 0
    ·rw[bO8 z];exact el _ _ λp=>(i p).2
def PX(hz :∀j,(ls n).getD j 0=0/\(ps n).getD j 0=0)(hs :∀t,t<n->ls t=ES (F (t+1)) (F t) (Dr t) (ls (t+1))/\ps t=C5 (F (t+1)) (F t) (Dr t) (ps (t+1)))
  (hL :∀t,t<n->Zh s (F t) (F (t+1)) (Dr t) (bl t)) :∀(c:List (List BN)) (t lo hi:Nat),t+c.length=n->(∀i,i<c.length->c[i]?=some (bl (t+i)))->lo<hi->hi<=(F t).length->xN F ls ps t lo hi (Ae s c lo hi):=by
 intro c
 induction c with
 | nil=>
  intro t lo hi e _ h1 h2
  obtain⟨x,ex⟩:=KB (l:=F t) (i:=lo) (by exists 3,0x20121081018,h1,h2)
  have:t=n:=e
  subst this
  exact⟨λj=>⟨λ_ _=>aY1 (hz j).1.symm,λ_ _=>aY1 (hz j).2.symm⟩,⟨lo,h1,.inl ⟨aA9 _,(hz lo).1⟩⟩,x,ex,ex⟩
 | cons b0 r ih=>
  intro t lo hi e hb h1 h2
  rw[bG1]at e
  have tn:t<n:=by exists 3,0x2012181a0a28,e
  have:b0=bl t:=aA1 (hb 0 (aV3 _))
  subst this
  have L:=hL t tn
  obtain⟨d1,d2⟩:=hs t tn
  rw[Du]
  cases hh:(FW s lo hi (bl t)).head? with
  | none=>
   have no :∀b∈bl t,¬ (Az s b<=lo/\hi<=Az s b+b.2.2):=λb hb q=>by
    have m:b∈FW s lo hi (bl t):=aI5.mpr ⟨hb,by rw[bP0 q.1,bP0 q.2];rfl⟩
    rw[List.head?_eq_none_iff.mp hh]at m
    cases m
   obtain⟨x,ex⟩:=KB (l:=F t) (i:=lo) (by exists 3,0x20121081018,h1,h2)
   have nn:=WN hz hs (n-t) t (by exists 3,0x202b0a22181a0a28,e)
   refine⟨λj=>⟨λ_ _=>(nn j).1,λ_ _=>(nn j).2⟩,aG4 λw=>?_,x,ex,ex⟩
   obtain⟨b,hb,q1,Ľ,_⟩:=L.one (lo:=lo) (hi:=hi) (ls:=ls (t+1)) (ps:=ps (t+1)) h2 (hi-lo-1) (by exists 2,0x1181801bb0aa21018,h1) (λj a c z=>w ⟨j,c,.inl ⟨a,by rw[d1];exact z⟩⟩) (λj a c z=>w ⟨j,c,.inr ⟨a,by rw[d2];exact z⟩⟩)
   exact no b hb ⟨q1,Ľ⟩
  | some b=>
   have m:=aI5.mp (List.mem_of_mem_head? hh)
   obtain⟨hbl,hd⟩:=m
   obtain⟨q1,Ľ⟩:Az s b<=lo/\hi<=Az s b+b.2.2:=by
    have:=(aH6 _ _▸hd:_/\_)
    exact⟨bP2 this.1,bP2 this.2⟩
   have ln :∀j,lo<=j->j<hi->∃x,(F t)[j]?=some x/\gP (F (t+1)) (Dr t) x=some (j-Az s b+Az (1-s) b):=λj a c=>by
    obtain⟨x,ex,g⟩:=L.hk b hbl (j-Az s b) (by exists 5,0x324b1141832a10802081018,h1,q1,Ľ,c)
    rw[show Az s b+(j-Az s b)=j by exists 3,0x202b0a221081008,q1,a]at ex
    exact⟨x,ex,g.trans (bO6 some (Nat.add_comm ..))⟩
   have hi2:hi-Az s b+Az (1-s) b<=(F (t+1)).length:=by
    obtain⟨x,ex,g⟩:=ln (hi-1) (by exists 2,0x181b001018,h1) (by exists 2,0x1181b11018,h1)
    have g:gP (F (t+1)) (Dr t) x=some (hi-1-Az s b+Az (1-s) b):=g
    have:(F (t+1))[hi-1-Az s b+Az (1-s) b]?=some x:=by
     unfold gP at g
     by_cases z:x∈Dr t
     ·rw[bO7 z]at g;cases g
     ·rw[bO8 z]at g;exact EB g
    have:=At this
    exists 4,0x3210ba0321180bba18,this
   have I:=ih (t+1) (lo-Az s b+Az (1-s) b) (hi-Az s b+Az (1-s) b) (by exists 3,0x21180aa22181a0a28,e) (λi hi=>by
    have:=hb (i+1) (Nat.succ_lt_succ hi)
    rw[show t+(i+1)=t+1+i by exists 2,0x1180aa181a0a2]at this
    exact this) (by exists 4,0x321ba320ba102081018,h1,q1) hi2
   show xN F ls ps t lo hi ((Ae s r _ _).1+1,(Ae s r _ _).2)
   generalize Ae s r (lo-Az s b+Az (1-s) b) (hi-Az s b+Az (1-s) b)=fr at I
   have lv :∀j,lo<=j->j<hi->(ls t).getD j 0=1+(ls (t+1)).getD (j-Az s b+Az (1-s) b) 0:=λj a c=>by
    obtain⟨x,ex,g⟩:=ln j a c
    rw[d1,SW ex,g];rfl
   have pv :∀j,lo<j->j<hi->(ps t).getD j 0=1+(ps (t+1)).getD (j-Az s b+Az (1-s) b) 0:=λj a c=>by
    obtain⟨i,rfl⟩ :∃i,j=i+1:=⟨j-1,by exists 2,0x18181ba121018,a⟩
    obtain⟨x,ex,g⟩:=ln i (by exists 2,0x100181a018,a) (by exists 2,0x1011180a18,c)
    obtain⟨y,ey,k⟩:=ln (i+1) (by exists 2,0x181a00181a018,a) c
    rw[show i+1-Az s b+Az (1-s) b=i-Az s b+Az (1-s) b+1 by exists 4,0x18302baa30182aba2182a1181008,q1,a]at k ⊢
    rw[d2,NY ex ey,aY g k];rfl
   refine⟨λj=>⟨λa c=>?_,λa c=>?_⟩,?_,?_⟩
   ·rw[lv j a c]
    have:=(I.le (j-Az s b+Az (1-s) b)).1 (by exists 4,0x321ba320ba01008,a) (by exists 5,0x421ba423ba1131802081018,h1,q1,c)
    show((fr.1+1:Nat):Int)<=_
    exact id (Ū [_] [_] 0x18a180a0f3000f38 (by rfl') this)
   ·rw[pv j a c]
    have:=(I.le (j-Az s b+Az (1-s) b)).2 (by exists 4,0x302ba301ba121181008,q1,a) (by exists 5,0x421ba423ba1131802081018,h1,q1,c)
    show((fr.1+1:Nat):Int)<=_
    exact id (Ū [_] [_] 0x18a180a0f3000f38 (by rfl') this)
   ·obtain⟨j,c,z⟩:=I.eq
    refine⟨j+Az s b-Az (1-s) b,by(exists 5,0x1423ab1421ba31802081018,h1,q1,c),z.imp (λz=>⟨by(exists 4,0x213ab003210ba08,z.1),?_⟩) λz=>⟨by(exists 4,0x213ab013210ba18,z.1),?_⟩⟩
    ·rw[lv _ (by exists 4,0x213ab003210ba08,z.1) (by exists 5,0x1423ab1421ba31802081018,h1,q1,c),show j+Az s b-Az (1-s) b-Az s b+Az (1-s) b=j by(exists 4,0x321213abba23210ba08,z.1),z.2]
     show 1+(fr.1:Int)=((fr.1+1:Nat):Int)
     exact id (ql [_] 0x180a0f00f18a5 (by rfl'))
    ·rw[pv _ (by exists 4,0x213ab013210ba18,z.1) (by exists 5,0x1423ab1421ba31802081018,h1,q1,c),show j+Az s b-Az (1-s) b-Az s b+Az (1-s) b=j by(exists 4,0x321213abba23210ba18,z.1),z.2]
     show 1+(fr.1:Int)=((fr.1+1:Nat):Int)
     exact id (ql [_] 0x180a0f00f18a5 (by rfl'))
   ·obtain⟨y,e1,e2⟩:=I.pl
    obtain⟨x,ex,g⟩:=ln lo (aA9 _) h1
    have:(F (t+1))[lo-Az s b+Az (1-s) b]?=some x:=by
     unfold gP at g
     by_cases z:x∈Dr t
     ·rw[bO7 z]at g;cases g
     ·rw[bO8 z]at g;exact EB g
    cases aA1 (e1.symm.trans this)
    exact⟨y,ex,by rw[show t+(fr.1+1)=t+1+fr.1 by exists 2,0x1180aa181a0a2];exact e2⟩
end
theorem I4{s:Nat} :∀{c:List (List BN)} {lo hi:Nat},(Ae s c lo hi).1<=c.length
 | [],_,_=>aA9 _
 | bl::r,lo,hi=>by
  rw[Du]
  cases(FW s lo hi bl).head? with
  | none=>exact aC7 _
  | some b=>exact aG8 I4
def G9{l:List Int}{lo hi:Nat}{a:Int}:a∈(l.take hi).drop lo↔∃j,lo<=j/\j<hi/\l[j]?=some a:=by
 rw[List.mem_iff_getElem?]
 constructor
 ·rintro ⟨i,h⟩
  rw[aO0,aQ0]at h
  by_cases z:lo+i<hi
  ·rw[bO7 z]at h
   exact⟨lo+i,aE1 ..,z,h⟩
  ·rw[bO8 z]at h;cases h
 ·rintro ⟨j,h1,h2,h3⟩
  refine⟨j-lo,?_⟩
  rw[aO0,aQ0,Nat.add_sub_cancel' h1,bO7 h2]
  exact h3
structure P8(row drops:List (List Int))(n lo hi:Nat)(r:Nat×Nat):Prop where
 mem:(r.1:Int)∈((BA row drops n).1.take hi).drop lo++((BA row drops n).2.take hi).drop (lo+1)
 le :∀a∈((BA row drops n).1.take hi).drop lo++((BA row drops n).2.take hi).drop (lo+1),(r.1:Int)<=a
 in_:r.1<=n
 pl :∃x,(row.getD n [])[lo]?=some x/\(row.getD (n-r.1) [])[r.2]?=some x
def Ki{row drops:List (List Int)}{chain:List (List BN)}{s n lo hi:Nat}(hc:chain.length=n)
  (hl :∀t,t<n->Zh s (row.getD (n-t) []) (row.getD (n-(t+1)) []) (drops.getD (n-(t+1)) []) (chain.getD t [])) (h1:lo<hi) (h2:hi<=(row.getD n []).length):P8 row drops n lo hi (Ae s chain lo hi):=by
 have z0 :∀(l:List Int) (j:Nat),(l.map λ_=>(0:Int)).getD j 0=0:=λl j=>by
  rw[aB2,aC5]
  cases l[j]?<;>rfl
 have F:=PX (s:=s) (n:=n) (F:=λt=>row.getD (n-t) []) (Dr:=λt=>drops.getD (n-(t+1)) []) (ls:=λt=>(BA row drops (n-t)).1) (ps:=λt=>(BA row drops (n-t)).2) (bl:=λt=>chain.getD t [])
  (λj=>by rw[show n-n=0 from bD2 n];exact⟨z0 _ j,z0 _ j⟩) (λt ht=>by
   rw[show n-t=n-(t+1)+1 by exists 2,0x18180a1ba01b21018,ht]
   exact⟨rfl,rfl⟩) hl chain 0 lo hi ((aF3 _).trans hc) (λi hi=>by rw[aF3,aB2,aA6 hi];rfl) h1 h2
 obtain⟨f1,f2,f3⟩:=F
 have fl:=I4 (s:=s) (c:=chain) (lo:=lo) (hi:=hi)
 generalize Ae s chain lo hi=r at f1 f2 f3 fl
 rw[bG7]at f1 f2 f3
 obtain⟨b1,b2⟩:=Ew (row:=row) (drops:=drops) (k:=n)
 have gt :∀{l:List Int} {j:Nat},j<hi->l.length=(row.getD n []).length->l[j]?=some (l.getD j 0):=λ{l j} h e=>by
  have:=aA6 (l:=l) (i:=j) (by exists 4,0x321132802181008,h2,h,e)
  rw[aB2,this];rfl
 have gd :∀{l:List Int} {j:Nat} {a:Int},l[j]?=some a->l.getD j 0=a:=λh=>by rw[aB2,h];rfl
 refine⟨?_,λa ha=>?_,hc▸fl,?_⟩
 ·obtain⟨j,hj,q | q⟩:=f2
  ·exact aC0.mpr (.inl (G9.mpr ⟨j,q.1,hj,q.2▸gt hj b1⟩))
  ·exact aC0.mpr (.inr (G9.mpr ⟨j,q.1,hj,q.2▸gt hj b2⟩))
 ·rcases aC0.mp ha with ha | ha
  ·obtain⟨j,q1,Ľ,q3⟩:=G9.mp ha
   exact gd q3▸(f1 j).1 q1 Ľ
  ·obtain⟨j,q1,Ľ,q3⟩:=G9.mp ha
   exact gd q3▸(f1 j).2 q1 Ľ
 ·obtain⟨x,e1,e2⟩:=f3
  exact⟨x,e1,(aF3 r.1)▸e2⟩
structure fZ(Ts Ds:List (List Int))(ch:List (List BN))(n:Nat):Prop where
 lt:Ts.length=n+1
 ld:Ds.length=n
 lc:ch.length=n
 st :∀t,t<n->∃ms,ch[t]?=some (BI (Ts.getD t []) (Ts.getD (t+1) []) ms)/\mM (Ts.getD t []) (Ts.getD (t+1) []) (Ds.getD t []) ms
def HG{α:Type}{d:α}{l:List α}{n k:Nat}(h:l.length=n+1)(hk:k<=n):l.reverse.getD (n-k) d=l.getD k d:=by
 rw[aB2,aB2,bA1 (by exists 3,0x21b1181a028,h),show l.length-1-(n-k)=k by exists 3,0x221b180bb21208181a028,h,hk]
section
variable{Ts Ds:List (List Int)}{ch:List (List BN)}{n lo hi:Nat}
def fZ.s0(h:fZ Ts Ds ch n)(h1:lo<hi)(h2:hi<=(Ts.reverse.getD n []).length):P8 Ts.reverse Ds.reverse n lo hi (Ae 0 ch lo hi):=
 Ki h.lc (λt ht=>by
  obtain⟨ms,e,S⟩:=h.st t ht
  obtain⟨m,rfl⟩ :∃m,n=m+1:=⟨n-1,by exists 2,0x18181ba121018,ht⟩
  rw[HG h.lt (by exists 2,0x181a00181a018,ht),HG h.lt (by exists 2,0x181a180a0181a018,ht),show m+1-(t+1)=m-t by(exists 2,0x10b181a180ab2),HG h.ld (by exists 2,0x100181a018,ht),aB2 (l:=ch),e]
  exact S.l0) h1 h2
def fZ.s1(h:fZ Ts Ds ch n)(h1:lo<hi)(h2:hi<=(Ts.getD n []).length):P8 Ts Ds n lo hi (Ae 1 ch.reverse lo hi):=
 Ki ((aN3 ..).trans h.lc) (λt ht=>by
  obtain⟨ms,e,S⟩:=h.st (n-(t+1)) (by exists 2,0x1180a1b11018,ht)
  rw[show n-(t+1)+1=n-t by exists 2,0x1b18180a1ba21018,ht]at e S
  have lc:=h.lc
  rw[aB2 (l:=ch.reverse),bA1 (by exists 3,0x20112281018,ht,lc),show ch.length-1-t=n-(t+1)by(exists 3,0x182a1b2180bb21028,lc),e]
  exact S.l1) h1 h2
end
end Mine
section
open PySem PySem.W PyProof.Rows
namespace Mine
def Mo{g:Nat->Option AV}{l:List AV}(h:AD nn l=some l):(AO.list l).sub g=some (.list l):=bO6 (aD8 AO.list) (DX h)
def G7{l:List (List Int)}{x:List Int}:l.map B0++[.lst (ĭ x)]=(l++[x]).map B0:=by rw[aP0];rfl
section
variable{w:aB9}{sc old:List Int}{made x:Int}{Ts Ds:List (List Int)}{K:ſ}{l:List Int}
def Vi(l:List Int):D5 (ĭ l)=some l:=aB5 (motive:=λl=>D5 (ĭ l)=some l) rfl (λa r ih=>by
 show(some a).bind (λx=>(D5 (ĭ r)).map (x :: ·))=_
 rw[ih];rfl) l
def Tn(l:List Int):(aC8 l.length).flatMap (λk=>(l[k]?).elim [] λy=>[AV.int (y+1)])=ĭ (l.map (· + 1)):=by
 rw[Q2,MR]
 show _=aP9 AV.int (l.map (· + 1))
 rw[aO2];rfl
def T9{ρ₀:List (Str×AV)}{H:List (Nat×AO)}{a:Nat}{Q:AV->St->Prop}(hl:l.length<=100)(h:Q (.ref 3) ⟨ρ₀,Al H 3 (.list (ĭ (l.map (· + 1)))),4,a⟩):BC (.list []) (ĭ l) (Ej (ı w) 25 Fs cM 3) [] ⟨ρ₀,H,3,a⟩ Q:=by
 refine Dl (λk=>(l[k]?).elim [] λy=>[AV.int (y+1)]) (λρ=>ρ=[]\/∃u:AV,ρ=([("line",u)]:List (Str×AV))) (.inl rfl) (λ_ _ _ _=>trivial) (by rw[AW];exact aA3 hl (by decide)) (λk=>?_) (λk v hv ρ L K hI hL hK=>?_) ?_
 ·cases l[k]? with
  | none=>exact aC7 _
  | some y=>exact aA9 _
 ·obtain⟨x,hx,rfl⟩:=map_some ((aC5 ..).symm.trans hv)
  rw[hx]at hK
  have go:=hK _ (.inr ⟨.int x,rfl⟩)
  exact hI.elim (λe=>e▸ĉ.mpr (E4 hL go)) λq=>q.elim λu e=>e▸À.mpr (E4 hL go)
 ·rw[AW,Tn];exact h
def U4{T D M:List AV}{tl:List (Str×AV)}(hT:AD nn T=some T)(hD:AD nn D=some D):Ac (Δ sc made T D tl [(3,.list M)] 4) (Δ sc made T D [] [] 3):=
 .re [0,1,2] [] rfl rfl rfl rfl Bc (Bo rfl (AK _ _ (A0 sc)) (Bo rfl rfl (Bo rfl rfl (Bo rfl rfl Be)))) (NP rfl rfl rfl (NP rfl rfl (Mo hT) (NP rfl rfl (Mo hD) Bd)))
def fR(ho:Ts[Ts.length-1]?=some old)(hl:old.length<=12)(hm:0<=made/\made<=1000)(hT:Ts.length<=1000)(hD:Ds.length<=1000)(hn:(DS x old made).1.length<=12)
  (hK :∀σ,Ac σ (Δ sc (Sj (made::(DS x old made).1.map (· + 1))) ((Ts++[(DS x old made).1]).map B0) ((Ds++[(DS x old made).2]).map B0) [] [] 3)->K .next σ):ZC w (.int x) (Δ sc made (Ts.map B0) (Ds.map B0) [] [] 3) K:=by
 have hz:Ts≠[]:=λz=>by rw[z]at ho;cases ho
 have hlast:CD (Ts.map B0) (-1)=some (.lst (ĭ old)):=by
  have e:=List.dropLast_concat_getLast hz
  have eo:Ts.getLast hz=old:=by
   have:=aV4 (l:=Ts)
   rw[List.getLast?_eq_some_getLast hz,ho]at this
   exact aA1 this
  rw[eo]at e
  rw[<-e,<-G7]
  exact Jh
 refine ź.mpr ⟨QS,_,hlast,Hu rfl (AH rfl (AH (A0 old) (AH rfl rfl))) ⟨x,old,made,rfl,rfl,hl,hm,?_⟩⟩
 generalize DS x old made=nd at hn hK
 obtain⟨tx,dr⟩:=nd
 refine a2.mpr ⟨rfl,a3.mpr ⟨?_,?_,?_⟩⟩
 ·rw[aB0];exact aA3 hT (by decide)
 ·rw[aB0];exact aA3 hD (by decide)
 ·rw[G7,G7,š,zN]
  refine⟨CB tx,T9 (aA3 hn (by decide)) ?_⟩
  refine⟨?_,?_⟩
  ·show AE (1+(ĭ (tx.map (· + 1))).length)
   rw[AW,aB0]
   exact aA3 (aK2 hn 1) (by decide)
  ·show D1 (ı w) (.fn .max) [.lst (ĭ (made::tx.map (· + 1)))] _ _
   have q:=Vi (made::tx.map (· + 1))
   rw[yL q]
   show Ab (D5 (ĭ (made::tx.map (· + 1)))) _
   rw[q]
   exact⟨λz=>(nomatch z),Ö.mpr (hK _ (U4 (B3 _) (B3 _)))⟩
end
def XG{tr:Ŕ}{ρ:List (Str×AV)}{o0:AO}{H:List (Nat×AO)}{n k:Nat}{D:aC1}{at_:List (Str×AV)}{as as':List AV}{Q:AV->St->Prop}(hs:AN nn at_=some at_)(hr:BV as=[1])(ha:AD (Kx [1]) as=some as')
  (h:tr as' [(D,at_)] λr os'=>Q r (St.sets ⟨ρ,(0,o0)::(1,.inst D at_)::H,n,k⟩ [1] os')):BE tr as ⟨ρ,(0,o0)::(1,.inst D at_)::H,n,k⟩ Q:=by
 refine .inl ?_
 unfold HN
 rw[hr,ha]
 exact⟨CR hs,h⟩
def RN{as:List AV}(h:AD nn as=some as):AD (Kx [1]) (.ref 1::as)=some (.ref 0::as):=by
 show(some (AV.ref 0)).bind (λa=>(AD (Kx [1]) as).map (a :: ·))=_
 rw[DX h];rfl
def IV(I:AO):Prop:=∃a b mb op fb b2j bj,I=iJ a b mb op fb b2j bj/\Bw a b mb op fb b2j bj/\((a=ŧ/\b=ŧ)\/∃la lb ds ks,a = .lst (ĭ la)/\b = .lst (ĭ lb)/\b2j = .dct ds/\bj = .fset ks/\ŭ lb ds ks/\MB la lb mb)
section
variable{w:aB9}{W N Dr:List Int}{Ts Ds:List (List Int)}{ch:List (List BN)}{K:ſ}{k:Nat}{I:AO}{T D:List AV}{tl:List (Str×AV)}
def lX{v:Int}{C:List AV}(i1:Ar (v-1))(i2:Ar v)(e1:CD T (v-1)=some (B0 W))(e2:CD T v=some (B0 N))(hW:W.Nodup/\W.length<=12)(hN:N.Nodup/\N.length<=12)(hc:AE C.length){S:Sg->Prop}(hS:Bg W N Dr S)(hI:IV I)
  (h :∀I' ms,IV I'->mM W N Dr ms->K .next (G6 T D I' (C++[JZ (BI W N ms)]) [("v",.int v),("blocks",JZ (BI W N ms))])):YJ w (.int v) (G6 T D I C []) K:=by
 obtain⟨a,b,mb,op,fb,b2j,bj,rfl,S0,hv⟩:=hI
 have zw:=A0 W
 have zn:=A0 N
 have l1:W.length<=100000:=aA3 hW.2 (by decide)
 have l2:N.length<=100000:=aA3 hN.2 (by decide)
 have go3 :∀mb op fb ds ks,Bw (.lst (ĭ W)) (.lst (ĭ N)) mb op fb (.dct ds) (.fset ks)->ŭ N ds ks->MB W N mb->wL (ı w) (wS w 29) (SY.2.drop 2) (G6 T D (iJ (.lst (ĭ W)) (.lst (ĭ N)) mb op fb (.dct ds) (.fset ks)) C [("v",.int v)]) K:=λmb op fb ds ks S1 hB hM=>by
  refine Ŵ.mpr (XG S1.shut rfl (RN rfl) ⟨W,N,mb,op,fb,ds,ks,rfl,rfl,⟨S1,hB⟩,hM,⟨l1,l2⟩,λbs hr=>?_⟩)
  have q:=hS.stg hW.1 hN.1 hN.2 hr
  have so:=I2 bs W.length N.length
  exact⟨q.1,ċ.mpr ⟨i1,_,e1,i2,_,e2,yD.mpr (Hu rfl (AH so (AH zw (AH zn rfl))) ⟨W,N,Et (0,0,0) bs,rfl,rfl,⟨hW.2,hN.2,q.2.ml⟩,q.2.lw,zM.mpr (Ÿ.mpr ⟨hc,h _ _ ⟨_,_,_,_,_,_,_,rfl,⟨S1.a,S1.b,so,S1.op,S1.fb,S1.b2j,S1.bj⟩,.inr ⟨W,N,ds,ks,rfl,rfl,rfl,rfl,hB,.inr ⟨bs,hr,rfl⟩⟩⟩ q.2⟩)⟩)⟩⟩
 have go2 :∀mb op fb ds ks,Bw a (.lst (ĭ N)) mb op fb (.dct ds) (.fset ks)->ŭ N ds ks->(a=ŧ\/∃la,a = .lst (ĭ la)/\MB la N mb)->wL (ı w) (wS w 29) (SY.2.drop 1) (G6 T D (iJ a (.lst (ĭ N)) mb op fb (.dct ds) (.fset ks)) C [("v",.int v)]) K:=λmb op fb ds ks S1 hB hM=>
  b3.mpr ⟨i1,_,e1,XG S1.shut rfl (RN (AH zw rfl)) (.inr ⟨W,a,.lst (ĭ N),mb,op,fb,.dct ds,.fset ks,rfl,rfl,S1,go3 .none .none fb ds ks ⟨zw,S1.b,rfl,rfl,S1.fb,S1.b2j,S1.bj⟩ hB (.inl rfl),hM.elim .inl λq=>q.elim λla q=>.inr ⟨la,q.1,λe=>by
   subst e
   obtain⟨rfl,h9⟩:=q
   exact go3 mb op fb ds ks S1 hB h9⟩⟩)⟩
 refine b2.mpr ⟨i2,_,e2,XG S0.shut rfl (RN (AH zn rfl)) ⟨N,a,b,mb,op,fb,b2j,bj,rfl,aD1 hN.2 (by decide),rfl,S0,λds ks hB=>go2 .none .none .none ds ks ⟨S0.a,zn,rfl,rfl,rfl,Jy hB,rfl⟩ hB (hv.elim (λq=>.inl q.1) λ⟨la,_,_,_,e,_⟩=>.inr ⟨la,e,.inl rfl⟩),?_⟩⟩
 rcases hv with⟨_,e⟩ | ⟨la,lb,ds,ks,ea,eb,rfl,rfl,hB,hM⟩
 ·exact .inl e
 ·refine .inr ⟨lb,eb,λe=>?_⟩
  subst e
  subst eb
  exact go2 mb op fb ds ks S0 hB (.inr ⟨la,ea,hM⟩)
end
def Iw{R:List (List Int)}{n:Nat}(h:R.length=n+1):CD (R.map B0) (-1)=some (B0 (R.getD n [])):=by
 have hz:R≠[]:=λz=>by rw[z]at h;cases h
 have e:=List.dropLast_concat_getLast hz
 have eo:R.getLast hz=R.getD n []:=by
  have:=aV4 (l:=R)
  rw[List.getLast?_eq_some_getLast hz,h]at this
  rw[aB2]
  exact bO6 (bL9 · []) this
 rw[eo]at e
 conv=>lhs;rw[<-e]
 rw[<-G7]
 exact Jh
def E8{R:List (List Int)}{k:Nat}(h:k<R.length):R[k]?=some (R.getD k []):=by
 rw[aB2,aA6 h];rfl
def Yn{l:List Int}{x:Int} :∀{p:Nat},l.Nodup->l[p]?=some x->(l.map AB.int).idxOf (AB.int x)=p:=by
 induction l with
 | nil=>exact λ_ h=>nomatch h
 | cons a l ih=>
  intro p hn h
  obtain⟨h1,h2⟩:=aW3.mp hn
  rw[aM7,List.idxOf_cons]
  cases p with
  | zero=>
   cases aA1 h
   rw[bP3];rfl
  | succ p=>
   have hx:l[p]?=some x:=h
   have:(AB.int a==AB.int x)=false:=beq_eq_false_iff_ne.mpr λe=>h1 (AB.int.inj e▸aB8 hx)
   rw[this,ih h2 hx];rfl
section
variable{w:aB9}{T D C:List AV}{R Dr:List (List Int)}{s n lo hi:Nat}{r:Nat×Nat}{K:ſ}{tl:List (Str×AV)}{L P:List Int}
def Uk(hR:R.length=n+1)(hn:n<=90)(hnd :∀l∈R,l.Nodup/\l.length<=12)(hL:L=(BA R Dr n).1)(hP:P=(BA R Dr n).2)(hF:P8 R Dr n lo hi r)(h1:lo<hi)(h2:hi<=(R.getD n []).length)
  (hc :∀(d p:Int) Q,Q (.tup [.int (r.1:Int),.int (r.2:Int)]) (CE T D C (Θ s (R.map B0) L P (Ũ lo hi d p)))->Ň w 25 cX.1 (CE T D C (Θ s (R.map B0) L P (Ũ lo hi d p))) Q)
  (hK :∀tl,K .next (CE T D C (Θ s (R.map B0) L P (("low",.int (lo:Int))::tl)))):Wl w (.int (hi:Int)) (CE T D C (Θ s (R.map B0) L P [("low",.int (lo:Int))])) K:=by
 obtain⟨f1,f2,f3,x,f4,f5⟩:=hF
 obtain⟨q1,Ľ⟩:=Ew (row:=R) (drops:=Dr) (k:=n)
 rw[<-hL]at f1 f2 q1
 rw[<-hP]at f1 f2 Ľ
 have hl0:=(hnd _ (aB8 (E8 (R:=R) (k:=n) (by exists 2,0x11181a028,hR)))).2
 have hm:=hnd _ (aB8 (E8 (R:=R) (k:=n-r.1) (by exists 3,0x21b1181a028,hR)))
 have Š:(ĭ L).length<=12:=by rw[AW,q1];exact hl0
 have z2:(ĭ P).length<=12:=by rw[AW,Ľ];exact hl0
 rw[Î,show((lo:Int)+1)=((lo+1:Nat):Int)from rfl,E0,E0]
 refine⟨CZ,small (aA3 Š (by decide)),CZ,small (aA3 z2 (by decide)),small ?_,?_⟩
 ·rw[AW]at Š z2
  rw[AW,AW,aJ1,aJ1,aG2,aG2]
  exists 5,0x649183a40db320dba0c81081008,h2,hl0
 show Ab (D5 (u5 L P lo hi)) _
 rw[show u5 L P lo hi=ĭ ((L.take hi).drop lo++(P.take hi).drop (lo+1))by show Ag _ _ _ _++Ag _ _ _ _=_;rw[show((lo:Int)+1)=((lo+1:Nat):Int)from rfl,E0,E0,D0],Vi]
 refine⟨λz=>(by rw[z]at f1;cases f1),?_⟩
 rw[<-Mt f1 f2]
 refine sC.mpr (yW.mpr ?_)
 rw[show(((R.map B0).length:Int)-1-(r.1:Int))=((n-r.1:Nat):Int)by rw[aB0,hR];exists 2,0x1b0f00f18181a0fbb51008,f3]
 refine⟨small (by rw[aB0];exists 2,0x6490000005a9108181a028,hR,hn),BR (by exists 2,0x186a0910b000005a9008,hn),B0 (R.getD (n-r.1) []),Cz (GO (E8 (by exists 3,0x21b1181a028,hR))),vZ.mpr (tP.mpr ⟨QS,_,Iw hR,?_⟩)⟩
 rw[Jx]
 refine⟨BR (by exists 3,0x186a0900c820821081018,h1,h2,hl0),.int x,Cz ((aC5 ..).trans (bO6 (aD8 AV.int) f4)),?_⟩
 show D1 (ı w) (.fn .index) [.lst (ĭ (R.getD (n-r.1) [])),.int x] _ _
 rw[qE]
 show Ab (BQ (ĭ (R.getD (n-r.1) []))) _
 rw[E9]
 refine⟨⟨bC6 (aB8 f5),small (by rw[aB0];exists 1,0x64900c8008,hm.2)⟩,?_⟩
 rw[Yn hm.1 f5]
 refine qH.mpr (yJ.mpr (nR.mpr (hc _ _ _ (rH.mpr ?_))))
 rw[xY,bP0 rfl,bP0 rfl]
 exact hK _
def Tj{a:List (Str×AV)}:Ac (CE T D C (Θ s (R.map B0) L P (("low",.int (lo:Int))::a))) (CE T D C (Θ s (R.map B0) L P [("low",.int (lo:Int))])):=.less (ρ:=(CE T D C (Θ s (R.map B0) L P [("low",.int (lo:Int))])).ρ++a) (λx v e=>CA e) λ_ _=>id
def P1{a:List (Str×AV)}:Ac (CE T D C (Θ s (R.map B0) L P a)) (CE T D C (Θ s (R.map B0) L P [])):=.less (ρ:=(CE T D C (Θ s (R.map B0) L P [])).ρ++a) (λx v e=>CA e) λ_ _=>id
def P7(hR:R.length=n+1)(hn:n<=90)(hnd :∀l∈R,l.Nodup/\l.length<=12)(hL:L=(BA R Dr n).1)(hP:P=(BA R Dr n).2){f:Nat->Nat->Nat×Nat}(hF :∀lo hi,lo<hi->hi<=(R.getD n []).length->P8 R Dr n lo hi (f lo hi))
  (hc :∀(lo hi:Nat) (d p:Int) Q,lo<hi->Q (.tup [.int ((f lo hi).1:Int),.int ((f lo hi).2:Int)]) (CE T D C (Θ s (R.map B0) L P (Ũ lo hi d p)))->Ň w 25 cX.1 (CE T D C (Θ s (R.map B0) L P (Ũ lo hi d p))) Q)
  (hK:K .next (CE T D C (Θ s (R.map B0) L P []))):wL (ı w) (wS w 29) (Pc.2.drop 2) (CE T D C (Θ s (R.map B0) L P [])) K:=by
 have hl0:=(hnd _ (aB8 (E8 (R:=R) (k:=n) (by exists 2,0x11181a028,hR)))).2
 have lz:(ĭ (R.getD n [])).length=(R.getD n []).length:=AW _
 rw[ÿ]
 refine⟨QS,_,Iw hR,small (by rw[lz];exists 1,0x64900c8008,hl0),?_⟩
 show GL [.int ((ĭ (R.getD n [])).length:Int)] _ _
 rw[lz]
 show BH 0 ((R.getD n []).length:Int)/\Cc (Ah 0 (((R.getD n []).length:Int)-0).toNat) _ _ _ _
 refine⟨⟨by decide,by decide,by(exists 1,0xf0f424091f3),by exists 1,0xf4240900f3c8008,hl0⟩,λk τ=>τ=CE T D C (Θ s (R.map B0) L P []),⟨_,.refl _,rfl⟩,λlo τ v hv hI=>?_,λτ hI=>?_⟩
 ·subst hI
  have hlo:=(aA5.mp hv).1
  rw[AQ]at hlo
  cases aA1 (hv.symm.trans (As hlo))
  rw[aL3,Ò]
  refine⟨QS,_,Iw hR,small (by rw[lz];exists 1,0x64900c8008,hl0),?_⟩
  show FL .Add (.int ((ĭ (R.getD n [])).length:Int)) (.int 1) _ _
  rw[lz]
  show BH ((lo:Int)+1) (((R.getD n []).length:Int)+1)/\Cc (Ah ((lo:Int)+1) ((((R.getD n []).length:Int)+1)-((lo:Int)+1)).toNat) _ _ _ _
  refine⟨⟨by(exists 1,0x1800fa0f424091f3),by(exists 3,0xf424091810fa3080800fbe20f582118c8008,hl0,hlo,(aD6 _)),by(exists 1,0x1800fa0f424091f3),by exists 1,0xf424091800fa3c8008,hl0⟩,λk τ=>τ=CE T D C (Θ s (R.map B0) L P [("low",.int (lo:Int))]),⟨_,.refl _,rfl⟩,λk τ v hv hI=>?_,λτ hI=>?_⟩
  ·subst hI
   have hk:=(aA5.mp hv).1
   rw[AQ]at hk
   cases aA1 (hv.symm.trans (As hk))
   rw[show(lo:Int)+1+(k:Int)=((lo+1+k:Nat):Int)by exists 2,0x1180aa0f10f1800faa5]
   exact Uk hR hn hnd hL hP (hF lo (lo+1+k) (by exists 2,0x1180aa01) (by exists 4,0x20183aa0081830fa1820fabe10f581018,hk,(aD6 _))) (by exists 2,0x1180aa01) (by exists 4,0x20183aa0081830fa1820fabe10f581018,hk,(aD6 _)) (λd p Q=>hc lo (lo+1+k) d p Q (by exists 2,0x1180aa01)) λtl=>⟨_,Tj,rfl⟩
  ·subst hI
   rw[EN]
   exact⟨_,P1,rfl⟩
 ·subst hI
  rw[EN]
  exact hK
end
structure TI(k:Nat)(Ts Ds:List (List Int))(made:Int):Prop where
 lt:Ts.length=k+1
 ld:Ds.length=k
 txt :∀T∈Ts,T.Nodup/\T.length<=12/\∀x∈T,0<=x/\x<made
 mde:0<=made/\made<=6+4*(k:Int)
 sg :∀t,t<k->∃S,Bg (Ts.getD t []) (Ts.getD (t+1) []) (Ds.getD t []) S
noncomputable abbrev eV:List Int:=[0,1,2,3,4,5]
def TH:TI 0 [eV] [] 6:=⟨rfl,rfl,λT hT=>by
 rw[aB6.mp hT]
 exact⟨by decide,by decide,by decide⟩,⟨by decide,by decide⟩,λt ht=>bO9 ht (aE6 t)⟩
def FU{l:List (List Int)}{x:List Int}{t:Nat}(h:t<l.length):(l++[x]).getD t []=l.getD t []:=by
 rw[aB2,aB2,aI4 h]
def Kv{l:List (List Int)}{x:List Int}:(l++[x]).getD l.length []=x:=by
 rw[aB2,aJ2 (aA9 _),bD2];rfl
def TI.next{k:Nat}{Ts Ds:List (List Int)}{made x:Int}{old:List Int}(h:TI k Ts Ds made)(ho:Ts[Ts.length-1]?=some old) :
  TI (k+1) (Ts++[(DS x old made).1]) (Ds++[(DS x old made).2]) (Sj (made::(DS x old made).1.map (· + 1)))/\(DS x old made).1.length<=12:=by
 obtain⟨o1,ĩ,o3⟩:=h.txt old (aB8 ho)
 have D:=RG (x:=x) (made:=made) o1 ĩ h.mde.1 o3
 generalize DS x old made=nd at D
 obtain⟨nw,dr⟩:=nd
 obtain⟨m1,m2,m3⟩:=IY (r:=nw.map (· + 1)) made
 have em:Sj (made::nw.map (· + 1))=(nw.map (· + 1)).foldl max made:=rfl
 have lt:=h.lt
 have ld:=h.ld
 refine⟨?_,D.len⟩
 rw[em]
 have up:(nw.map (· + 1)).foldl max made<=made+4:=by
  rcases m1 with e | e
  ·rw[e];exact Ū [] [_] 0x480a03 (by rfl')
  ·obtain⟨y,hy,e⟩:=aM8.mp e
   rw[<-e]
   have:=(D.bd y hy).2;exists[],[_,_],0x481a180a3481a048,this
 have kk:=h.mde
 refine⟨by rw[aC3,lt];rfl,by rw[aC3,ld];rfl,λT hT=>?_,⟨aQ3 kk.1 m2,by exists[_],[_,_],0x180a0f04c68a0300f04c68a138481a038,up,kk.2⟩,λt ht=>?_⟩
 ·rcases aC0.mp hT with hT | hT
  ·obtain⟨t1,t2,t3⟩:=h.txt T hT
   exact⟨t1,t2,λy hy=>⟨(t3 y hy).1,aW8 (t3 y hy).2 m2⟩⟩
  ·rw[aB6.mp hT]
   exact⟨D.nd,D.len,λy hy=>⟨(D.bd y hy).1,aW8 (Int.lt_succ y) (m3 _ (bC6 hy))⟩⟩
 ·by_cases z:t<k
  ·rw[FU (by exists 3,0x21181a218181a028,lt,ht),FU (by exists 3,0x182a11218181a028,lt,z),FU (by exists 3,0x2112181028,ld,z)]
   exact h.sg t z
  ·have e:t=k:=by exists 2,0x10210198181a018,ht,z
   subst e
   have e1:Ts.getD t []=old:=by rw[aB2,show t=Ts.length-1 by(exists 2,0x180b12181a028,lt),ho];rfl
   have e2:(Ts++[nw]).getD (t+1) []=nw:=by rw[<-lt];exact Kv
   have e3:(Ds++[dr]).getD t []=dr:=by rw[<-ld];exact Kv
   rw[e2,e3,FU (by exists 2,0x11181a028,lt),e1]
   exact D.sg
def KL:ſ:=λfl σ=>Gw fl (.bool true)/\∃b,σ.H.lookup 0=some (.tab b)
section
variable{w:aB9}{sc:List Int}{made:Int}{Ts Ds:List (List Int)}{ch:List (List BN)}{K:ſ}{n:Nat}{I:AO}{T D C:List AV}
def Rm(l:List (List Int)):Ag (l.map B0) none none (some (-1))=l.reverse.map B0:=(GJ _).trans (bG2 ..).symm
def Xh(l:List (List BN)):Ag (l.map JZ) none none (some (-1))=l.reverse.map JZ:=(GJ _).trans (bG2 ..).symm
def Lk:mO:=λz=>by cases z
def Qm{a:List (Str×AV)}:Ac (CE T D C a) (CE T D C []):=.less (ρ:=(CE T D C []).ρ++a) (λx v e=>CA e) λ_ _=>id
def gG(h:fZ Ts Ds ch n)(hn:n<=90)(ht :∀T∈Ts,T.Nodup/\T.length<=12)(hb :∀bl∈ch,bl.length<=100):SL w (gL 4) (CE (Ts.map B0) (Ds.map B0) (ch.map JZ) []) (Ĭ (ı w) (SL w) (DO.drop 5) KL):=by
 have lt:=h.lt;have ld:=h.ld;have lc:=h.lc
 refine xV.mpr ⟨rfl,λk τ=>τ=CE (Ts.map B0) (Ds.map B0) (ch.map JZ) [],⟨_,.refl _,rfl⟩,λk τ v hv hI=>?_,λτ hI=>?_⟩
 ·subst hI
  have side :∀(s:Nat) (R Dr:List (List Int)) (c:List (List BN)),s<=1->R.length=n+1->Dr.length=n->(∀l∈R,l.Nodup/\l.length<=12)->(∀bl∈c,bl.length<=100)->(∀lo hi,lo<hi->hi<=(R.getD n []).length->P8 R Dr n lo hi (Ae s c lo hi))->
    (∀(lo hi:Nat) (L P:List Int) (d p:Int) Q,(IU [.lst (c.map JZ),.int (lo:Int),.int (hi:Int),.int (s:Int)] [] λr _=>Q r (CE (Ts.map B0) (Ds.map B0) (ch.map JZ) (Θ s (R.map B0) L P (Ũ lo hi d p))))->Ň w 25 cX.1 (CE (Ts.map B0) (Ds.map B0) (ch.map JZ) (Θ s (R.map B0) L P (Ũ lo hi d p))) Q)->
    I8 [.lst (R.map B0),.lst (Dr.map B0)] [] λr _=>BG (KA w 28) (Ak (kP 1)) r (CE (Ts.map B0) (Ds.map B0) (ch.map JZ) [("side",.int (s:Int)),("row",.lst (R.map B0))]) λσ=>wL (ı w) (wS w 29) (Pc.2.drop 2) σ (Eh (λσ=>∃τ,Ac σ τ/\τ=CE (Ts.map B0) (Ds.map B0) (ch.map JZ) []) (Ĭ (ı w) (SL w) (DO.drop 5) KL)):=
   λs R Dr c hs hR hD hnd hbl hF hc=>⟨R,Dr,n,rfl,rfl,hR,hD,hn,hnd,uK.mpr ⟨rfl,P7 hR hn hnd rfl rfl hF (λlo hi d p Q hlt hq=>hc lo hi _ _ d p Q ⟨c,lo,hi,s,rfl,rfl,hs,aE4 hlt,hbl,hq⟩) ⟨_,Qm,rfl⟩⟩⟩
  match k,hv with
  | 0,hv=>
   cases aA1 hv
   rw[Ã,Rm]
   refine⟨Lk,small (by rw[aB0];exists 2,0x64910180a12800005a9008,hn,lt),?_⟩
   rw[yH,Rm]
   refine⟨Lk,small (by rw[aB0];exists 2,0x64910012800005a9008,hn,ld),Hu rfl (AH (AR (B3 _)) (AH (AR (B3 _)) rfl)) ?_⟩
   exact side 0 Ts.reverse Ds.reverse ch (by decide) (by rw[aN3];exact lt) (by rw[aN3];exact ld) (λl hl=>ht l (List.mem_reverse.mp hl)) hb (λlo hi=>h.s0) λlo hi L P d p Q q=>nX.mpr (Hu rfl (AH (AR (Fp _)) (AH rfl (AH rfl (AH rfl rfl)))) q)
  | 1,hv=>
   cases aA1 hv
   rw[qZ,oV]
   refine Hu rfl (AH (AR (B3 _)) (AH (AR (B3 _)) rfl)) ?_
   refine side 1 Ts Ds ch.reverse (by decide) lt ld ht (λbl hl=>hb bl (List.mem_reverse.mp hl)) (λlo hi=>h.s1) λlo hi L P d p Q q=>rZ.mpr ⟨Lk,small (by rw[aB0];exists 2,0x64910012800005a9008,hn,lc),?_⟩
   rw[Xh]
   exact Hu rfl (AH (AR (Fp _)) (AH rfl (AH rfl (AH rfl rfl)))) q
  | k+2,hv=>cases hv
 ·subst hI
  rw[Cn,Ź]
  exact⟨rfl,true,rfl⟩
end
section
variable{w:aB9}{sc:List Int}{made:Int}{Ts Ds:List (List Int)}{ch:List (List BN)}{n:Nat}{I:AO}{T D C:List AV}
def VU(hT:AD nn T=some T)(hD:AD nn D=some D){at_:List (Str×AV)}(hs:AN nn at_=some at_):Ac (xK sc made T D (.inst aD at_) []) (G6 T D (.inst aD at_) [] []):=
 .re [0,3,4] [(1,.lst T),(2,.lst D)] rfl rfl rfl rfl (Aq rfl rfl rfl (AR hT) (Aq rfl rfl rfl (AR hD) Bc)) (Bo rfl rfl (Bo rfl rfl (Bo rfl rfl (Bo rfl rfl Be)))) (NP rfl rfl rfl (NP rfl rfl (N0 (o:=.inst aD at_) (bO6 (aD8 (AO.inst aD)) hs)) (NP rfl rfl rfl Bd)))
def Tz(hT:AD nn T=some T)(hD:AD nn D=some D)(hC:AD nn C=some C):Ac (G6 T D I C []) (CE T D C []):=
 .re [0] [(2,.lst C)] rfl rfl rfl rfl (Aq rfl rfl rfl (AR hC) Bc) (Bo rfl (AK _ _ (AR hD)) (Bo rfl (AK _ _ (AR hT)) (Bo rfl rfl Be))) (NP rfl rfl rfl Bd)
def Ug{a:List (Str×AV)}:Ac (G6 T D I C a) (G6 T D I C []):=.less (ρ:=(G6 T D I C []).ρ++a) (λx v e=>CA e) λ_ _=>id
def VQ{W N:List Int}{ms:List BN}(h:ms.length<=12):(BI W N ms).length<=100:=by
 unfold BI
 rw[aC3]
 exact aA3 (aQ4 h _) (show 12+1<=100 by decide)
def gD(h:TI n Ts Ds made)(hn:n<=68)(hI:IV I):SL w (gL 3) (G6 (Ts.map B0) (Ds.map B0) I [] []) (Ĭ (ı w) (SL w) (DO.drop 4) KL):=by
 have lt:=h.lt
 have txt :∀T∈Ts,T.Nodup/\T.length<=12:=λT hT=>⟨(h.txt T hT).1,(h.txt T hT).2.1⟩
 rw[b1,aB0,lt]
 refine⟨small (by exists 1,0x649180a00000449008,hn),⟨by decide,by decide,by(exists 1,0x180a0f0f424091f3),by exists 1,0xf42409180a0f30000449008,hn⟩,?_⟩
 rw[show(((n+1:Nat):Int)-1).toNat=n by exists 2,0x1020818181a0fbe00f58,(aD6 _)]
 refine⟨λk τ=>∃(ch:List (List BN)) (I:AO),τ=G6 (Ts.map B0) (Ds.map B0) I (ch.map JZ) []/\IV I/\ch.length=k/\∀t,t<k->∃ms,ch[t]?=some (BI (Ts.getD t []) (Ts.getD (t+1) []) ms)/\mM (Ts.getD t []) (Ts.getD (t+1) []) (Ds.getD t []) ms,⟨_,.refl _,[],I,rfl,hI,rfl,λt ht=>bO9 ht (aE6 t)⟩,λk τ v hv hJ=>?_,λτ hJ=>?_⟩
 ·obtain⟨ch,I,rfl,hI,hk,hs⟩:=hJ
  have hkn:=(aA5.mp hv).1
  rw[AQ]at hkn
  cases aA1 (hv.symm.trans (As hkn))
  rw[show(1:Int)+(k:Int)=((k+1:Nat):Int)by exists 1,0x180a0f00f18a5]
  obtain⟨S,hS⟩:=h.sg k hkn
  have e1:=E8 (R:=Ts) (k:=k) (by exists 3,0x211218181a028,lt,hkn)
  have e2:=E8 (R:=Ts) (k:=k+1) (by exists 3,0x182a11218181a028,lt,hkn)
  refine lX (by rw[show((k+1:Nat):Int)-1=(k:Int)by exists 1,0xf18180a0fb5];exact BR (by exists 2,0x186a091001180000449008,hn,hkn)) (BR (by exists 2,0x186a09181a001180000449008,hn,hkn)) (by rw[show((k+1:Nat):Int)-1=(k:Int)by exists 1,0xf18180a0fb5];exact Cz (GO e1)) (Cz (GO e2)) (txt _ (aB8 e1)) (txt _ (aB8 e2)) (by rw[aB0];exact small (by exists 3,0x64910021821280000449008,hn,hk,hkn)) hS hI λI' ms hI' hst=>⟨_,Ug,ch++[BI (Ts.getD k []) (Ts.getD (k+1) []) ms],I',by rw[aP0];rfl,hI',by rw[aC3,hk];rfl,λt ht=>?_⟩
  by_cases z:t<k
  ·rw[aI4 (by exists 3,0x2112181028,hk,z)]
   exact hs t z
  ·obtain rfl:t=k:=by exists 2,0x10210198181a018,ht,z
   exact⟨ms,by rw[<-hk,aJ2 (aA9 _),bD2];rfl,hst⟩
 ·obtain⟨ch,I,rfl,hI,hk,hs⟩:=hJ
  rw[AQ]at hk hs
  rw[Cn,ŗ]
  refine⟨_,Tz (B3 _) (B3 _) (Fp _),gG ⟨lt,h.ld,hk,hs⟩ (by exists 1,0x5a9000000449008,hn) txt λbl hb=>?_⟩
  obtain⟨t,ht⟩:=aJ4 hb
  obtain⟨ms,e,q⟩:=hs t (by rw[<-hk];exact(aA5.mp ht).1)
  cases aA1 (ht.symm.trans e)
  exact VQ q.ml
def QV:Bw ŧ ŧ .none .none .none (.dct []) (.fset []):=⟨rfl,rfl,rfl,rfl,rfl,rfl,rfl⟩
def cQ(h:TI n Ts Ds made)(hn:n<=68):wL (ı w) (SL w) (DO.drop 2) (Δ sc made (Ts.map B0) (Ds.map B0) [] [] 3) KL:=by
 refine l2.mpr ⟨rfl,rfl,.inl ?_⟩
 unfold HN
 refine⟨CR (o:=(aD,[])) rfl,⟨rfl,rfl,rfl,?_⟩⟩
 refine yU.mpr ⟨rfl,?_⟩
 rw[l3]
 exact⟨_,VU (B3 _) (B3 _) QV.shut,gD h hn ⟨_,_,_,_,_,_,_,rfl,QV,.inl ⟨rfl,rfl⟩⟩⟩
def V3(hl:sc.length<=63):wL (ı w) (SL w) DO ⟨[("script",.lst (ĭ sc))],[(0,.tab false)],1,1⟩ KL:=by
 refine l0.mpr ⟨rfl,l1.mpr ⟨?_,?_,?_⟩⟩
 ·rw[AW];exact aA3 (aK2 hl 5) (by decide)
 ·rw[D0];exact CB _
 rw[D0]
 have len:([41,7,39,43,30]++sc:List Int).length=5+sc.length:=by rw[aC3];rfl
 refine⟨λk τ=>∃Ts Ds made,TI k Ts Ds made/\τ=Δ sc made (Ts.map B0) (Ds.map B0) [] [] 3,⟨_,.refl _,[eV],[],6,TH,rfl⟩,λk τ v hv hJ=>?_,λτ hJ=>?_⟩
 ·obtain⟨Ts,Ds,made,hT,rfl⟩:=hJ
  have hk:=(aA5.mp hv).1
  rw[AW,len]at hk
  obtain⟨x,_,rfl⟩:=map_some ((aC5 ..).symm.trans hv)
  have lt:=hT.lt;have ld:=hT.ld;have md:=hT.mde
  obtain⟨old,ho⟩ :∃o,Ts[Ts.length-1]?=some o:=⟨_,aA6 (by exists 2,0x180b1181a028,lt)⟩
  obtain⟨q1,Ľ⟩:=hT.next (x:=x) ho
  refine fR ho (hT.txt old (aB8 ho)).2.1 ⟨md.1,by exists[_,_],[_],0x3e890310f04c68a038058a11800003f9008,hl,hk,md.2⟩ (by exists 3,0x3e8920181a228058a11800003f9008,hl,hk,lt) (by exists 3,0x3e89201228058a11800003f9008,hl,hk,ld) Ľ λσ hσ=>⟨_,hσ,_,_,_,q1,rfl⟩
 ·obtain⟨Ts,Ds,made,hT,rfl⟩:=hJ
  rw[Cn]
  exact cQ hT (by rw[AW,len];exists 1,0x449058a000003f9008,hl)
end
end Mine
end
section
open PySem PySem.W PyProof.Rows PySem.Spec PySem.Calls
namespace Mine
noncomputable abbrev cP:aC1:=277
def J0(P:aD3):Obj:=(Co P).getD cP default
noncomputable def GS(o:Obj):Array Value:=match o.data with
 | .fields vs=>vs
 | _=>#[]
noncomputable def lJ(v:Value):Str×Tok:=match v with
 | .str s t=>(s,t)
 | _=>(("":Str),0)
noncomputable def UQ(v:Value):Int×Tok:=match v with
 | .int s t=>(s,t)
 | _=>(0,0)
noncomputable def bJ(v:Value):Bool:=match v with
 | .bool s=>s
 | _=>false
noncomputable def uH(v:Value):aC1:=match v with
 | .ref s=>s
 | _=>0
def Vg(P:aD3):CodeHd (H0 P) cP ŀ:=
 ⟨J0 P,GS (J0 P),(lJ ((GS (J0 P)).getD 18 .none)).1,(lJ ((GS (J0 P)).getD 18 .none)).2,(UQ ((GS (J0 P)).getD 7 .none)).1,(UQ ((GS (J0 P)).getD 7 .none)).2,bJ ((GS (J0 P)).getD 9 .none),(UQ ((GS (J0 P)).getD 10 .none)).1,(UQ ((GS (J0 P)).getD 10 .none)).2,
  by rfl',by rfl',by rfl',by rfl',by rfl',by rfl',by rfl',by rfl',by rfl',by decide⟩
def xM(P:aD3):aC1:=uH (((H0 P).nsMap aH2 "__builtins__").getD .none)
def Ï(P:aD3):Obj:=(Co P).getD (xM P) default
def Xn{a b:Nat}(h:aD0 a b=false):a≠b:=Nat.ne_of_beq_eq_false h
def tH(P:aD3):(H0 P).BuiltinsAt ((H0 P).nsMap aH2) ŀ:=
 ⟨xM P,Ï P,by rfl',Xn (by rfl'),Xn (by rfl'),Xn (by rfl'),by rfl',by rfl',by rfl',by rfl'⟩
def XI:LD = .Lambda G0.1 G0.2.1 G0.2.2.1 G0.2.2.2:=by rfl'
def ZK{M:bE3}{A:aH7}{E:Value->aA7->Prop}{s:aA7}{env:Env}{P:aD3}{Q:Value->aA7->Prop}(hg:env.globals=aH2)(hc:env.code = .ref cP)(hq:env.qual=(("law":Str)++(".<locals>.":Str)))
  (hb :∀b o,(H0 P).get? b=some o->s.heap.get? b=some o) (hP:s.heap.get? ŀ=some (tabObj #[]))
  (h :∀cd h' tk (ps:Array Value),aU1 ŀ s.heap h'->s.heap.objs.size<=cd->cd<h'.objs.size->h'.CodeRec (.ref cd) Wh->h'.get? ŀ=some (tabObj ps)->Q (.ref h'.objs.size) {s with heap:=h'.push {cls:=.type "function",data:=.func (Um P (.ref cd))},toks:=tk}) :
  aD2 M A (eval LD env) Q E s:=by
 have hG:s.heap.Ns aH2 ((H0 P).nsMap aH2):=(aF0.Ns.of_isNs (nJ P)).keeps hb
 have C:CodeHd s.heap cP ŀ:=(Vg P).keeps hb
 obtain⟨bm,ob,b1,b2,b3,Ŵ,Ÿ,b6,b7,b8⟩:=tH P
 rw[XI]
 refine kla_eval (by rfl') ?_
 rw[makeFunction_eq,hq]
 simp only[List.zip_nil_right,List.filterMap_nil,bF7,if_true,pure_bind]
 unfold makeTail
 rw[show closureFor G0.2.2.1 env=pure []by rfl',hg]
 refine aA2 (aA4 (aA2 (aA4 ?_)))
 refine aA2 (wpAny_functionCodeX hc (C.code hP trivial) (C.tab hP) rfl λcd h' tk hx hge hlt _ hrec htb _=>?_)
 refine aA2 (wpAny_builtinsFor (hG.extBut hx (by decide)) b1 b2 (hx _ _ Ŵ (hb _ _ Ÿ)) b6 b7 b8 ?_)
 refine aA2 (wpAny_nsGet (hG.extBut hx (by decide)) ?_)
 exact aA2 (aA4 (aH8 (h cd h' tk _ hx hge hlt hrec htb.2) (by size_fits)))
structure UV(w:aB9)(X:Cx):Prop where
 L:X.L=lF w
 h0:X.h₀=H0 w.params
 glb:X.env.globals=aH2
 cod:X.env.code = .ref cP
 qual:X.env.qual=(("law":Str)++(".<locals>.":Str))
 an:0<X.an
 mu:X.aG.μ 0=ŀ
def Md(P:aD3):(H0 P).get? ŀ=none:=by rfl'
def WM{w:aB9}{X:Cx}(Z:UV w X){σ:St}{Q:AV->St->Prop}(hx:σ.H.lookup 0=some (.tab false))(q:Q .lam (σ.set 0 (.tab true))):TV X (eval LD X.env) σ Q:=λG s R=>by
 have mu:G.μ 0=ŀ:=(R.anc.2.2 0 Z.an).1.trans Z.mu
 obtain⟨lt,tag,rel⟩:=R.obj 0 _ hx
 obtain⟨o,ho,ps,eo,hps⟩:=rel
 cases hps rfl
 subst eo
 change s.heap.get? (G.μ 0)=_ at ho
 change G.tag (G.μ 0)=_ at tag
 rw[mu]at ho tag
 have base :∀b o,(H0 w.params).get? b=some o->s.heap.get? b=some o:=λb o e=>R.base b o (Z.h0▸e)
 refine ZK Z.glb Z.cod Z.qual base ho λcd h' tk ps he hge hlt hrec htab=>?_
 let fo:Obj:={cls:=.type "function",data:=.func (Um w.params (.ref cd))}
 let c':Ž:=⟨G,σ.set 0 (.tab true),{s with heap:=h'.push fo,toks:=tk}⟩
 have sz:s.heap.objs.size<=(h'.push fo).objs.size:=aA3 (aA3 hge (aE4 hlt)) (Cu fo)
 have x:Cb X ⟨G,σ,s⟩ c':=R.chgs (c':=c') (S:=λp=>p = .obj 0) (λp e=>⟨0,.inl e⟩) (λb o e hn=>aB1 _ (he b o (λz=>hn _ (z▸tag) rfl) e)) sz rfl rfl rfl rfl rfl rfl λy o e=>
  CC e (λhy hw=>.inl λ_=>by
   subst hy;subst hw
   exact⟨lt,show G.tag (G.μ 0)=_ by rw[mu];exact tag,_,show(h'.push fo).get? (G.μ 0)=_ by rw[mu];exact aB1 _ htab,ps,rfl,λz=>nomatch z⟩) λhy e=>.inr ⟨λz=>hy (by cases z;rfl),λz=>(nomatch z),e⟩
 obtain⟨c₂,oc,vs,t,e2,hoc,hd,hv⟩:=hrec
 cases e2
 have new :∀a,s.heap.objs.size<=a->¬ G.own a:=λa ha z=>bO9 (R.ownLt a z) (aM3.mpr ha)
 refine .to (c':=c') (b:=AV.lam) x ⟨h'.objs.size,.ref cd,rfl,?_,new _ (aA3 hge (aE4 hlt)),cd,(vs,t),rfl,⟨oc,aB1 _ hoc,hd,?_⟩,new _ hge,trivial⟩ q
 ·show(h'.push fo).get? h'.objs.size=some {cls:=.type "function",data:=.func (X.L.lam (.ref cd))}
  rw[Z.L]
  exact aC4 _ rfl
 ·show vs[1]?=some (.str X.L.lq t)
  rw[Z.L]
  exact hv
section
variable{X:Cx}{P:Pm}{d:Nat}{fN st fM cm fI:aC1}{sc:Scope}{W:ŷ}{f:Nat}
def Uh{w:aB9}(Z:UV w X)(S:IG X W):IG X (iX W) where
 E:=λe σ Q h=>by
  change aH3 (W.E e σ Q) (e=LD/\σ.H.lookup 0=some (.tab false)/\Q .lam (σ.set 0 (.tab true))) (ix e 4)at h
  cases c:ix e 4 with
  | false=>rw[c]at h;exact S.E e σ Q h
  | true=>rw[c]at h;obtain⟨h1,h2,h3⟩:=h;exact h1▸WM Z h2 h3
 B:=S.B
 A:=S.A
 U:=S.U
 V:=S.V
def NZ(F:Ek X P d fN st fM cm fI sc)(S:IG X W):IG X (XY P sc f W):=
 ⟨kZ F S (Mz f),kU F S,λt v c Q h _ R r=>bK F S t v c Q h R r,λelt gens cs p u σ Q Q' h=>SX F (Mz f) h,λĬ vx gens cs p u σ Q Q' h=>N3 F (Mz f) h⟩
def UR{w:aB9}(Z:UV w X)(F:Ek X P d fN st fM cm fI sc):IG X (Rx P sc f):=NZ F (NZ F (Uh Z (snd F f)))
def Qz{w:aB9}(Z:UV w X)(F:Ek X P d fN st fM cm fI sc)(l:Nat):IB X (g5 P sc l f):=λs σ Q h=>by
 change aH3 (EI P sc f s σ Q) (Fl sc (Rx P sc f) (Ak s) (Bl s) s.pos.line σ Q) (Qu s&&aD0 s.pos.line l)at h
 cases c:Qu s&&aD0 s.pos.line l with
 | false=>rw[c]at h;exact XS F f s σ Q h
 | true=>
  rw[c]at h
  refine aE7.Assign.elim (motive_2:=λs=>Fl sc (Rx P sc f) (Ak s) (Bl s) s.pos.line σ Q->TS X (exec s X.env) σ Q) s (aB4 (AL c).1) (λts e p h=>?_) h
  exact Iq F (UR Z F) h
end
end Mine
end
section
open PySem PySem.W PyProof.Rows PySem.Spec PySem.Calls PySem.SeqAt
namespace Mine
def NR(P:aD3):(CJ P 278).body = .stmts DO/\(CJ P 278).scope=Fs/\Av P 278=true:=⟨by rfl',by rfl',by rfl'⟩
def S7(P:aD3):(CJ P 278).code = .ref cP/\(CJ P 278).qualname++(".<locals>.":Str)=("law":Str)++(".<locals>.":Str):=⟨by rfl',by rfl'⟩
section
variable{w:aB9}{d:Nat}
def nT:LP (lF w) (H0 w.params) (ı w) (d+5) ļ L4 aM KQ aI:=
 Sz (λf t e=>BF (b:=aD0 f 258) (x:=some NE) e (λq e=>aB4 q▸aA1 e▸Uv (d:=d+3)) λe=>BF (b:=aD0 f 181) (x:=some J1) e (λq e=>aB4 q▸aA1 e▸Sf (d:=d+3)) λe=>
  BF (b:=aD0 f 174) (x:=some N8) e (λq e=>aB4 q▸aA1 e▸OB (d:=d+4)) λe=>BF (b:=aD0 f 203) (x:=some Mr) e (λq e=>aB4 q▸aA1 e▸ZM (d:=d+1)) λe=>
  BF (b:=aD0 f 263) (x:=some N6) e (λq e=>aB4 q▸aA1 e▸O9 (d:=d+4)) λe=>BF (b:=aD0 f 268) (x:=some IU) e (λq e=>aB4 q▸aA1 e▸Of (d:=d+4)) λe=>
  BF (b:=aD0 f 273) (x:=some I8) (y:=none) e (λq e=>aB4 q▸aA1 e▸RB (d:=d+4)) AA)
  (λe=>nomatch e) (λe=>nomatch e) (λ_ e=>aA1 e▸V5 (d:=d))
def gT:Ű:=⟨λa=>bif aD0 a ŀ then some (.obj 0)else none,λ_=>ŀ,λ_=>0⟩
def Hj{a:aC1}{p:AT}(h:gT.tag a=some p):a=ŀ/\p = .obj 0:=by
 change (bif aD0 a ŀ then some (AT.obj 0)else none)=some p at h
 cases c:aD0 a ŀ with
 | true=>rw[c]at h;exact⟨aB4 c,(aA1 h).symm⟩
 | false=>rw[c]at h;cases h
def Zw:gT.tag ŀ=some (.obj 0):=rfl
abbrev d7(sc:List Int):St:=⟨[("script",.lst (ĭ sc))],[(0,.tab false)],1,1⟩
structure Qx(s:aA7)(v:Value)(s':aA7):Prop where
 ans:v = .bool true
 keep :∀b o,s.heap.get? b=some o->b≠ŀ->s'.heap.get? b=some o
 tab :∃ps:Array Value,s'.heap.get? ŀ=some (tabObj ps)
 gens:s'.gens=s.gens
 os:s'.os=s.os
def OL{L:CU}{h₀:aF0}{fa:aC1}{fd:aS6}{body:List aE7}{P:Pm}{S:ĥ}(K:VJ h₀ fa fd body ["script"] [])(hN:h₀.get? ŀ=none)
  {sc:List Int} (hS :∀X:Cx,X.L=L->X.h₀=h₀->CY d X.A->X.env.globals=fd.globals->X.env.builtins=fd.builtins->X.env.scope=fd.scope->X.env.code=fd.code->X.env.qual=fd.qualname++(".<locals>.":Str)->0<X.an->X.aG.μ 0=ŀ->IB X S) (hw:wL P S body (d7 sc) KL)
  {A:aH7} {s:aA7} {v:Value} (hA:CY (d+1) A) (hb :∀b o,h₀.get? b=some o->s.heap.get? b=some o) (hz:h₀.objs.size<=s.heap.objs.size) (hT:s.heap.get? ŀ=some (tabObj #[])) (hv:A8 L gT s.heap 1 (.lst (ĭ sc)) v) :
  aM9 (aD9 L.prog L.w) A (.call (.ref fa) ⟨[v],[]⟩) (CS (Qx s)) s:=by
 obtain⟨o,ho,hdata⟩:=K.obj
 have hos:=hb _ _ ho
 refine codeAny_call_function (aD1 (aE1 _ _) hA.2.1) hos hdata K.co K.gen K.bod (K.cod.keeps hb) (K.bind s [v] hb rfl _ _ _ _ ?_)
 rw[K.clo]
 refine wpAny_newFunctionEnv_cells K.kind (λx hx=>(K.loc _ (List.of_mem_zip hx).1).imp id λz=>⟨z,Option.isSome_iff_ne_none.mpr (C2 (.inl (mem_of_lookup z)))⟩) λenv hE s₁ x=>⟨(K.lim.keeps hb).keeps x.toInCall.keep,codeAny_func ?_⟩
 have e1:env.locals=s.heap.objs.size:=hE▸rfl
 have e2:env.cells=cellsFrom (s.heap.objs.size+1) fd.scope.names []:=hE▸rfl
 have e3:env.scope=fd.scope:=hE▸rfl
 have e4:env.globals=fd.globals:=hE▸rfl
 have e5:env.builtins=fd.builtins:=hE▸rfl
 have e6:env.code=fd.code:=hE▸rfl
 have e7:env.qual=fd.qualname++(".<locals>.":Str):=hE▸rfl
 clear hE
 obtain⟨⟨⟨h₁,tk,hs₁⟩,hns,hkeep,_⟩,hcell,hapart,habove⟩:=x
 have hab :∀y c,env.cells.lookup y=some c->env.locals<c:=λy c e=>habove y c (mem_of_lookup e)
 have lo :∀b,gT.own b->b<env.locals:=λb e=>by
  cases t:gT.tag b with
  | none=>exact bO9 t e
  | some p=>rw[(Hj t).1,e1];exact aI8 hT
 have told :∀{a p},gT.tag a=some p->(gT.frame env).tag a=some p:=H6 lo hab
 have sz:s.heap.objs.size<=s₁.heap.objs.size:=e1▸aE4 hns.lt
 have pc :∀{a p},(gT.frame env).tag a=some p->s.heap.objs.size<=a\/gT.tag a=some p:=λ{a p} e=>(Dw e).elim (λz=>.inl (aB7 (z.1.trans e1).symm)) λz=>z.elim (λz=>z.elim λy z=>.inl (e1▸aE4 (hab y a z.1))) .inr
 have oc :∀{a},(gT.frame env).own a->s.heap.objs.size<=a\/gT.own a:=λ{a} e=>by
  cases t:(gT.frame env).tag a with
  | none=>exact bO9 t e
  | some p=>exact(pc t).imp id A3
 let X:Cx:=⟨L,A.deeper env,env,s.heap,h₀,gT,1,s.gens,s.os⟩
 have p:Dy ⟨gT,d7 sc,s⟩ ⟨gT.frame env,d7 sc,s₁⟩:=⟨λa o e q=>⟨hkeep a o e,λz=>(oc z).elim (Ce e) q⟩,λ_ _=>⟨rfl,rfl⟩,aA9 _⟩
 have hV':Ŧ X ⟨gT.frame env,d7 sc,s₁⟩ [.lst (ĭ sc)] [v]:=p.va (X:=X) ⟨v,[],rfl,hv,rfl⟩
 have R₀:ŵ X ⟨gT.frame env,d7 sc,s₁⟩:={
  base:=λb o e=>hkeep _ _ (hb b o e)
  keep:=λb o e _=>hkeep _ _ e
  size:=sz
  mutHs:=λa e=>e.elim λq e=>(pc e.1).elim .inr λz=>.inl ⟨q,z,e.2⟩
  ownB:=λa e=>(oc e).elim (λw=>aQ5 (aA3 hz w)) λz=>by
   cases t:gT.tag a with
   | none=>exact bO9 t z
   | some p=>rw[(Hj t).1];exact hN
  ownLt:=λa e=>by
   cases t:(gT.frame env).tag a with
   | none=>exact bO9 t e
   | some p=>exact(Dw t).elim (λz=>z.1▸hns.lt) λz=>z.elim (λz=>z.elim λy z=>(hcell y a z.1).lt) λz=>aB3 ((Hj z).1▸aI8 hT) sz
  gens:=by rw[hs₁]
  os:=by rw[hs₁]
  loc:=⟨_,hns,λx av q1 Ľ=>LT K.nodup hV' q1 Ľ⟩
  cel:=λx c e=>⟨_,hcell x c e,λav q1 Ľ=>(K5 K.nodup hV' q1 Ľ).imp λv q=>q⟩
  celAll:=λx q1 Ľ=>q1.elim (λz=>C2 (.inl (mem_of_lookup (e3▸z:fd.scope.names.lookup x=_))) (e2▸Ľ)) λz=>K.nofree _ (mem_of_lookup (e3▸z:fd.scope.names.lookup x=_)) rfl
  tloc:=bO7 rfl
  tcel:=λx c e=>Hw hapart hab e
  obj:=λx o e=>BY e (λa b=>by
   subst a;subst b
   exact⟨aR5,told Zw,_,hkeep _ _ hT,#[],rfl,λ_=>rfl⟩) AA
  anc:=⟨aA9 _,aA9 _,λ_ _=>⟨rfl,rfl⟩⟩
  bsz:=aA3 hz sz}
 have H:=hS X rfl rfl ⟨hA.1,by have:=hA.2.1;show A.depth+1+d<_;exact id (ql [_,_,_] 0x21180aa12181a0a18 (by rfl') this),by have:=hA.2.2;show A.units+3+10*d+40<_;exact id (ql [_,_,_] 0x2000028910ac380aaa120000289181a0ac0aa18 (by rfl') this)⟩ e4 e5 e3 e6 e7 aR5 rfl
 refine aP5 (Ju H body hw _ _ R₀) (λfl s' b=>?_) λ_ _ x=>x.elim
 cases b with
 | mk G' σ' af k R' fr q=>
 obtain⟨hf,tb,ht⟩:=q
 have hv:=Kt fr hf
 have mu:G'.μ 0=ŀ:=(R'.anc.2.2 0 aR5).1
 obtain⟨-,-,rel⟩:=R'.obj 0 _ ht
 obtain⟨o,ho,ps,rfl,-⟩:=rel
 exact⟨_,rfl,hv,λb o e hne=>R'.keep b o e λz=>z.elim λq z=>hne (Hj z.1).1,⟨ps,mu▸ho⟩,R'.gens,R'.os⟩
def R3{A:aH7}{s:aA7}{sc:List Int}{v:Value}(hA:CY (d+7) A)(hb :∀b o,(H0 w.params).get? b=some o->s.heap.get? b=some o)(hz:(H0 w.params).objs.size<=s.heap.objs.size)(hT:s.heap.get? ŀ=some (tabObj #[]))(hv:A8 (lF w) gT s.heap 1 (.lst (ĭ sc)) v)
  (hl:sc.length<=63):aM9 (aD9 pw w) A (.call (.ref 278) ⟨[v],[]⟩) (CS (Qx s)) s:=by
 obtain⟨K,g1,g2⟩:=RH (P:=w.params) (a:=278) (body:=DO) (ps:=["script"]) (dvs:=[]) (NR _).2.2 (NR _).1 (by decide) (by rfl') λs vas q e=>bJ4 (by
  have:vas.length=1:=e
  cases vas with
  | nil=>cases this
  | cons a r=>cases r with
   | nil=>exact(by rfl':aU7 (CJ w.params 278) ⟨[a],[]⟩=pure ((["script"]:List Str).zip ([a]++[])))
   | cons=>cases this)
 exact OL (L:=lF w) (d:=d+6) K (Md _) (λX h1 h2 h3 ō Ξ Ť h7 h8 h9 Xu=>Qz ⟨h1,h2,ō.trans g1,h7.trans (S7 _).1,h8.trans (S7 _).2,h9,Xu⟩ ⟨h1▸h2▸nT,h3,ō.trans g1,Ξ.trans g2,Ť.trans (NR _).2.1,(NR w.params).2.1▸K.kind⟩ 498) (V3 hl) hA hb hz hT hv
end
end Mine
end
section
open PySem PySem.W PyProof.Rows PySem.Spec
namespace Mine
theorem Io{L:CU}{G:Ű}{n:Nat}{P:aD3}{h:aF0} :∀{ns:List Int} {vs:List Value},WellAll P h vs (ns.map bI8)->A2 L G h n (ĭ ns) vs
 | [],_,r=>by cases r;exact rfl
 | i::ns,_,r=>by
  cases r with
  | cons a b=>
   cases a with
   | int i t=>exact⟨_,_,rfl,bP3 i,Io b⟩
def RK{R:WRecords}(xs:List WData):bC2 R xs .int=true->∃ns:List Int,xs=ns.map bI8:=
 aB5 (λ_=>⟨[],rfl⟩) (λx r ih h=>
  (ih (aE8.mp (show(bJ8 R x .int&&bC2 R r .int)=true from h)).2).elim λns e=>by
   have h1:bJ8 R x .int=true:=(aE8.mp (show(bJ8 R x .int&&bC2 R r .int)=true from h)).1
   cases x with
   | int i=>exact⟨i::ns,bO6 _ e⟩
   | _=>exact aN7 (h1:false=true)) xs
def K7{R:WRecords}{d:WData}(h:bJ8 R d (.list .int)=true) :∃ns:List Int,d = .list (ns.map bI8):=by
 cases d with
 | list xs=>
  exact(RK xs ((Bool.or_false _).symm.trans (h:(bC2 R xs .int||false)=true))).imp λns e=>bO6 _ e
 | _=>exact aN7 (h:false=true)
def Wm{P:aD3}{b:aC1}{o:Obj}(h:(H0 P).get? b=some o):(Ĥ P).get? b=some o:=by
 have hne:b≠ŀ:=λz=>nomatch(z▸h).symm.trans (Md P)
 rw[<-h]
 show bN9 ⟨⟨Co P⟩,{}⟩ b=bN9 ⟨⟨(Co P).set ŀ _⟩,{}⟩ b
 unfold bN9
 have:(⟨(Co P).set ŀ {cls:=.none,data:=.freed}⟩:Array Obj)[b]?=(⟨Co P⟩:Array Obj)[b]?:=by
  show(((Co P).set ŀ {cls:=.none,data:=.freed}).toArray)[b]?=((Co P).toArray)[b]?
  rw[aF1,aF1,List.getElem?_set_ne (bC8 hne)]
 rw[this]
def TQ(P:aD3):(H0 P).objs.size=nF:=by
 show((Co P).set ŀ _).length=nF
 rw[List.length_set,i7]
def sL:WalkO qF looseF (XL qF []) Ω mV.row.toRowW dF.1 dF.2 λf vs=>PySem.call f vs:=by
 intro w s₀ s₁ mg mb G Y a o pm cd doc dV kV ho hd hcd hD hmg hg args vals as hpre hlay hrd hwl hlo
 obtain⟨hsh,hcond⟩:=pre_splitW hpre
 obtain⟨d,r,rfl,h1,h2⟩:=hasAllW_cons (es:=[]) hsh
 obtain rfl:=hasAllW_nil h2
 obtain⟨ns,rfl⟩:=K7 h1
 have hlen:ns.length<=63:=by
  have hx:(ns.map bI8).length=ns.length:=aB0 ..
  clear hpre hsh
  have hc:WTm.holds mV.row.records (.and (.not (.lt (.lit (.int 63)) (.len (.arg 0)))) (.lit (.bool true))) {args:=[.list (ns.map bI8)]}=true:=hcond
  w_cond hc
  rename_i u0 _;exists 2,0x3f91000f00003f94981028,hx,u0
 have hN:(Ĥ w.params).Ns aH2 ((Ĥ w.params).nsMap aH2):=.of_isNs (by rfl')
 have e1:(Ĥ w.params).nsMap aH2 "law" = some (.ref 278):=by rfl'
 have e2:=(hN.keeps Y).agree G.T.g "law"
 have e3:dF.1.name=("law":Str):=by rfl'
 rw[e3]at hmg
 rw[e1,hmg]at e2
 cases e2
 cases hwl with
 | cons hv hn=>
 cases hn
 cases hv with
 | list hl hI=>
 rename_i l us
 have base :∀b o,(H0 w.params).get? b=some o->s₁.heap.get? b=some o:=λb o e=>Y b o (Wm e)
 have hT:s₁.heap.get? ŀ=some (tabObj #[]):=Y _ _ (by rfl')
 have hz:(H0 w.params).objs.size<=s₁.heap.objs.size:=by
  rw[TQ]
  have ho':(Ĥ w.params).get? (nF-1)=some ((Co w.params).getD (nF-1) default):=by rfl'
  have:=aI8 (Y _ _ ho')
  exact this
 have hlp:¬ gT.own l:=λz=>by
  cases t:gT.tag l with
  | none=>exact bO9 t z
  | some p=>
   rw[(Hj t).1]at hl
   have:=aA1 (hl.symm.trans hT)
   exact nomatch bO6 Obj.cls this
 refine enter_call (aK6 (R3 (w:=w) (d:=0) (A:=callerA) (s:=s₁) (sc:=ns) (v:=.ref l) ⟨rfl,by decide +kernel,by decide +kernel⟩ base hz hT ⟨l,us,rfl,⟨(0,none),hl⟩,hlp,Io hI⟩ hlen) λres s' hr=>?_)
 obtain⟨v,rfl,hb⟩:=hr
 obtain⟨rfl,hk,⟨ps,hps⟩,hgs,hos⟩:=hb
 have ct:=(((Vg w.params).keeps base).tab hT).isCodeTable
 refine⟨.inl ⟨_,.bool true,[],rfl,λcls=>rfl,.bool true,?_,λ_=>⟨bI1,λa h=>bO9 h (by simp)⟩⟩,⟨λb o e=>?_,λb o e=>?_⟩,hos,.of_eq (hgs.trans hg)⟩
 ·wrow_post
 ·by_cases z:b=ŀ
  ·subst z
   cases aA1 (e.symm.trans hT)
   exact .inr (.inl ⟨ct,rfl,#[],ps,rfl,by rw[Array.empty_append];exact hps⟩)
  ·exact .inl (hk b o e z)
 ·by_cases z:b=ŀ
  ·subst z
   exact⟨_,hps⟩
  ·exact⟨o,hk b o e z⟩
def all_holds:PySem.Challenge.rw_dm0059_05.Holds:=hd sL
end Mine
end
end
set_option maxRecDepth 100000 in
set_option maxHeartbeats 8000000 in
theorem PySem.Challenge.cw_dm0059_05_holds : PySem.Challenge.rw_dm0059_05.Holds := by
 exact Mine.all_holds
