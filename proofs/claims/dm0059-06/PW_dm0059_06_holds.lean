import PyProof.Rows.All
import Wide.All
import OpenK.AllK
import Wide.FinOn
import Open.Tops
import Lean
import PySem.Challenge.RW_dm0059_06
set_option Elab.async false
set_option linter.all false
set_option maxRecDepth 100000
set_option maxHeartbeats 0
set_option genSizeOf false
set_option genInjectivity false
noncomputable section
open Nat renaming le_trans→zP,le_refl→zX,lt_of_lt_of_le→zZ,le_of_eq→Â,eq_of_beq_eq_true→Å,le_add_right→Æ,lt_succ_self→Ê,lt_of_le_of_lt→Í,zero_le→Õ,beq→Ù,le_of_lt→Û,le_of_not_lt→Ü,lt_add_of_pos_right→Þ,ne_of_lt→ß,lt_succ_of_lt→ã,le_of_lt_succ→î,le_succ_of_le→ð,lt_irrefl→ò,le_of_succ_le→õ,not_lt_zero→ø,lt_or_eq_of_le→ú,succ_le_succ→ý,le_succ→ć,not_lt→Đ,add_le_add→Ė,add_le_add_left→ė,le_antisymm→Ĥ,add_right_comm→ĥ,zero_add→ĩ,le_of_add_right_le→Ī,pos_of_ne_zero→Į,rec→Ł,ne_of_gt→ń,succ_pos→Ň,min_le_right→ŋ,le_of_ble_eq_true→Ŏ,min_le_left→Ő,lt_trans→ő,not_succ_le_self→Ŗ,add_sub_cancel'→ř,succ→Ŝ,eq_zero_of_not_pos→Ť,add_le_add_right→Ŷ,not_le→ŷ,add_right_cancel→Ź,add_assoc→Ω,lt_of_succ_lt_succ→aB9,succ_sub_succ→aC2,lt_one_iff→aC3,one_pos→aD8,min_eq_left→aE1,add_lt_add_left→aE8,sub_le→aF9,lt_of_succ_lt→aG3,min_eq_right→aH1,lt_of_not_le→aH2,lt_or_ge→aI0,sub_zero→aI4,sub_self→aI6,ble→aK2,sub_lt→aK9
open PySem.Str renaming ofString→zQ
open Option.some renaming inj→zR
open PySem renaming wpAny_bind→zS,wpAny_pure→zW,Shared→zY,Addr→É,World→Ì,Params→Ó,Comprehension→à,Builtin→á,Heap→æ,builtinLookup_eq_fast→ç,Stmt→í,Arguments→ô,Program→þ,wpAny_holding→ā,wpAny_call_entry→ă,typeLookup_type→Ą,wpAny_callSpecial?_slot→ċ,wpAny_standAt→Ď,Around→đ,wpAny_newObj_type→Ě,isSubtype_type→Ģ,codeAny_call_builtin→Ħ,wpAny_mono→Ĩ,getMethod_builtin→ĸ,Spec→ļ,codeAny_mono→ņ,DictEntry→Ŋ,NameKind→ō,wpAny_truthy_bool→Œ,OsState→Š,wpAny_load→ţ,wpAny_call→Ų,wpAny_of_eq→ų,wpAny_field→Ŵ,wpAny_seqItems→ŵ,entryFor_of_tree→ž,codeAny_builtin→aA1,Setting→aA2,call_meets→aA4,wpAny_isSame_plain→aA5,slot_listiter_next→aA7,wpAny_loadPart→aB2,wpAny_pyIter_enum→aB5,BindsTo→aC1,wpAny_askSetting→aD1,wpAny_isInstance→aD2,FuncData→aD9,wpAny_specialOf→aE2,wpAny_updateSeq→aE3,wpAny_contains_slot→aE6,wpAny_setField→aF4,wpAny_rule→aF5,CmpOp→aG0,wpAny_attempt→aG4,Result→aG5,plainId_quiet→aG6,Operator→aH3,typeIs_int→aI1,wpAny_typeOf→aI3,codeAny_of_tree→aI8,Model→aJ5,wpAny_tryCatch→aJ6,UnaryOp→aK1,GenState→aL5,Flow→aL9,wpAny_letGo→aM9,Keyword→aN3,Code→aN4,intKind_is→aN5,strKind_is→aN6,wpAny_Name→aO1,Fin→aO4,wpAny_ite→aO5
open List renaming getElem?_eq_some_iff→zT,length_append→zU,getElem?_eq_getElem→zV,length_map→z6,mem_cons_self→z8,mem_singleton→z9,mem_cons_of_mem→À,mem_append→Á,rec→Ä,mem_cons→È,range→Ë,append_assoc→Ï,getElem?_map→Ð,mem_of_getElem?→Ò,append_nil→Ô,getD_eq_getElem?_getD→Ø,toArray→Ú,drop_eq_getElem_cons→è,length_drop→ë,getElem?_toArray→ì,length_take→ï,pairwise_cons→ñ,length_range→ó,map_append→ù,getElem?_eq_none→Ā,map_cons→Ć,length_reverse→Ĉ,getElem?_append_right→č,getElem?_append_left→ď,map→ĕ,getElem?_of_mem→Ĝ,mem_map→Ğ,reverse_cons→ġ,take_append_drop→Ĭ,idxOf_lt_length_iff→ı,map_map→Ĳ,sublist_append_left→Ĵ,eq_nil_of_length_eq_zero→ĵ,drop→ķ,take_add_one→ĺ,head_eq_of_cons_eq→Ļ,range_succ→ľ,map_congr_left→ŀ,drop_of_length_le→Ń,map_drop→ŉ,mem_reverse→Ō,pairwise_map→ŕ,flatMap_append→Ś,mem_map_of_mem→ś,length_cons→Ş,take_of_length_le→Ţ,getElem?_drop→Ŧ,mem_filter→Ũ,map_take→ū,filterMap_append→Ŭ,drop_sublist→Ů,flatMap_cons→ů,mem_range→ű,pairwise_append→ź,take→Ž,getElem?_eq_none_iff→ſ,getElem?_range→Θ,nil_append→aA3,getElem?_take→aA8,pairwise_singleton→aB0,flatMap_singleton→aC4,getElem?_set_self→aC5,any_eq_true→aD0,take_length→aD3,drop_length→aD5,getElem?_append→aE0,nodup_cons→aE4,drop_zero→aF6,getElem_idxOf→aF7,getElem?_inj→aG2,Pairwise→aG9,all_eq_true→aH4,nodup_range→aH6,getElem_mem→aH7,map_reverse→aH9,reverse→aI5,length_set→aI9,length_nil→aJ0,replicate→aJ4,nodup_nil→aJ7,lookup→aJ8,Perm→aK3,foldl→aN7,cons→aO7
open False renaming elim→z7
open PySem.Heap renaming get?_push_of_some→Ã,get?_push_size→Î,size_push→ä,SameBut→ÿ,size_update→Ċ,get?_update_other→ē,get?_update_self→Ę,lt_size→ğ,ExtBut→aM4
open Int renaming ofNat_lt→Ç,toNat_eq_max→Ý,natCast_nonneg→ą,zero_add→ę,ofNat_le→ħ,toNat_natCast→œ,add_zero→ş,fmod_nonneg_of_pos→ŧ,lt_trans→Ż,le_trans→ż,lt_of_lt_of_le→aA6,zero_mul→aB1,sub_zero→aB4,lt_of_le_of_lt→aF2,not_lt→aF3,mul_add→aJ1,neg_mul→aJ2,mul_nonneg→aJ3,ofNat→aK0,add_assoc→aK5,mul_assoc→aK6,mul_zero→aL2,le_of_lt→aL3,mul_comm→aL4,ediv_one→aL7,one_mul→aM3,negSucc→aM5,sub_sub→aM6,le_refl→aM7,not_le→aN8
open Option renaming map→Ñ,rec→Ö,map_eq_some_iff→ť,getD_none→aH8,bind→aN1
open PySem.W renaming Looks→â,kas_place→İ,kas_desc→aB7,kas_sort→aB8,boot_heap→aD4,kas_descPart→aF0,Frag→aG7,check_slot→aK8,plainGet_of→aM8,boot_drawn→aO2,kas_count→aO6,boot_toks→aO8,SharedT→aO9,KasT→aP1
open LawfulBEq renaming eq_of_beq→å
open PySem.NameKind renaming free→é,cell→Ū,rec→aL8
open Bool renaming and_eq_true_iff→ê,false_eq_true→ö,and_eq_true→ĉ,rec→Ĕ,noConfusion→ŝ,false_ne_true→š,eq_iff_iff→aA0,not_eq_true'→aC0,or_eq_true_iff→aE7,and_false→aF1,not_true→aG8,or_eq_true→aI7
open PySem.Challenge renaming pw_dm0059_06→û
open Classical renaming byContradiction→ü,em→ł
open PySem.Obj renaming mapSeq→Ă
open PySem.Builtin.Range renaming rangeSize→Č,small→Φ
open PySem.Value renaming none→Ē,ref→ī,type→Ř,int→aM0,str→aM1
open PySem.F renaming slot_tuple_iterator_next→ě,slot_dict_getattribute→į,slot_set_getattribute→Ķ,plainAttrs_list→Ĺ,slot_list_setitem→ŏ,plain_extend_loop→Ξ,slot_tuple_iter→aA9,slot_dict_get→aC7
open PySem.W.Looks renaming of_peek→ĝ,of_pure→aD7,ld→aN9
open PySem.Builtin.SmallTypes renaming nextOf→Ġ
open PySem.Builtin renaming divisionGoesByPylong→ģ
open PySem.Sem renaming wp→ĭ
open PySem.Stmt renaming casesOn→ĳ
open ForInStep renaming yield→Ľ
open PySem.Heap.SameBut renaming update→Ŀ
open Nat.succ renaming inj→Ņ
open PyProof renaming noPylong_small→ň
open PySem.Around renaming under_plainId→Ŕ
open Int.ofNat renaming inj→ŗ
open PySem.Builtin.Builtins renaming binaryNamed→ũ
open PySem.Builtin.List renaming listExtendWith→ŭ,listFitsIndex→Ű,listTooLong→Ψ,listItems→aB3
open Prod renaming ext→Ÿ
open PySem.SeqAt renaming EqAt→Δ,RcNeAt→aI2,RcAt→aN2
open PySem.W.KasT renaming ret→aB6,rec→aL6,ask→aO0
open List.Sublist renaming refl→aC6
open Array renaming getElem?_toList→aC8,any_toList→aH0,any→aO3
open List.Perm renaming append_left→aC9
open Ne renaming symm→aD6
open PySem.W.WShape renaming hasItems→aE5,has→aL1
open PySem.Code renaming builtin→aE9
open PySem.PyData renaming keyHash→aF8
open PySem.Bind renaming madeBy→aG1
open And renaming intro→aH5,right→aM2
open PySem.W.SharedT renaming abs→aJ9
open PySem.W.WData renaming int→aK4
open PyProof.Rows renaming listUpdate_at→aK7,seqEpoch_at→aN0
open PySem.IsL renaming update→aL0
open PySem.Slot renaming of→aP0
local macro_rules
 | `(tactic| rfl') => `(tactic| kernel_rfl)

section
open PySem PySem.W PyProof.Rows
namespace Mine
def XG{α:Type}(as:Array α)(p:α->Bool)(a b:Nat):Bool:=
 Ĕ (as.any p a b) (R.anyR as.toList p) (Ù a 0&&Ù b as.size)
def T4:@aO3.{0}=@XG:=by
 funext α as p a b
 unfold XG
 cases h:(Ù a 0&&Ù b as.size)with
 | false=>rfl
 | true=>
  obtain⟨h1,h2⟩:=ê.mp h
  have:=Å h1
  subst this
  have:=Å h2
  subst this
  show as.any p 0 as.size=R.anyR as.toList p
  rw[<-aH0]
  exact congrFun (congrFun (congrFun R.anyR_eq α) as.toList) p
abbrev LL:Type 1:=(α:Type)->(as:Array α)->(p:α->Bool)->(start:Nat)->(stop:Nat)->Bool
inductive Xf:(LL->á)->á->LL->Type 2
 | mk (F:LL->á) (a:LL):Xf F (F a) a
structure gH(v:á)(a:LL):Type 2 where
 F:LL->á
 h:Xf F v a
def gH.ok{v:á}{a:LL}(x:gH v a):v=x.F a:=by
 obtain⟨F,h⟩:=x
 cases h
 rfl
def nV:gH Fast.tw4202317264376624991 (@aO3.{0}):=by
 apply gH.mk
 delta Fast.tw4202317264376624991
 generalize @aO3.{0}=any
 exact Xf.mk _ @any
def tnB:á:=nV.F (@XG)
def XW:á.«type.__new__» = tnB:=by
 refine Fast.te4202317264376624991.trans (nV.ok.trans ?_)
 exact congrArg nV.F T4
noncomputable def dL(b:á)(id:String):Option á:=if id == "type.__new__" then some b else treeTable id
def W4:treeTable=dL á.«type.__new__»:=by
 funext id
 unfold dL
 by_cases h:(id == "type.__new__")=true
 ·rw[if_pos h,å h]
  rfl'
 ·rw[if_neg h]
lay_quick Mine.dL
def fR:String->Option á:=dL tnB
def Xo:treeTable=fR:=W4.trans (congrArg dL XW)
end Mine
end
section
open PySem PySem.W PyProof.Rows
def PySem.W.Fast.tw1544363975561320374:á:=Mine.tnB
def PySem.W.Fast.te1544363975561320374:Mine.tnB=PySem.W.Fast.tw1544363975561320374:=rfl
end
section
open PySem PySem.W PyProof.Rows
namespace Mine
lay_quick Mine.fR
noncomputable def I2:Option Value:=some (.ref 6)
def VE(n:Nat)(w:Ì)(p:þ)(l b:List í)(s:aO9)(e:Env):Option (aL9×aO9×aN4×Pos):=
 segRunT fR p w 11 I2 1 n s (piecesOf l e (.body b e) ⟨0,0,0,0⟩ [topFrame ⟨0,0,0,0⟩])
lay_quick Mine.VE
noncomputable def AZ:Option í->List í
 | some (.ClassDef _ _ _ b _ _ _ _ _ _ _)=>b
 | _=>[]
noncomputable def AB:Pos:={line:=0,col:=0,endLine:=0,endCol:=0}
end Mine
end
namespace Lq
inductive TT where
 | v (i:Nat) | k (n:Nat) | a (x y:TT) | s (x y:TT) | m (n:Nat) (x:TT) | mi (x y:TT) | ma (x y:TT) | c (x:TT) | g (x:TT)
inductive FF where
 | le (x y:TT) | lt (x y:TT) | eq (x y:TT) | il (x y:TT) | it (x y:TT) | ie (x y:TT) | an (p q:FF) | or(p q:FF) | im (p q:FF) | no (p:FF) | fa
noncomputable abbrev CF{α}(d:α):List α->Nat->α
 | [],_=>d
 | a::_,0=>a
 | _::r,i+1=>CF d r i
noncomputable abbrev TT.dn(c:List Nat):TT->Nat
 | v i=>CF 0 c i
 | k n=>n
 | a x y=>x.dn c+y.dn c
 | s x y=>x.dn c-y.dn c
 | m n x=>n*x.dn c
 | mi x y=>min (x.dn c) (y.dn c)
 | ma x y=>max (x.dn c) (y.dn c)
 | .c x=>x.dn c
 | g x=>x.dn c
noncomputable abbrev TT.di(c:List Nat)(z:List Int):TT->Int
 | v i=>CF 0 z i
 | k n=>n
 | a x y=>x.di c z+y.di c z
 | s x y=>x.di c z-y.di c z
 | m n x=>n*x.di c z
 | mi x y=>min (x.di c z) (y.di c z)
 | ma x y=>max (x.di c z) (y.di c z)
 | .c x=>(x.dn c:Int)
 | g x=>- x.di c z
abbrev FF.dn(c:List Nat)(z:List Int):FF->Prop
 | le x y=>x.dn c<=y.dn c
 | lt x y=>x.dn c<y.dn c
 | eq x y=>x.dn c=y.dn c
 | il x y=>x.di c z<=y.di c z
 | it x y=>x.di c z<y.di c z
 | ie x y=>x.di c z=y.di c z
 | an p q=>p.dn c z/\q.dn c z
 | or p q=>p.dn c z\/q.dn c z
 | im p q=>p.dn c z->q.dn c z
 | no p=>¬ p.dn c z
 | fa=>False
abbrev pT:Nat->Nat->(TT->Nat->FF)->FF
 | 0,_,_=>.fa
 | f+1,n,r=>
  let t:=n%16
  let n:=n / 16
  if t<8 then r (.v t) n else if t=8 then r (.k (n%16)) (n / 16)else if t=9 then r (.k (n%16777216)) (n / 16777216)
  else if t=10 then pT f n λx n=>pT f n λy=>r (.a x y)else if t=11 then pT f n λx n=>pT f n λy=>r (.s x y)
  else if t=12 then pT f (n / 256) λx=>r (.m (n%256) x)
  else if t=13 then pT f n λx n=>pT f n λy=>r (.mi x y)else if t=14 then pT f n λx n=>pT f n λy=>r (.ma x y)
  else if n%16=0 then pT f (n / 16) λx=>r (.c x)else if n%16=1 then pT f (n / 16) λx=>r (.g x)else r (.v (n%16+6)) (n / 16)
noncomputable abbrev pF:Nat->Nat->(FF->Nat->FF)->FF
 | 0,_,_=>.fa
 | f+1,n,r=>
  let t:=n%16
  let n:=n / 16
  if t<6 then pT f n λx n=>pT f n λy=>r (if t=0 then .le x y else if t=1 then .lt x y else if t=2 then .eq x y else if t=3 then .il x y else if t=4 then .it x y else .ie x y)
  else if t=6 then pF f n λp n=>pF f n λq=>r (.an p q)else if t=7 then pF f n λp n=>pF f n λq=>r (.or p q)
  else if t=8 then pF f n λp n=>pF f n λq=>r (.im p q)else if t=9 then pF f n λp=>r (.no p)else r .fa n
abbrev rd(n:Nat):FF:=pF 60 n λp _=>p
abbrev LF:=Int×List Int
noncomputable def QW:List Int->List Int->List Int
 | [],l=>l
 | l,[]=>l
 | a::l,b::m=>(a+b)::QW l m
noncomputable def TF(k:Int)(l:List Int):List Int:=l.map (k * ·)
def LF.add(p q:LF):LF:=(p.1+q.1,QW p.2 q.2)
def LF.mul(k:Int)(p:LF):LF:=(k*p.1,TF k p.2)
noncomputable def KP:Nat->List Int
 | 0=>[1]
 | i+1=>0::0::KP i
def LF.le(p q:LF):LF:=q.add (p.mul (-1))
def LF.lt(p q:LF):LF:=((p.le q).1-1,(p.le q).2)
abbrev CN:=Bool×LF
def XM(p q:LF)(r1 r2:List CN->Bool)(cs:List CN):Bool:=
 bif cs.contains (false,p.le q)then r1 cs else bif cs.contains (false,q.lt p)then r2 cs else r1 ((false,p.le q)::cs)&&r2 ((false,q.lt p)::cs)
noncomputable def TT.cn:TT->(LF->List CN->Bool)->List CN->Bool
 | v i,r,cs=>r (0,KP i) cs
 | k n,r,cs=>r (n,[]) cs
 | a x y,r,cs=>x.cn (λp=>y.cn λq=>r (p.add q)) cs
 | s x y,r,cs=>x.cn (λp=>y.cn λq=>XM q p (r (p.add (q.mul (-1)))) (r (0,[]))) cs
 | m n x,r,cs=>x.cn (λp=>r (p.mul n)) cs
 | mi x y,r,cs=>x.cn (λp=>y.cn λq=>XM p q (r p) (r q)) cs
 | ma x y,r,cs=>x.cn (λp=>y.cn λq=>XM p q (r q) (r p)) cs
 | c x,r,cs=>x.cn r cs
 | g x,r,cs=>x.cn r cs
noncomputable def TT.ci:TT->(LF->List CN->Bool)->List CN->Bool
 | v i,r,cs=>r (0,0::KP i) cs
 | k n,r,cs=>r (n,[]) cs
 | a x y,r,cs=>x.ci (λp=>y.ci λq=>r (p.add q)) cs
 | s x y,r,cs=>x.ci (λp=>y.ci λq=>r (p.add (q.mul (-1)))) cs
 | m n x,r,cs=>x.ci (λp=>r (p.mul n)) cs
 | mi x y,r,cs=>x.ci (λp=>y.ci λq=>XM p q (r p) (r q)) cs
 | ma x y,r,cs=>x.ci (λp=>y.ci λq=>XM p q (r q) (r p)) cs
 | c x,r,cs=>x.cn r cs
 | g x,r,cs=>x.ci (λp=>r (p.mul (-1))) cs
def EC(b:Nat)(r:List CN->Bool)(p q:LF)(cs:List CN):Bool:=
 match b with
 | 0=>r ((false,p.le q)::cs)
 | 1=>r ((false,p.lt q)::cs)
 | 2=>r ((true,p.le q)::cs)
 | _=>r ((false,p.lt q)::cs)&&r ((false,q.lt p)::cs)
noncomputable def FF.br:FF->Bool->(List CN->Bool)->List CN->Bool
 | le x y,true,r,cs=>x.cn (λp=>y.cn (EC 0 r p)) cs
 | le x y,false,r,cs=>x.cn (λp=>y.cn λq=>EC 1 r q p) cs
 | lt x y,true,r,cs=>x.cn (λp=>y.cn (EC 1 r p)) cs
 | lt x y,false,r,cs=>x.cn (λp=>y.cn λq=>EC 0 r q p) cs
 | eq x y,true,r,cs=>x.cn (λp=>y.cn (EC 2 r p)) cs
 | eq x y,false,r,cs=>x.cn (λp=>y.cn (EC 3 r p)) cs
 | il x y,true,r,cs=>x.ci (λp=>y.ci (EC 0 r p)) cs
 | il x y,false,r,cs=>x.ci (λp=>y.ci λq=>EC 1 r q p) cs
 | it x y,true,r,cs=>x.ci (λp=>y.ci (EC 1 r p)) cs
 | it x y,false,r,cs=>x.ci (λp=>y.ci λq=>EC 0 r q p) cs
 | ie x y,true,r,cs=>x.ci (λp=>y.ci (EC 2 r p)) cs
 | ie x y,false,r,cs=>x.ci (λp=>y.ci (EC 3 r p)) cs
 | an p q,true,r,cs=>p.br true (q.br true r) cs
 | an p q,false,r,cs=>p.br false r cs&&q.br false r cs
 | or p q,true,r,cs=>p.br true r cs&&q.br true r cs
 | or p q,false,r,cs=>p.br false (q.br false r) cs
 | im p q,true,r,cs=>p.br false r cs&&q.br true r cs
 | im p q,false,r,cs=>p.br true (q.br false r) cs
 | no p,b,r,cs=>p.br (!b) r cs
 | fa,true,_,_=>true
 | fa,false,r,cs=>r cs
noncomputable def E8:LF->Int
 | (_,[])=>0
 | (_,a::_)=>a
noncomputable def gO(p:LF):LF:=(p.1,p.2.tail)
def JK(m n:Int)(p q:LF):LF:=((gO p).mul m).add ((gO q).mul n)
def UI(e:LF)(c:CN):CN:=(c.1,bif E8 e<0 then JK (- E8 e) (E8 c.2) c.2 e else JK (E8 e) (- E8 c.2) c.2 e)
def bX(cs:List CN):List CN:=
 let ng:=cs.filter (E8 ·.2<0)
 cs.filterMap (λp=>if E8 p.2=0 then some (p.1,gO p.2)else none)++(cs.filter (0<E8 ·.2)).flatMap λp=>ng.map λq=>(false,JK (- E8 q.2) (E8 p.2) p.2 q.2)
def SS(cs:List CN):List CN:=
 match cs.find? λc=>c.1&&E8 c.2 != 0 with
 | some e=>cs.map (UI e.2)
 | none=>bX cs
noncomputable def X1(p:LF):Bool:=p.2.all (· = 0)
def iO(p:CN):Bool:=X1 p.2&&(p.2.1<0||(p.1&&0<p.2.1))
noncomputable def fm:Nat->Bool->List CN->Bool
 | 0,_,cs=>cs.any iO
 | f+1,b,cs=>cs.any iO||(let cs:=cs.filter (λp=>!X1 p.2);if cs.isEmpty||150<cs.length then false else fm f (!b) (SS (bif b then(false,(0,[1]))::cs else cs)))
def chk(n:Nat):Bool:=(rd n).br false (fm 40 true) []
section
variable{c:List Nat}{z:List Int}
noncomputable def ev(f:Nat->Int):List Int->Int
 | []=>0
 | a::l=>a*f 0+ev (λi=>f (i+1)) l
noncomputable def Ys(f g:Nat->Int)(i:Nat):Int:=Ł (motive:=λ_=>(Nat->Int)->(Nat->Int)->Int) (λf _=>f 0) (λ_ r f g=>r g λj=>f (j+1)) i f g
noncomputable def env(c:List Nat)(z:List Int):Nat->Int:=Ys (λi=>(CF 0 c i:Nat)) (CF 0 z)
def LF.val(f:Nat->Int)(p:LF):Int:=p.1+ev f p.2
def pN(a b c d:Int):a+b+(c+d)=a+c+(b+d):=by rw[aK5,aK5,Int.add_left_comm b]
theorem Rz :∀(f:Nat->Int) (l m:List Int),ev f (QW l m)=ev f l+ev f m
 | f,[],m=>(ę _).symm
 | f,a::l,[]=>(ş _).symm
 | f,a::l,b::m=>by
  show(a+b)*f 0+ev _ (QW l m)=(a*f 0+ev _ l)+(b*f 0+ev _ m)
  rw[Rz,Int.add_mul];exact pN ..
theorem Ra(k:Int) :∀(f:Nat->Int) (l:List Int),ev f (TF k l)=k*ev f l
 | f,[]=>(aL2 k).symm
 | f,a::l=>by
  show(k*a)*f 0+ev _ (TF k l)=k*(a*f 0+ev _ l)
  rw[Ra,aJ1,aK6]
def EQ(f:Nat->Int)(p q:LF):(p.add q).val f=p.val f+q.val f:=by
 show p.1+q.1+ev f (QW p.2 q.2)=_
 rw[Rz];exact pN ..
def DU(f:Nat->Int)(k:Int)(p:LF):(p.mul k).val f=k*p.val f:=by
 show k*p.1+ev f (TF k p.2)=k*(p.1+_)
 rw[Ra,aJ1]
def Gu(f:Nat->Int)(p q:LF):(p.le q).val f=q.val f-p.val f:=by
 unfold LF.le;rw[EQ,DU,aJ2,aM3];rfl
def Gf(f:Nat->Int)(p q:LF):(p.lt q).val f=q.val f-p.val f-1:=by
 rw[<-Gu];exact Int.add_right_comm _ (-1) _
theorem Ii :∀(i:Nat) (f g:Nat->Int),ev (Ys f g) (KP i)=f i
 | 0,f,g=>by show 1*f 0+0=f 0;rw[aM3,ş]
 | i+1,f,g=>by
  show 0*_+(0*_+ev (Ys (λj=>f (j+1)) λj=>g (j+1)) (KP i))=_
  rw[Ii i,aB1,aB1,ę,ę]
def CN.is(f:Nat->Int)(c:CN):Prop:=match c.1 with
 | true=>c.2.val f=0
 | false=>0<=c.2.val f
def GR(f:Nat->Int)(cs:List CN):Prop:=∀p∈cs,p.is f
def Ok(f:Nat->Int)(r:List CN->Bool):Prop:=∀cs,GR f cs->r cs=true->False
def qA(f:Nat->Int)(v:Int)(r:LF->List CN->Bool):Prop:=∀p,p.val f=v->Ok f (r p)
def GR.cons{f:Nat->Int}{p:CN}{cs:List CN}(h:p.is f)(s:GR f cs):GR f (p::cs):=λq hq=>(È.mp hq).elim (λe=>e▸h) (s q)
def GR.c0{f:Nat->Int}{p:LF}{cs:List CN}(s:GR f cs)(h:0<=p.val f):GR f ((false,p)::cs):=s.cons (p:=(false,p)) h
def GR.c1{f:Nat->Int}{p:LF}{cs:List CN}(s:GR f cs)(h:p.val f=0):GR f ((true,p)::cs):=s.cons (p:=(true,p)) h
def G4{f:Nat->Int}{p q:LF}{r1 r2}(h1:p.val f<=q.val f->Ok f r1)(h2:q.val f<p.val f->Ok f r2):Ok f (XM p q r1 r2):=λcs s e=>by
 unfold XM at e
 have g1:CN.is f (false,p.le q)->p.val f<=q.val f:=λ(g:0<=(p.le q).val f)=>by rw[Gu]at g;omega
 have g2:CN.is f (false,q.lt p)->q.val f<p.val f:=λ(g:0<=(q.lt p).val f)=>by rw[Gf]at g;omega
 cases c1:cs.contains (false,p.le q)with
 | true=>rw[c1]at e;exact h1 (g1 (s _ (List.contains_iff_mem.mp c1))) _ s e
 | false=>
  rw[c1]at e
  cases c2:cs.contains (false,q.lt p)with
  | true=>rw[c2]at e;exact h2 (g2 (s _ (List.contains_iff_mem.mp c2))) _ s e
  | false=>
   rw[c2]at e
   have e:=ĉ _ _▸e
   by_cases l:p.val f<=q.val f
   ·exact h1 l _ (s.c0 (by rw[Gu];omega)) e.1
   ·exact h2 (by omega) _ (s.c0 (by rw[Gf];omega)) e.2
def nD(i:Nat):ev (env c z) (KP i)=(CF 0 c i:Nat):=Ii i _ _
def lE(i:Nat):ev (env c z) (0::KP i)=CF 0 z i:=by
 show 0*_+ev (Ys (CF 0 z) λj=>(CF 0 c (j+1):Nat)) (KP i)=_
 rw[Ii i,aB1,ę]
theorem Cl :∀(x:TT) {r},qA (env c z) (x.dn c) r->Ok (env c z) (x.cn r)
 | .v i,r,h=>h _ (by show 0+ev _ _=_;rw[nD];exact ę _)
 | .k n,r,h=>h _ (ş _)
 | .a x y,r,h=>Cl x λp hp=>Cl y λq hq=>h _ (by rw[EQ,hp,hq];rfl)
 | .m n x,r,h=>Cl x λp hp=>h _ (by rw[DU,hp];rfl)
 | .c x,r,h=>Cl x h
 | .g x,r,h=>Cl x h
 | .s x y,r,h=>Cl x λp hp=>Cl y λq hq=>G4 (λl=>h _ (by rw[EQ,DU,hp,hq];rw[hp,hq]at l;show _=((x.dn c-y.dn c:Nat):Int);omega)) λl=>h _ (by rw[hp,hq]at l;show(0:Int)+0=((x.dn c-y.dn c:Nat):Int);omega)
 | .mi x y,r,h=>Cl x λp hp=>Cl y λq hq=>G4 (λl=>h _ (by rw[hp,hq]at l;rw[hp];exact congrArg aK0 (aE1 (ħ.mp l)).symm)) λl=>h _ (by rw[hp,hq]at l;rw[hq];exact congrArg aK0 (aH1 (Û (Ç.mp l))).symm)
 | .ma x y,r,h=>Cl x λp hp=>Cl y λq hq=>G4 (λl=>h _ (by rw[hp,hq]at l;rw[hq];exact congrArg aK0 (Nat.max_eq_right (ħ.mp l)).symm)) λl=>h _ (by rw[hp,hq]at l;rw[hp];exact congrArg aK0 (Nat.max_eq_left (Û (Ç.mp l))).symm)
theorem DR :∀(x:TT) {r},qA (env c z) (x.di c z) r->Ok (env c z) (x.ci r)
 | .v i,r,h=>h _ (by show 0+ev _ _=_;rw[lE];exact ę _)
 | .k n,r,h=>h _ (ş _)
 | .a x y,r,h=>DR x λp hp=>DR y λq hq=>h _ (by rw[EQ,hp,hq])
 | .m n x,r,h=>DR x λp hp=>h _ (by rw[DU,hp])
 | .c x,r,h=>Cl x h
 | .g x,r,h=>DR x λp hp=>h _ (by rw[DU,hp];show -1*x.di c z = - x.di c z;omega)
 | .s x y,r,h=>DR x λp hp=>DR y λq hq=>h _ (by rw[EQ,DU,hp,hq];show _=x.di c z-y.di c z;omega)
 | .mi x y,r,h=>DR x λp hp=>DR y λq hq=>G4 (λl=>h _ (by rw[hp,hq]at l;rw[hp];exact(Int.min_eq_left l).symm)) λl=>h _ (by rw[hp,hq]at l;rw[hq];exact(Int.min_eq_right (aL3 l)).symm)
 | .ma x y,r,h=>DR x λp hp=>DR y λq hq=>G4 (λl=>h _ (by rw[hp,hq]at l;rw[hq];exact(Int.max_eq_right l).symm)) λl=>h _ (by rw[hp,hq]at l;rw[hp];exact(Int.max_eq_left (aL3 l)).symm)
def QO(b:Nat)(v w:Int):Prop:=match b with
 | 0=>v<=w
 | 1=>v<w
 | 2=>v=w
 | _=>v≠w
def GQ{f:Nat->Int}{r}(h:Ok f r){p q:LF} :∀{b:Nat},QO b (p.val f) (q.val f)->Ok f (EC b r p q)
 | 0,e=>λcs s=>h _ (s.c0 (by rw[Gu];exact Int.sub_nonneg_of_le e))
 | 1,e=>λcs s=>h _ (s.c0 (by rw[Gf];have e:p.val f<q.val f:=e;omega))
 | 2,e=>λcs s=>h _ (s.c1 (by rw[Gu];have e:p.val f=q.val f:=e;omega))
 | b+3,e=>λcs s y=>by
  have e:p.val f≠q.val f:=e
  have y:=ĉ _ _▸y
  rcases Int.lt_or_gt_of_ne e with l | l
  ·exact h _ (s.c0 (by rw[Gf];omega)) y.1
  ·exact h _ (s.c0 (by rw[Gf];omega)) y.2
def FQ{r}(h:Ok (env c z) r)(x y:TT){b:Nat}(e:QO b (x.dn c) (y.dn c)):Ok (env c z) (x.cn λp=>y.cn (EC b r p)):=
 Cl x λ_ hp=>Cl y λ_ hq=>GQ h (by rw[hp,hq];exact e)
def KG{r}(h:Ok (env c z) r)(x y:TT){b:Nat}(e:QO b (y.dn c) (x.dn c)):Ok (env c z) (x.cn λp=>y.cn λq=>EC b r q p):=
 Cl x λ_ hp=>Cl y λ_ hq=>GQ h (by rw[hp,hq];exact e)
def Ey{r}(h:Ok (env c z) r)(x y:TT){b:Nat}(e:QO b (x.di c z) (y.di c z)):Ok (env c z) (x.ci λp=>y.ci (EC b r p)):=
 DR x λ_ hp=>DR y λ_ hq=>GQ h (by rw[hp,hq];exact e)
def Kh{r}(h:Ok (env c z) r)(x y:TT){b:Nat}(e:QO b (y.di c z) (x.di c z)):Ok (env c z) (x.ci λp=>y.ci λq=>EC b r q p):=
 DR x λ_ hp=>DR y λ_ hq=>GQ h (by rw[hp,hq];exact e)
def yJ(b:Bool)(P:Prop):Prop:=match b with
 | true=>P
 | false=>¬ P
theorem DA :∀(p:FF) {b:Bool} {r},Ok (env c z) r->yJ b (p.dn c z)->Ok (env c z) (p.br b r)
 | .le x y,true,r,h,e=>FQ h x y (b:=0) (ħ.mpr e)
 | .le x y,false,r,h,e=>KG h x y (b:=1) (Ç.mpr (aH2 e))
 | .lt x y,true,r,h,e=>FQ h x y (b:=1) (Ç.mpr e)
 | .lt x y,false,r,h,e=>KG h x y (b:=0) (ħ.mpr (Ü e))
 | .eq x y,true,r,h,e=>FQ h x y (b:=2) (congrArg aK0 e)
 | .eq x y,false,r,h,e=>FQ h x y (b:=3) λq=>e (ŗ q)
 | .il x y,true,r,h,e=>Ey h x y (b:=0) e
 | .il x y,false,r,h,e=>Kh h x y (b:=1) (Int.lt_of_not_ge e)
 | .it x y,true,r,h,e=>Ey h x y (b:=1) e
 | .it x y,false,r,h,e=>Kh h x y (b:=0) (Int.le_of_not_gt e)
 | .ie x y,true,r,h,e=>Ey h x y (b:=2) e
 | .ie x y,false,r,h,e=>Ey h x y (b:=3) e
 | .an p q,true,r,h,e=>DA p (b:=true) (DA q (b:=true) h e.2) e.1
 | .an p q,false,r,h,e=>λcs s y=>by
  have y:=ĉ _ _▸y
  exact e ⟨ü λn=>DA p (b:=false) h n cs s y.1,ü λn=>DA q (b:=false) h n cs s y.2⟩
 | .or p q,true,r,h,e=>λcs s y=>by
  have y:=ĉ _ _▸y
  exact Or.elim e (λn=>DA p (b:=true) h n cs s y.1) λn=>DA q (b:=true) h n cs s y.2
 | .or p q,false,r,h,e=>DA p (b:=false) (DA q (b:=false) h λn=>e (.inr n)) λn=>e (.inl n)
 | .im p q,true,r,h,e=>λcs s y=>by
  have y:=ĉ _ _▸y
  exact DA p (b:=false) h (λn=>DA q (b:=true) h (e n) cs s y.2) cs s y.1
 | .im p q,false,r,h,e=>DA p (b:=true) (DA q (b:=false) h λn=>e λ_=>n) (ü λn=>e λm=>absurd m n)
 | .no p,true,r,h,e=>DA p (b:=false) h e
 | .no p,false,r,h,e=>DA p (b:=true) h (Classical.not_not.mp e)
 | .fa,true,r,h,e=>e.elim
 | .fa,false,r,h,e=>h
theorem PR :∀(f:Nat->Int) (l:List Int),l.all (· = 0)=true->ev f l=0
 | f,[],_=>rfl
 | f,a::l,h=>by
  have h:=ĉ _ _▸h
  have e:a=0:=of_decide_eq_true h.1
  show a*f 0+ev _ l=0
  rw[e,PR _ l h.2,aB1];rfl
def RK{f:Nat->Int}{cs:List CN}(s:GR f cs)(h:cs.any iO=true):False:=by
 obtain⟨⟨b,p⟩,hp,e⟩:=aD0.mp h
 have e:=ĉ _ _▸e
 have v:p.val f=p.1:=by unfold LF.val;rw[PR f _ e.1];exact ş _
 rcases(aI7 _ _).mp e.2 with l | l
 ·have l:p.1<0:=of_decide_eq_true l
  cases b
  ·have:=s _ hp;have:0<=p.val f:=this;omega
  ·have:=s _ hp;have:p.val f=0:=this;omega
 ·have l:=ĉ _ _▸l
  have l2:0<p.1:=of_decide_eq_true l.2
  cases b
  ·exact nomatch l.1
  ·have:=s _ hp;have:p.val f=0:=this;omega
def LK(f:Nat->Int) :∀(p:LF),p.val f=E8 p*f 0+(gO p).val λi=>f (i+1)
 | (k,[])=>by show k+0=0*f 0+(k+0);omega
 | (k,a::l)=>by show k+(a*f 0+ev _ l)=a*f 0+(k+ev _ l);omega
def Kt(f:Nat->Int)(m n:Int)(p q:LF)(h:m*E8 p+n*E8 q=0):(JK m n p q).val (λi=>f (i+1))=m*p.val f+n*q.val f:=by
 have e:m*(E8 p*f 0)+n*(E8 q*f 0)=0:=by rw[<-aK6,<-aK6,<-Int.add_mul,h,aB1]
 unfold JK
 rw[EQ,DU,DU,LK f p,LK f q,aJ1,aJ1]
 omega
def X7{f:Nat->Int}{e:LF}(he:e.val f=0)(h0:E8 e≠0){c:CN}(hc:c.is f):(UI e c).is λi=>f (i+1):=by
 obtain⟨b,p⟩:=c
 have k :∃m n,0<=m/\m*E8 p+n*E8 e=0/\UI e (b,p)=(b,JK m n p e):=by
  unfold UI
  by_cases l:E8 e<0
  ·exact⟨- E8 e,E8 p,by omega,by rw[aJ2,aL4 (E8 p)];omega,by rw[decide_eq_true l];rfl⟩
  ·exact⟨E8 e,- E8 p,by omega,by rw[aJ2,aL4 (E8 p)];omega,by rw[decide_eq_false l];rfl⟩
 obtain⟨m,n,hm,h,e1⟩:=k
 rw[e1]
 have v:=Kt f m n p e h
 rw[he,aL2,ş]at v
 cases b
 ·show 0<=(JK m n p e).val _
  exact v▸aJ3 hm hc
 ·show(JK m n p e).val _=0
  have hc:p.val f=0:=hc
  rw[v,hc,aL2]
def CN.nn{f:Nat->Int} :∀{c:CN},c.is f->0<=c.2.val f
 | (true,_),h=>Int.le_of_eq (Eq.symm h)
 | (false,_),h=>h
def TC{f:Nat->Int}{cs:List CN}(s:GR f cs):GR (λi=>f (i+1)) (SS cs):=λp hp=>by
 unfold SS at hp
 cases fe:cs.find? λc=>c.1&&E8 c.2 != 0 with
 | some e=>
  rw[fe]at hp
  obtain⟨q,hq,rfl⟩:=Ğ.mp hp
  have k:=ĉ _ _▸List.find?_some fe
  have he:=s e (List.mem_of_find?_eq_some fe)
  obtain⟨b,e⟩:=e
  have k1:b=true:=k.1
  subst k1
  exact X7 he (bne_iff_ne.mp k.2) (s q hq)
 | none=>
  rw[fe]at hp
  rcases Á.mp hp with hp | hp
  ·obtain⟨⟨b,q⟩,hq,e⟩:=List.mem_filterMap.mp hp
   split at e
   ·rename_i h0
    have:=s _ hq
    have v:=LK f q
    rw[show E8 q=0 from h0,aB1,ę]at v
    have e:=zR e
    subst e
    cases b
    ·have t:0<=q.val f:=this
     rw[v]at t
     exact t
    ·have t:q.val f=0:=this
     rw[v]at t
     exact t
   ·cases e
  ·obtain⟨q,hq,e⟩:=List.mem_flatMap.mp hp
   obtain⟨r,hr,rfl⟩:=Ğ.mp e
   have hr:=Ũ.mp hr
   have hq:=Ũ.mp hq
   have r0:E8 r.2<0:=of_decide_eq_true hr.2
   have q0:0<E8 q.2:=of_decide_eq_true hq.2
   show 0<=LF.val _ (JK _ _ _ _)
   rw[Kt f _ _ _ _ (by rw[aJ2,aL4 (E8 q.2)];omega)]
   exact Int.add_nonneg (aJ3 (by omega) (CN.nn (s q hq.1))) (aJ3 (by omega) (CN.nn (s r hr.1)))
noncomputable def jA(b:Bool)(i:Nat):Bool:=Ł (motive:=λ_=>Bool->Bool) (λb=>b) (λ_ r b=>r (!b)) i b
theorem LT :∀(i:Nat) (f g:Nat->Int),(∀j,0<=f j)->(jA true i=true->0<=Ys f g i)/\(jA false i=true->0<=Ys g f i)
 | 0,f,g,h=>⟨λ_=>h 0,λe=>(nomatch e)⟩
 | i+1,f,g,h=>⟨(LT i (λj=>f (j+1)) g λj=>h (j+1)).2,(LT i f (λj=>g (j+1)) h).1⟩
theorem Uy :∀(n:Nat) (b:Bool) (f:Nat->Int),(∀i,jA b i=true->0<=f i)->Ok f (fm n b)
 | 0,b,f,h,cs,s,e=>RK s e
 | n+1,b,f,h,cs,s,e=>by
  rcases(aI7 _ _).mp e with e | e
  ·exact RK s e
  ·have s':GR f (cs.filter (λp=>!X1 p.2)):=λp hp=>s p (Ũ.mp hp).1
   dsimp only at e
   split at e
   ·cases e
   ·refine Uy n (!b) (λi=>f (i+1)) (λi hi=>h (i+1) hi) _ (TC ?_) e
    cases b
    ·exact s'
    ·exact s'.c0 (by show 0<=0+(1*f 0+0);rw[ę,aM3,ş];exact h 0 rfl)
def Q(c:List Nat)(z:List Int)(n:Nat)(ok:chk n=true):(rd n).dn c z:=
 ü λh=>DA (c:=c) (z:=z) (rd n) (b:=false) (Uy 40 true _ λi hi=>(LT i _ _ λ_=>ą _).1 hi) h [] (λp hp=>nomatch hp) ok
end
end Lq
namespace Mine
def qi(c:List Nat)(z:List Int)(n:Nat)(ok:Lq.chk n=true):(Lq.rd n).dn c z:=Lq.Q c z n ok
def ql(c:List Nat)(n:Nat)(ok:Lq.chk n=true):(Lq.rd n).dn c []:=Lq.Q c [] n ok
end Mine
local macro_rules
 | `(tactic| exists[$a,*],[$b,*],$n,$h,*)=>`(tactic| exact Mine.qi [$a,*] [$b,*] $n (by rfl') $h*)
local macro_rules
 | `(tactic| exists[$a,*],$n:num,$h,*)=>`(tactic| exact Mine.ql [$a,*] $n (by rfl') $h*)
local macro_rules
 | `(tactic| exists[$a,*],$n:num)=>`(tactic| exact Mine.ql [$a,*] $n (by rfl'))
section
open PySem PySem.W PyProof.Rows PySem.Spec PySem.Calls
namespace Mine
set_option genInjectivity true in
inductive AE where
 | int (i:Int)
 | str (s:Str)
deriving DecidableEq
inductive SK where
 | tup | lst | mat
deriving DecidableEq
inductive Bi where
 | len | range | set | enumerate | sum | append | pop | sort | get | setdefault | has | tnew | tuple | list | map | extend | divmod | min | sorted | index | max
noncomputable def Bi.val(b:Bi):Value:=match b with
 | .len=>.builtin "len"
 | .range=>.type "range"
 | .set=>.type "set"
 | .enumerate=>.type "enumerate"
 | .sum=>.builtin "sum"
 | .append=>.builtin "list.append"
 | .pop=>.builtin "list.pop"
 | .sort=>.builtin "list.sort"
 | .get=>.builtin "dict.get"
 | .setdefault=>.builtin "dict.setdefault"
 | .has=>.builtin "set.__contains__"
 | .tnew=>.builtin "tuple.__new__"
 | .tuple=>.type "tuple"
 | .list=>.type "list"
 | .map=>.type "map"
 | .extend=>.builtin "list.extend"
 | .divmod=>.builtin "divmod"
 | .min=>.builtin "min"
 | .sorted=>.builtin "sorted"
 | .index=>.builtin "list.index"
 | .max=>.builtin "max"
inductive AV where
 | none
 | bool (b:Bool)
 | key (k:AE)
 | seq (k:SK) (vs:List AV)
 | ref (x:Nat)
 | fn (b:Bi)
 | glo (a:É)
 | bm (f:Bi) (x:AV)
 | dct (es:List (AE×AV))
 | fset (xs:List AE)
noncomputable abbrev AV.int(i:Int):AV:=.key (.int i)
noncomputable abbrev AV.str(s:Str):AV:=.key (.str s)
noncomputable abbrev AV.tup(vs:List AV):AV:=.seq .tup vs
noncomputable abbrev AV.lst(vs:List AV):AV:=.seq .lst vs
noncomputable abbrev AV.mat(vs:List AV):AV:=.seq .mat vs
inductive AO where
 | list (vs:List AV)
 | dict (es:List (AE×AV))
 | set (xs:List AE)
 | inst (C:É) (attrs:List (Str×AV))
structure St where
 ρ:List (Str×AV)
 H:List (Nat×AO)
 n:Nat
 anc:Nat
inductive AQ where
 | loc
 | lock
 | cell (x:Str)
 | obj (x:Nat)
 | dict (x:Nat)
structure Gh where
 tag:É->Option AQ
 μ:Nat->É
 δ:Nat->É
def Gh.own(G:Gh)(a:É):Prop:=G.tag a≠none
def Gh.mt(G:Gh)(a:É):Prop:=∃p,G.tag a=some p/\p≠.lock
def A3{G:Gh}{a:É}{p:AQ}(h:G.tag a=some p):G.own a:=λz=>Option.noConfusion rfl (heq_of_eq (h.symm.trans z))
def Gh.mt_own{G:Gh}{a:É}(h:G.mt a):G.own a:=h.elim λ_ e=>A3 e.1
noncomputable def At:AE->Value->Bool
 | .int i,.int j _=>i==j
 | .str s,.str t _=>s==t
 | _,_=>false
noncomputable def An(vs:List Value)(n:Nat):Obj:={cls:=.type "tuple",data:=.seq vs.toArray n}
noncomputable def A1(vs:List Value)(n:Nat):Obj:={cls:=.type "list",data:=.seq vs.toArray n}
noncomputable def BG(C:É)(vs:List Value)(e:Nat×Option É):Obj:={cls:=.ref C,dict:=e.2,data:=.seq vs.toArray e.1}
noncomputable def Co(f v:Value):Obj:={cls:=.type "builtin_function_or_method",data:=.fields #[f,v]}
def BA{i:Int}{v:Value}(h:At (.int i) v=true) :∃t,v = .int i t:=by
 cases v with
 | int j t=>exact⟨t,congrArg (aM0 · t) (å h).symm⟩
 | _=>cases h
def BK{i:Str}{v:Value}(h:At (.str i) v=true) :∃t,v = .str i t:=by
 cases v with
 | str j t=>exact⟨t,congrArg (aM1 · t) (å h).symm⟩
 | _=>cases h
def EB{a b:AE}{v:Value}(ha:At a v=true)(hb:At b v=true):a=b:=by
 cases a with
 | int i=>obtain⟨t,rfl⟩:=BA ha;cases b with
  | int j=>exact congrArg AE.int (å hb).symm
  | str=>cases hb
 | str i=>obtain⟨t,rfl⟩:=BK ha;cases b with
  | int=>cases hb
  | str j=>exact congrArg AE.str (å hb).symm
noncomputable def keyHash(w:Ì):AE->Int
 | .int i=>hashInt i
 | .str s=>hashStr w s
def Tg(i j:Int):(i==j)=decide (AE.int i=AE.int j):=(decide_eq_decide (p:=i=j)).mpr ⟨congrArg AE.int,AE.int.inj⟩
def TD(i j:Str):(i==j)=decide (AE.str i=AE.str j):=aA0.mpr (beq_iff_eq.trans (Iff.trans ⟨congrArg AE.str,AE.str.inj⟩ decide_eq_true_iff.symm))
def MD(prog:þ)(w:Ì){A E s}{a b:AE}{u v:Value}{Q:Bool->zY->Prop}(hu:At a u=true)(hv:At b v=true)(h:Q (decide (a=b)) s):wpAny (model prog w) A (eqBool u v) Q E s:=by
 cases a with
 | int i=>
  obtain⟨t,rfl⟩:=BA hu
  cases b with
  | int j=>
   obtain⟨t',rfl⟩:=BA hv
   exact(intKind prog w).eqBool (aN5 prog w i t) (aN5 prog w j t') ((decide_eq_decide.mpr ⟨congrArg AE.int,AE.int.inj⟩:decide (i=j)=decide (AE.int i=AE.int j))▸h)
  | str j=>
   obtain⟨t',rfl⟩:=BK hv
   exact Δ.int_str i t j t' _ _ _ _ h
 | str i=>
  obtain⟨t,rfl⟩:=BK hu
  cases b with
  | int j=>
   obtain⟨t',rfl⟩:=BA hv
   exact Δ.str_int i t j t' _ _ _ _ h
  | str j=>
   obtain⟨t',rfl⟩:=BK hv
   exact(PySem.strKind prog w).eqBool (aN6 prog w i t) (aN6 prog w j t') ((decide_eq_decide.mpr ⟨congrArg AE.str,AE.str.inj⟩:decide (i=j)=decide (AE.str i=AE.str j))▸h)
def Bx(prog:þ)(w:Ì):PySem.KeyKind prog w AE where
 is:=At
 hash:=keyHash w
 inj:=λv a b ha hb=>EB ha hb
 byValue:=λk v h=>by
  cases k with
  | int i=>obtain⟨t,rfl⟩:=BA h;rfl
  | str i=>obtain⟨t,rfl⟩:=BK h;rfl
 pyHash:=λ{A E s k v Q} hv h=>by
  cases k with
  | int i=>obtain⟨t,rfl⟩:=BA hv;exact(intKind prog w).pyHash (aN5 prog w i t) h
  | str i=>obtain⟨t,rfl⟩:=BK hv;exact(PySem.strKind prog w).pyHash (aN6 prog w i t) h
 eqBool:=λhu hv h=>MD prog w hu hv h
 «strs»:=λk x t v h=>by
  cases k with
  | int i=>cases h
  | str i=>
   obtain rfl:i=x:=å h
   cases v with
   | str j u=>exact Bool.beq_comm
   | _=>rfl
structure Cd where
 prog:þ
 w:Ì
 C:É
section
variable(L:Cd)(h:æ)(a:É)
def SK.cls(k:SK):Value:=SK.rec (.type "tuple") (.type "list") (.ref L.C) k
def SK.dict(k:SK)(d:Option É):Option É:=SK.rec none none d k
def IZ(k:SK)(vs:List Value)(e:Nat×Option É):Obj:={cls:=k.cls L,dict:=k.dict e.2,data:=.seq vs.toArray e.1}
def Cd.sq(k:SK)(vs:List Value):Prop:=∃e,h.get? a=some (IZ L k vs e)
def Cd.dct(kvs:List (AE×Value)):Prop:=h.DictOf (Bx L.prog L.w) a kvs/\(a==sysModules)=false
def Cd.set(ks:List AE):Prop:=h.SetOf (Bx L.prog L.w) a (λk=>decide (k∈ks)) ks.length/\ks.Nodup
end
structure L8(P:æ->É->Prop):Prop where
 inn :∀{h a},P h a->∃o,h.get? a=some o
 keep :∀{h h':æ} {a},(∀o,h.get? a=some o->h'.get? a=some o)->P h a->P h' a
def L8.at(f:É->Obj->Prop):L8 λh a=>∃o,h.get? a=some o/\f a o:=⟨λq=>q.imp λ_ e=>e.1,λk q=>q.imp λ_ e=>⟨k _ e.1,e.2⟩⟩
section
variable{L:Cd}
def Ia(k:SK)(vs:List Value):L8 λh a=>L.sq h a k vs:=⟨λq=>q.elim λ_ e=>⟨_,e⟩,λk q=>q.imp λ_ e=>k _ e⟩
def K1(vs:List (AE×Value)):L8 λh a=>L.dct h a vs:=⟨λq=>q.1.imp λ_ x=>x.elim λ_ x=>x.elim λ_ x=>x.1,λk q=>⟨q.1.at k,q.2⟩⟩
def KD(ks:List AE):L8 λh a=>L.set h a ks:=⟨λq=>q.1.objOf.imp λ_ x=>x.1,λk q=>⟨q.1.imp λ_ x=>x.imp λ_ x=>x.imp λ_ x=>x.imp λ_ x=>⟨k _ x.1,x.2⟩,q.2⟩⟩
def Tm(f v:Value):L8 λh a=>h.get? a=some (Co f v):=⟨λe=>⟨_,e⟩,λk e=>k _ e⟩
end
inductive Ei{β:Type}(P:É->β->Prop)(G:Gh)(R:β->Prop)(v:Value):Prop
 | mk (a:É) (b:β) (hv:v = .ref a) (hp:P a b) (ho:¬ G.own a) (hr:R b)
def Cj(G:Gh)(h:æ)(G':Gh)(h':æ):Prop:=∀a o,h.get? a=some o->¬ G.own a->h'.get? a=some o/\¬ G'.own a
def Ei.imp{β:Type}{P:β->æ->É->Prop}{G G':Gh}{h h':æ}{R R':β->Prop}{v:Value}(t :∀b,L8 (P b))(k:Cj G h G' h')(r :∀b,R b->R' b)(q:Ei (λa b=>P b h a) G R v):Ei (λa b=>P b h' a) G' R' v:=
 q.casesOn λa b hv hp ho hr=>⟨a,b,hv,(t b).keep (λo e=>(k a o e ho).1) hp,((t b).inn hp).elim λo e=>(k a o e ho).2,r b hr⟩
section
variable(L:Cd)(G:Gh)(h:æ)(n:Nat)
mutual
def VRel:AV->Value->Prop
 | .none,v=>v = .none
 | .bool b,v=>v = .bool b
 | .key k,v=>At k v=true
 | .seq k avs,v=>Ei (λa us=>L.sq h a k us) G (VAll avs) v
 | .ref x,v=>v = .ref (G.μ x)/\x<n
 | .fn b,v=>v=b.val
 | .glo a,v=>v = .ref a
 | .bm f x,v=>Ei (λa u=>h.get? a=some (Co f.val u)) G (VRel x) v
 | .dct es,v=>Ei (L.dct h) G (VDict es) v
 | .fset ks,v=>Ei (λa (_:Unit)=>L.set h a ks) G (λ_=>True) v
def VAll:List AV->List Value->Prop
 | [],vs=>vs=[]
 | a::as,vs=>∃v r,vs=v::r/\VRel a v/\VAll as r
def VDict:List (AE×AV)->List (AE×Value)->Prop
 | [],vs=>vs=[]
 | a::as,vs=>∃v r,vs=(a.1,v)::r/\VPair a v/\VDict as r
def VPair:AE×AV->Value->Prop
 | (_,a),v=>VRel a v
end
end
section
variable(g:Nat->Option AV)
mutual
noncomputable def AV.sub:AV->Option AV
 | .ref x=>g x
 | .seq k vs=>(subAll vs).map (.seq k)
 | .bm f x=>x.sub.map (.bm f)
 | .dct es=>(subDict es).map .dct
 | v=>some v
noncomputable def subAll:List AV->Option (List AV)
 | []=>some []
 | a::r=>a.sub.bind λa'=>(subAll r).map (a' :: ·)
noncomputable def subDict:List (AE×AV)->Option (List (AE×AV))
 | []=>some []
 | a::r=>(subPair a).bind λa'=>(subDict r).map ((a.1,a') :: ·)
noncomputable def subPair:AE×AV->Option AV
 | (_,a)=>a.sub
end
end
noncomputable def AH(g:Nat->Option AV):List (Str×AV)->Option (List (Str×AV))
 | []=>some []
 | a::r=>(a.2.sub g).bind λa'=>(AH g r).map ((a.1,a') :: ·)
def AO.sub(g:Nat->Option AV):AO->Option AO
 | .list vs=>(subAll g vs).map .list
 | .dict es=>(subDict g es).map .dict
 | .inst C at_=>(AH g at_).map (.inst C)
 | o=>some o
def map_some{α β:Type}{f:α->β}{o:Option α}{b:β}(h:o.map f=some b) :∃a,o=some a/\f a=b:=by
 cases o with
 | none=>cases h
 | some a=>exact⟨a,rfl,zR h⟩
def bind_some{α β:Type}{f:α->Option β}{o:Option α}{b:β}(h:o.bind f=some b) :∃a,o=some a/\f a=some b:=by
 cases o with
 | none=>cases h
 | some a=>exact⟨a,rfl,h⟩
def DG{α β:Type}{f:α->β}{P:β->Prop}{o:Option α}{b:β}(h:o.map f=some b)(k :∀a,o=some a->P (f a)):P b:=by
 obtain⟨a,e,rfl⟩:=map_some h
 exact k a e
def Ic{α β γ:Type}{f:α->β}{P:β->γ->Prop}{o:Option α}{b:β}{c:γ}(h:o.map f=some b)(k :∀a,o=some a->P (f a) c):P b c:=DG (P:=(P · c)) h k
def FH{β γ:Type}{f:β->γ}{o:Option β}{l:Option (List γ)}{b:List γ}{δ:Type}{P:List γ->δ->Prop}{c:δ}(h:(o.bind λa=>l.map (f a :: ·))=some b)(k :∀a r,o=some a->l=some r->P (f a::r) c):P b c:=by
 obtain⟨a,e,h⟩:=bind_some h
 obtain⟨r,e',rfl⟩:=map_some h
 exact k a r e e'
section
variable{L:Cd}{G G':Gh}{h h':æ}{n n':Nat}{g:Nat->Option AV}(k:Cj G h G' h')(hg :∀x w,g x=some w->x<n->VRel L G' h' n' w (.ref (G.μ x)))
include k hg
theorem VRel.sub(av:AV) :∀av' v,av.sub g=some av'->VRel L G h n av v->VRel L G' h' n' av' v:=by
 refine AV.rec (motive_1:=λav=>∀av' v,av.sub g=some av'->VRel L G h n av v->VRel L G' h' n' av' v) (motive_2:=λas=>∀as' vs,subAll g as=some as'->VAll L G h n as vs->VAll L G' h' n' as' vs)
  (motive_3:=λas=>∀as' vs,subDict g as=some as'->VDict L G h n as vs->VDict L G' h' n' as' vs) (motive_4:=λp=>∀a' v,subPair g p=some a'->VPair L G h n p v->VRel L G' h' n' a' v)
  (λ_ _ e=>zR e▸id) (λ_ _ _ e=>zR e▸id) (λ_ _ _ e=>zR e▸id) (λkd vs ih av' v e q=>Ic e λas e=>Ei.imp (Ia kd) k (λb=>ih as b e) q) (λx av' v e q=>?_) (λ_ _ _ e=>zR e▸id) (λ_ _ _ e=>zR e▸id) (λf x ih av' v e q=>Ic e λas e=>Ei.imp (Tm f.val) k (λb=>ih as b e) q)
  (λvs ih av' v e q=>Ic e λas e=>Ei.imp K1 k (λb=>ih as b e) q) (λks av' v e q=>zR e▸Ei.imp (λ_=>KD ks) k (λ_=>id) q)
  (λ_ _ e=>zR e▸id) (λa r i1 i2 as' vs e q=>?_) (λ_ _ e=>zR e▸id) (λa r i1 i2 as' vs e q=>?_) (λkey a ih=>ih) av
 ·have q:v = .ref (G.μ x)/\x<n:=q
  rw[q.1]
  exact hg x av' e q.2
 ·exact FH e λa' r' e1 e2=>q.imp λv q=>q.imp λu q=>⟨q.1,i1 a' v e1 q.2.1,i2 r' u e2 q.2.2⟩
 ·exact FH e λa' r' e1 e2=>q.imp λv q=>q.imp λu q=>⟨q.1,i1 a' v e1 q.2.1,i2 r' u e2 q.2.2⟩
theorem VAll.sub{as as':List AV}{vs:List Value}(e:subAll g as=some as')(q:VAll L G h n as vs):VAll L G' h' n' as' vs:=
 Ä (motive:=λas=>∀as' vs,subAll g as=some as'->VAll L G h n as vs->VAll L G' h' n' as' vs) (λ_ _ e=>zR e▸id)
  (λa r ih as' vs e q=>FH e λa' r' e1 e2=>q.imp λv q=>q.imp λu q=>⟨q.1,VRel.sub k hg a a' v e1 q.2.1,ih r' u e2 q.2.2⟩) as as' vs e q
theorem VDict.sub{as as':List (AE×AV)}{vs:List (AE×Value)}(e:subDict g as=some as')(q:VDict L G h n as vs):VDict L G' h' n' as' vs:=
 Ä (motive:=λas=>∀as' vs,subDict g as=some as'->VDict L G h n as vs->VDict L G' h' n' as' vs) (λ_ _ e=>zR e▸id)
  (λa r ih as' vs e q=>by obtain⟨key,a⟩:=a;exact FH e λa' r' e1 e2=>q.imp λv q=>q.imp λu q=>⟨q.1,VRel.sub k hg a a' v e1 q.2.1,ih r' u e2 q.2.2⟩) as as' vs e q
end
section
variable(L:Cd)(G:Gh)(h:æ)(n:Nat)
def AT:List (Str×AV)->List Ŋ->Prop
 | [],l=>l=[]
 | a::r,l=>∃hsh t v l',l=⟨hsh,.str a.1 t,v⟩::l'/\VRel L G h n a.2 v/\AT r l'
inductive Jj{β:Type}(P R:β->Prop):Prop
 | mk (b:β) (hp:P b) (hr:R b)
inductive Zq(x:Nat)(C:É)(R:List Ŋ->Prop):Prop
 | mk (es:List Ŋ) (e:Nat) (h1:h.get? (G.μ x)=some (instObj C (G.δ x))) (h2:h.get? (G.δ x)=some (dictOf es e)) (hr:R es) (ht:G.tag (G.δ x)=some (.dict x))
def DK(x:Nat):AO->Prop
 | .list avs=>Jj (λus=>L.sq h (G.μ x) .lst us) (VAll L G h n avs)
 | .dict es=>Jj (L.dct h (G.μ x)) (VDict L G h n es)
 | .set ks=>L.set h (G.μ x) ks
 | .inst C attrs=>Zq G h x C (AT L G h n attrs)
end
noncomputable def AO.two:AO->Bool
 | .inst ..=>true
 | _=>false
def Jj.imp{β:Type}{P P' R R':β->Prop}(k :∀b,P b->P' b)(r :∀b,R b->R' b)(q:Jj P R):Jj P' R':=q.casesOn λb hp hr=>⟨b,k b hp,r b hr⟩
section
variable{L:Cd}{G G':Gh}{h h':æ}{n n':Nat}{g:Nat->Option AV}
theorem AT.sub(k:Cj G h G' h')(hg :∀x w,g x=some w->x<n->VRel L G' h' n' w (.ref (G.μ x))){as as':List (Str×AV)}{es:List Ŋ}(e:AH g as=some as')(q:AT L G h n as es):AT L G' h' n' as' es:=
 Ä (motive:=λas=>∀as' vs,AH g as=some as'->AT L G h n as vs->AT L G' h' n' as' vs) (λ_ _ e=>zR e▸id)
  (λa r ih as' vs e q=>FH (f:=λa'=>(a.1,a')) e λa' r' e1 e2=>q.imp λ_ q=>q.imp λ_ q=>q.imp λv q=>q.imp λu q=>⟨q.1,VRel.sub k hg a.2 a' v e1 q.2.1,ih r' u e2 q.2.2⟩) as as' es e q
theorem DK.sub(k:Cj G h G' h')(hg :∀x w,g x=some w->x<n->VRel L G' h' n' w (.ref (G.μ x))){x y:Nat}(e1:G'.μ y=G.μ x)(e2:G'.δ y=G.δ x)
  (h1 :∀o,h.get? (G.μ x)=some o->h'.get? (G.μ x)=some o) (h2:G.tag (G.δ x)=some (.dict x)->(∀o,h.get? (G.δ x)=some o->h'.get? (G.δ x)=some o)/\G'.tag (G.δ x)=some (.dict y)) :
  ∀(o o':AO),o.sub g=some o'->DK L G h n x o->DK L G' h' n' y o':=by
 intro o o' e q
 cases o with
 | list vs=>exact DG e λvs' e=>Jj.imp (λb p=>e1.symm▸(Ia .lst b).keep h1 p) (λb r=>VAll.sub k hg e r) q
 | dict vs=>exact DG e λvs' e=>Jj.imp (λb p=>e1.symm▸(K1 b).keep h1 p) (λb r=>VDict.sub k hg e r) q
 | set ks=>exact zR e▸(e1.symm▸(KD ks).keep h1 q:L.set h' (G'.μ y) ks)
 | inst C at_=>exact DG e λvs' e=>q.casesOn λes z q1 q2 q3 q4=>⟨es,z,by rw[e1,e2];exact h1 _ q1,e2.symm▸(h2 q4).1 _ q2,AT.sub k hg e q3,e2.symm▸(h2 q4).2⟩
def DK.tagd{y:Nat}{o:AO}(q:DK L G h n y o)(ho:o.two=true):G.tag (G.δ y)=some (.dict y):=by
 cases o with
 | inst C at_=>exact q.casesOn λ_ _ _ _ _ t=>t
 | _=>cases ho
end
def Cr{α β:Type}{o:Option β}{l:Option (List α)}{f:β->α}{a:β}{r:List α}(h1:o=some a)(h2:l=some r):(o.bind λa=>l.map (f a :: ·))=some (f a::r):=by rw[h1,h2];rfl
def sub_id(av:AV):av.sub (λx=>some (.ref x))=some av:=
 AV.rec (motive_1:=λav=>av.sub (λx=>some (.ref x))=some av) (motive_2:=λas=>subAll (λx=>some (.ref x)) as=some as)
  (motive_3:=λas=>subDict (λx=>some (.ref x)) as=some as) (motive_4:=λp=>subPair (λx=>some (.ref x)) p=some p.2)
  rfl (λ_=>rfl) (λ_=>rfl) (λk _=>congrArg (Ñ (AV.seq k))) (λ_=>rfl) (λ_=>rfl) (λ_=>rfl)
  (λf _=>congrArg (Ñ (AV.bm f))) (λ_=>congrArg (Ñ AV.dct)) (λ_=>rfl) rfl (λa r i1 i2=>Cr i1 i2) rfl (λa r i1 i2=>Cr (f:=λb=>(a.1,b)) i1 i2) (λ_ _ ih=>ih) av
def ER(as:List AV):subAll (λx=>some (.ref x)) as=some as:=Ä rfl (λa r ih=>Cr (sub_id a) ih) as
def Gy(as:List (AE×AV)):subDict (λx=>some (.ref x)) as=some as:=Ä rfl (λa r ih=>by obtain⟨key,a⟩:=a;exact Cr (f:=λb=>(key,b)) (sub_id a) ih) as
def Fk(as:List (Str×AV)):AH (λx=>some (.ref x)) as=some as:=Ä rfl (λa r ih=>Cr (f:=λb=>(a.1,b)) (sub_id a.2) ih) as
def AO.sub_id :∀o:AO,o.sub (λx=>some (.ref x))=some o:=λo=>by
 cases o with
 | list vs=>exact congrArg (Ñ AO.list) (ER vs)
 | dict vs=>exact congrArg (Ñ AO.dict) (Gy vs)
 | inst C vs=>exact congrArg (Ñ (AO.inst C)) (Fk vs)
 | _=>rfl
section
variable{α β:Type} [BEq α] [LawfulBEq α]
def AP(l:List (α×β))(x:α)(v:β):List (α×β):=Ä [(x,v)] (λp r ih=>bif p.1==x then(p.1,v)::r else p::ih) l
def AU(y:α)(p:α×β)(r:List (α×β)):(p::r).lookup y=bif y==p.1 then some p.2 else r.lookup y:=by
 show(match y==p.1 with | true=>_ | false=>_)=_
 cases y==p.1<;>rfl
def Dv(x y:α)(v:β)(l:List (α×β)):(AP l x v).lookup y=bif y==x then some v else l.lookup y:=by
 refine Ä (AU y (x,v) []) (λp r ih=>?_) l
 show(bif p.1==x then(p.1,v)::r else p::AP r x v).lookup y=_
 rw[AU]
 cases hp:p.1==x with
 | true=>
  rw[<-å hp]
  refine(AU y (p.1,v) r).trans ?_
  cases y==p.1<;>rfl
 | false=>
  refine(AU y p _).trans ?_
  rw[ih]
  cases hy:y==p.1 with
  | true=>rw[å hy,hp];rfl
  | false=>rfl
def C3{l:List (α×β)}{x y:α}{v w:β}{P:Prop}(h:(AP l x v).lookup y=some w)(a:y=x->v=w->P)(b:y≠x->l.lookup y=some w->P):P:=by
 rw[Dv]at h
 cases hy:y==x with
 | true=>rw[hy]at h;exact a (å hy) (zR h)
 | false=>rw[hy]at h;exact b (ne_of_beq_false hy) h
end
def St.put(σ:St)(x:Str)(v:AV):St:=⟨AP σ.ρ x v,σ.H,σ.n,σ.anc⟩
def St.set(σ:St)(x:Nat)(o:AO):St:=⟨σ.ρ,AP σ.H x o,σ.n,σ.anc⟩
def St.new(σ:St)(o:AO):St:=⟨σ.ρ,AP σ.H σ.n o,σ.n+1,σ.anc⟩
structure Kp(G:Gh)(h:æ)(G':Gh)(h':æ):Prop where
 keep :∀a o,h.get? a=some o->¬ G.mt a->h'.get? a=some o
 own :∀a,G'.own a->G.own a\/h.objs.size<=a
 mt :∀a,G'.mt a->G.mt a\/h.objs.size<=a
 size:h.objs.size<=h'.objs.size
 lock :∀a,G.tag a=some .lock->G'.tag a=some .lock
def CP{h:æ}{a:É}{o:Obj}{P:Prop}(e:h.get? a=some o)(w:h.objs.size<=a):P:=absurd (ğ e) (Đ.mpr w)
def Kp.off{G G':Gh}{h h':æ}(k:Kp G h G' h'){a:É}{o:Obj}(e:h.get? a=some o)(q:¬ G.own a):¬ G'.own a:=λz=>(k.own a z).elim q (CP e)
def Kp.offm{G G':Gh}{h h':æ}(k:Kp G h G' h'){a:É}{o:Obj}(e:h.get? a=some o)(q:¬ G.mt a):¬ G'.mt a:=λz=>(k.mt a z).elim q (CP e)
def Kp.still{G G':Gh}{h h':æ}(k:Kp G h G' h'):Cj G h G' h':=λa o e q=>⟨k.keep a o e λz=>q (Gh.mt_own z),k.off e q⟩
def Kp.refl(G:Gh)(h:æ):Kp G h G h:=⟨λ_ _ e _=>e,λ_=>.inl,λ_=>.inl,zX _,λ_=>id⟩
def Kp.trans{G₁ G₂ G₃:Gh}{h₁ h₂ h₃:æ}(a:Kp G₁ h₁ G₂ h₂)(b:Kp G₂ h₂ G₃ h₃):Kp G₁ h₁ G₃ h₃:=
 ⟨λx o e q=>b.keep x o (a.keep x o e q) (a.offm e q),λx e=>(b.own x e).elim (a.own x) λz=>.inr (zP a.size z),
  λx e=>(b.mt x e).elim (a.mt x) λz=>.inr (zP a.size z),zP a.size b.size,λx e=>b.lock x (a.lock x e)⟩
def Nm(n:Nat)(G G':Gh):Prop:=∀x,x<n->G'.μ x=G.μ x/\G'.δ x=G.δ x
structure Cx where
 L:Cd
 A:đ
 env:Env
 hs:æ
 h₀:æ
 aG:Gh
 an:Nat
 gens:Array aL5
 os:Š
structure Cf where
 G:Gh
 σ:St
 s:zY
noncomputable def Cf.hp(c:Cf)(σ:St)(h:æ)(t:Nat):Cf:=⟨c.G,σ,{c.s with heap:=h,toks:=t}⟩
def VR(X:Cx)(c:Cf)(a:AV)(v:Value):Prop:=VRel X.L c.G c.s.heap c.σ.n a v
def VA(X:Cx)(c:Cf)(a:List AV)(v:List Value):Prop:=VAll X.L c.G c.s.heap c.σ.n a v
def VD(X:Cx)(c:Cf)(a:List (AE×AV))(v:List (AE×Value)):Prop:=VDict X.L c.G c.s.heap c.σ.n a v
inductive Oq(X:Cx)(c:Cf):Prop
 | mk (m:Str->Option Value) (hm:c.s.heap.Ns X.env.locals m) (r :∀x av,c.σ.ρ.lookup x=some av->X.env.kindOf x=some .local->∃v,m x=some v/\VR X c av v)
inductive Ni(X:Cx)(c:Cf)(x:Str)(a:É):Prop
 | mk (v:Option Value) (hv:c.s.heap.IsCell a v) (r :∀av,c.σ.ρ.lookup x=some av->X.env.kindOf x≠some .local->∃u,v=some u/\VR X c av u)
structure F5(X:Cx)(c:Cf)(x:Nat)(o:AO):Prop where
 lt:x<c.σ.n
 tag:c.G.tag (c.G.μ x)=some (.obj x)
 rel:DK X.L c.G c.s.heap c.σ.n x o
structure RS(X:Cx)(c:Cf):Prop where
 base :∀b o,X.h₀.get? b=some o->c.s.heap.get? b=some o
 keep :∀b o,X.hs.get? b=some o->¬ X.aG.mt b->c.s.heap.get? b=some o
 size:X.hs.objs.size<=c.s.heap.objs.size
 mutHs :∀a,c.G.mt a->X.aG.mt a\/X.hs.objs.size<=a
 ownB :∀a,c.G.own a->X.h₀.objs.size<=a
 ownLt :∀a,c.G.own a->a<c.s.heap.objs.size
 gens:c.s.gens=X.gens
 os:c.s.os=X.os
 loc:Oq X c
 cel :∀x a,X.env.cells.lookup x=some a->Ni X c x a
 celAll :∀x,X.env.kindOf x=some .cell\/X.env.kindOf x=some .free->X.env.cells.lookup x=none->False
 tloc:c.G.tag X.env.locals=some .loc
 tcel :∀x a,X.env.cells.lookup x=some a->c.G.tag a=some (.cell x)
 obj :∀x o,c.σ.H.lookup x=some o->F5 X c x o
 anc:X.an<=c.σ.anc/\c.σ.anc<=c.σ.n/\∀i,i<X.an->c.G.μ i=X.aG.μ i/\c.G.δ i=X.aG.δ i
structure Dr(c c':Cf):Prop where
 still:Cj c.G c.s.heap c'.G c'.s.heap
 nm:Nm c.σ.n c.G c'.G
 n:c.σ.n<=c'.σ.n
structure CX(X:Cx)(c c':Cf):Prop where
 kp:Kp c.G c.s.heap c'.G c'.s.heap
 pre:Dr c c'
 R:RS X c'
theorem Dr.trans{a b c:Cf}(x:Dr a b)(y:Dr b c):Dr a c:=
 ⟨λa o e q=>(x.still a o e q).elim λe q=>y.still a o e q,λz hz=>⟨(y.nm z (zZ hz x.n)).1.trans (x.nm z hz).1,(y.nm z (zZ hz x.n)).2.trans (x.nm z hz).2⟩,zP x.n y.n⟩
theorem CX.trans{X:Cx}{a b c:Cf}(x:CX X a b)(y:CX X b c):CX X a c:=⟨x.kp.trans y.kp,x.pre.trans y.pre,y.R⟩
theorem CX.refl{X:Cx}{c:Cf}(R:RS X c):CX X c c:=⟨.refl _ _,⟨(Kp.refl _ _).still,λ_ _=>⟨rfl,rfl⟩,zX _⟩,R⟩
section
variable{X:Cx}{c c':Cf}(p:Dr c c')
include p
theorem Dr.hg(L:Cd) :∀x w,(λx=>some (AV.ref x)) x=some w->x<c.σ.n->VRel L c'.G c'.s.heap c'.σ.n w (.ref (c.G.μ x)):=λx w e hx=>by
 cases e
 exact⟨congrArg _ (p.nm x hx).1.symm,zZ hx p.n⟩
theorem Dr.v{a:AV}{v:Value}(r:VR X c a v):VR X c' a v:=VRel.sub p.still (p.hg _) a a v (sub_id a) r
theorem Dr.va{a:List AV}{v:List Value}(r:VA X c a v):VA X c' a v:=VAll.sub p.still (p.hg _) (ER a) r
theorem Dr.vd{a:List (AE×AV)}{v:List (AE×Value)}(r:VD X c a v):VD X c' a v:=VDict.sub p.still (p.hg _) (Gy a) r
theorem Dr.loc(e:c'.σ.ρ=c.σ.ρ)(h :∀o,c.s.heap.get? X.env.locals=some o->c'.s.heap.get? X.env.locals=some o)(l:Oq X c):Oq X c':=
 l.casesOn λm hm r=>⟨m,hm.at' h,λx av e1 e2=>(r x av (e▸e1) e2).imp λv q=>⟨q.1,p.v q.2⟩⟩
theorem Dr.cel{x:Str}{a:É}(e:c'.σ.ρ=c.σ.ρ)(h :∀o,c.s.heap.get? a=some o->c'.s.heap.get? a=some o)(l:Ni X c x a):Ni X c' x a:=
 l.casesOn λv hv r=>⟨v,hv.imp λo q=>⟨h o q.1,q.2⟩,λav e1 e2=>(r av (e▸e1) e2).imp λu q=>⟨q.1,p.v q.2⟩⟩
theorem Dr.obj{x:Nat}{o:AO}(t1:c'.G.tag (c.G.μ x)=some (.obj x))(h1 :∀o,c.s.heap.get? (c.G.μ x)=some o->c'.s.heap.get? (c.G.μ x)=some o)
  (h2:c.G.tag (c.G.δ x)=some (.dict x)->(∀o,c.s.heap.get? (c.G.δ x)=some o->c'.s.heap.get? (c.G.δ x)=some o)/\c'.G.tag (c.G.δ x)=some (.dict x)) (q:F5 X c x o):F5 X c' x o:=
 ⟨zZ q.lt p.n,(p.nm x q.lt).1.symm▸t1,DK.sub p.still (p.hg _) (p.nm x q.lt).1 (p.nm x q.lt).2 h1 h2 o o (AO.sub_id o) q.rel⟩
end
def RS.go{X:Cx}{c c':Cf}(R:RS X c)(k:Kp c.G c.s.heap c'.G c'.s.heap)(p:Dr c c')(hl :∀a,c'.G.own a->a<c'.s.heap.objs.size)(hg:c'.s.gens=c.s.gens)(ho:c'.s.os=c.s.os)(ha:c'.σ.anc=c.σ.anc)
  (tl :∀a q,c.G.tag a=some q->c'.G.tag a=some q) (loc:Oq X c') (cel :∀x a,X.env.cells.lookup x=some a->Ni X c' x a) (obj :∀x o,c'.σ.H.lookup x=some o->F5 X c' x o):CX X c c' where
 kp:=k
 pre:=p
 R:={
  base:=λb o e=>k.keep b o (R.base b o e) λz=>CP e (R.ownB b (Gh.mt_own z))
  keep:=λb o e q=>k.keep b o (R.keep b o e q) λz=>(R.mutHs b z).elim q (CP e)
  size:=zP R.size k.size
  mutHs:=λa z=>(k.mt a z).elim (R.mutHs a) λw=>.inr (zP R.size w)
  ownB:=λa z=>(k.own a z).elim (R.ownB a) λw=>zP (Û (Í (R.ownB _ (A3 R.tloc)) (R.ownLt _ (A3 R.tloc)))) w
  ownLt:=hl
  gens:=hg.trans R.gens
  os:=ho.trans R.os
  loc:=loc
  cel:=cel
  celAll:=R.celAll
  tloc:=tl _ _ R.tloc
  tcel:=λx a e=>tl _ _ (R.tcel x a e)
  obj:=obj
  anc:=⟨ha.symm▸R.anc.1,ha.symm▸zP R.anc.2.1 p.n,λi e=>
   have hi:i<c.σ.n:=zZ e (zP R.anc.1 R.anc.2.1)
   ⟨(p.nm i hi).1.trans (R.anc.2.2 i e).1,(p.nm i hi).2.trans (R.anc.2.2 i e).2⟩⟩}
def EG{G:Gh}{a:É}{p:AQ}(h:G.tag a=some p)(hp:p≠.lock):G.mt a:=⟨p,h,hp⟩
def Hc{G:Gh}{a b:É}{p q:AQ}(ha:G.tag a=some p)(hb:G.tag b=some q)(hn:p≠q):a≠b:=λe=>hn (zR ((e▸ha).symm.trans hb))
def Kj(p:AQ):Prop:=p = .loc\/∃y,p = .cell y
def Ec{x:Nat}:¬ Kj (.obj x):=λz=>z.elim (λz=>nomatch z) λz=>z.elim λ_ z=>nomatch z
def EE{x:Nat}:¬ Kj (.dict x):=λz=>z.elim (λz=>nomatch z) λz=>z.elim λ_ z=>nomatch z
section
variable{X:Cx}{c c':Cf}
def RS.gone(R:RS X c):¬ c.G.own c.s.heap.objs.size:=λz=>ò _ (R.ownLt _ z)
def RS.more(R:RS X c)(hk :∀a o,c.s.heap.get? a=some o->c'.s.heap.get? a=some o)(hs:c.s.heap.objs.size<=c'.s.heap.objs.size)(ht :∀a,a<c.s.heap.objs.size->c'.G.tag a=c.G.tag a)
  (hl :∀a,c'.G.own a->a<c'.s.heap.objs.size) (m:Nm c.σ.n c.G c'.G) (hn:c.σ.n<=c'.σ.n) (hg:c'.s.gens=c.s.gens) (ho:c'.s.os=c.s.os) (er:c'.σ.ρ=c.σ.ρ) (ha:c'.σ.anc=c.σ.anc)
  (obj :∀x o,c'.σ.H.lookup x=some o->c.σ.H.lookup x=some o\/(Dr c c'->F5 X c' x o)):CX X c c':=by
 have told :∀a p,c.G.tag a=some p->c'.G.tag a=some p:=λa p e=>(ht a (R.ownLt a (A3 e))).trans e
 have cs :∀{a} {P:Prop},(a<c.s.heap.objs.size->P)->P\/c.s.heap.objs.size<=a:=λ{a P} f=>(aI0 a c.s.heap.objs.size).imp f id
 have k:Kp c.G c.s.heap c'.G c'.s.heap:=⟨λa o e _=>hk a o e,λa e=>cs λl z=>e ((ht a l).trans z),λa e=>cs λl=>e.imp λp q=>⟨(ht a l).symm.trans q.1,q.2⟩,hs,λa=>told a _⟩
 have p:Dr c c':=⟨k.still,m,hn⟩
 exact R.go k p hl hg ho ha told (p.loc er (hk _) R.loc) (λx a e=>p.cel er (hk a) (R.cel x a e)) λx o e=>(obj x o e).elim (λe=>p.obj (told _ _ (R.obj x o e).tag) (hk _) (λz=>⟨hk _,told _ _ z⟩) (R.obj x o e)) λf=>f p
def RS.grow(R:RS X c){h':æ}(t:Nat)(hk :∀a o,c.s.heap.get? a=some o->h'.get? a=some o)(hs:c.s.heap.objs.size<=h'.objs.size):CX X c (c.hp c.σ h' t):=
 R.more hk hs (λ_ _=>rfl) (λa e=>zZ (R.ownLt a e) hs) (λ_ _=>⟨rfl,rfl⟩) (zX _) rfl rfl rfl rfl λ_ _=>.inl
def RS.toks(R:RS X c)(t:Nat):CX X c (c.hp c.σ c.s.heap t):=R.grow t (λ_ _ e=>e) (zX _)
def Cp{h:æ}(o:Obj):h.objs.size<=(h.push o).objs.size:=ä h o▸ć _
theorem RS.push(R:RS X c)(o:Obj)(t:Nat):CX X c (c.hp c.σ (c.s.heap.push o) t):=R.grow t (λ_ _ e=>Ã o e) (Cp o)
def Kp.at{G:Gh}{h h':æ}{a:É}(ha:G.mt a)(hb:ÿ a h h'):Kp G h G h':=⟨λb o e q=>(hb.2 b λz=>q (z▸ha)).trans e,λ_=>.inl,λ_=>.inl,Â hb.1.symm,λ_=>id⟩
theorem Dr.at{a:É}(ha:c.G.mt a){h':æ}{t:Nat}{σ':St}(hb:ÿ a c.s.heap h')(e1:σ'.n=c.σ.n):Dr c (c.hp σ' h' t):=⟨(Kp.at ha hb).still,λ_ _=>⟨rfl,rfl⟩,Â e1.symm⟩
def RS.chg(R:RS X c){a:É}{pl:AQ}(hp:c.G.tag a=some pl)(hl:pl≠.lock){h':æ}{t:Nat}{σ':St}(hb:ÿ a c.s.heap h')(e1:σ'.n=c.σ.n)(e2:σ'.anc=c.σ.anc)
  (loc:Kj pl->Oq X (c.hp σ' h' t)/\∀x a,X.env.cells.lookup x=some a->Ni X (c.hp σ' h' t) x a) (hr:¬ Kj pl->σ'.ρ=c.σ.ρ)
  (obj :∀x o,σ'.H.lookup x=some o->F5 X (c.hp σ' h' t) x o\/pl≠.obj x/\pl≠.dict x/\c.σ.H.lookup x=some o):CX X c (c.hp σ' h' t):=by
 have p:Dr c (c.hp σ' h' t):=.at (EG hp hl) hb e1
 have kk :∀{b q},c.G.tag b=some q->pl≠q->∀o,c.s.heap.get? b=some o->h'.get? b=some o:=λ{b q} hq hn o e=>(hb.2 b (Hc hq hp hn.symm)).trans e
 have lc:Oq X (c.hp σ' h' t)/\∀x a,X.env.cells.lookup x=some a->Ni X (c.hp σ' h' t) x a:=(ł (Kj pl)).elim loc λhc=>⟨p.loc (hr hc) (kk R.tloc λz=>hc (.inl z)) R.loc,λx a e=>p.cel (hr hc) (kk (R.tcel x a e) λz=>hc (.inr ⟨x,z⟩)) (R.cel x a e)⟩
 exact R.go (.at (EG hp hl) hb) p (λb e=>hb.1.symm▸R.ownLt b e) rfl rfl e2 (λ_ _ e=>e) lc.1 lc.2 λx o e=>(obj x o e).elim id λq=>p.obj (R.obj x o q.2.2).tag (kk (R.obj x o q.2.2).tag q.1) (λz=>⟨kk z q.2.1,z⟩) (R.obj x o q.2.2)
def RS.storeLocal(R:RS X c){x:Str}{av:AV}{v:Value}(hx:X.env.kindOf x=some .local)(hv:VR X c av v){m:Str->Option Value}
  (hl :∀x av,c.σ.ρ.lookup x=some av->X.env.kindOf x=some .local->∃v,m x=some v/\VR X c av v)
  {h':æ} {t:Nat} (hn:h'.Ns X.env.locals (λy=>if y=x then some v else m y)) (hb:ÿ X.env.locals c.s.heap h'):CX X c (c.hp (c.σ.put x av) h' t):=by
 have p:Dr c (c.hp (c.σ.put x av) h' t):=.at (EG R.tloc λz=>nomatch z) hb rfl
 refine R.chg R.tloc (λz=>nomatch z) hb rfl rfl (λ_=>⟨⟨_,hn,λy w e1 e2=>?_⟩,λy a e=>?_⟩) (λz=>absurd (.inl rfl) z) λy o e=>.inr ⟨λz=>(nomatch z),λz=>(nomatch z),e⟩
 ·exact C3 e1 (λhy hw=>⟨v,if_pos hy,hw▸p.v hv⟩) λhy e1=>(hl y w e1 e2).imp λu q=>⟨(if_neg hy).trans q.1,p.v q.2⟩
 ·exact(R.cel y a e).casesOn λu hu r=>⟨u,hu.sameBut hb (Hc (R.tcel y a e) R.tloc λz=>nomatch z),λw e1 e2=>C3 e1 (λhy _=>absurd (hy▸hx) e2) λ_ e1=>(r w e1 e2).imp λu q=>⟨q.1,p.v q.2⟩⟩
def RS.storeCell(R:RS X c){x:Str}{a:É}{av:AV}{v:Value}(hx:X.env.kindOf x≠some .local)(hc:X.env.cells.lookup x=some a)(hv:VR X c av v)
  {h':æ} {t:Nat} (hn:h'.IsCell a (some v)) (hb:ÿ a c.s.heap h'):CX X c (c.hp (c.σ.put x av) h' t):=by
 have p:Dr c (c.hp (c.σ.put x av) h' t):=.at (EG (R.tcel x a hc) λz=>nomatch z) hb rfl
 refine R.chg (R.tcel x a hc) (λz=>nomatch z) hb rfl rfl (λ_=>⟨?_,λy b e=>?_⟩) (λz=>absurd (.inr ⟨x,rfl⟩) z) λy o e=>.inr ⟨λz=>(nomatch z),λz=>(nomatch z),e⟩
 ·exact R.loc.casesOn λm hm r=>⟨m,hm.sameBut hb (Hc R.tloc (R.tcel x a hc) λz=>nomatch z),λy w e1 e2=>C3 e1 (λhy _=>absurd (hy▸e2) hx) λ_ e1=>(r y w e1 e2).imp λu q=>⟨q.1,p.v q.2⟩⟩
 ·refine(ł (y=x)).elim (λhy=>⟨some v,zR ((hy▸e).symm.trans hc)▸hn,λw e1 _=>C3 e1 (λ_ hw=>⟨v,rfl,hw▸p.v hv⟩) λz _=>absurd hy z⟩) λhy=>?_
  exact(R.cel y b e).casesOn λu hu r=>⟨u,hu.sameBut hb (Hc (R.tcel y b e) (R.tcel x a hc) λz=>hy (by cases z;rfl)),λw e1 e2=>C3 e1 (λz _=>absurd z hy) λ_ e1=>(r w e1 e2).imp λu q=>⟨q.1,p.v q.2⟩⟩
def RS.setAt(R:RS X c){x:Nat}{o₀ o:AO}(hx:c.σ.H.lookup x=some o₀){a:É}{pl:AQ}(hp:c.G.tag a=some pl)(h2:pl = .obj x\/pl = .dict x){h':æ}{t:Nat}(hb:ÿ a c.s.heap h')
  (hr:Dr c (c.hp (c.σ.set x o) h' t)->DK X.L c.G h' c.σ.n x o):CX X c (c.hp (c.σ.set x o) h' t):=by
 have hl:pl≠.lock:=λz=>h2.elim (λw=>nomatch z.symm.trans w) λw=>nomatch z.symm.trans w
 have no:¬ Kj pl:=h2.elim (λw=>w▸Ec) λw=>w▸EE
 refine R.chg hp hl hb rfl rfl (λz=>absurd z no) (λ_=>rfl) λy o' e=>C3 e (λhy hw=>.inl ?_) λhy e=>.inr ⟨λz=>?_,λz=>?_,e⟩
 ·subst hy;subst hw
  exact⟨(R.obj y o₀ hx).lt,(R.obj y o₀ hx).tag,hr (.at (EG hp hl) hb rfl)⟩
 ·exact h2.elim (λw=>hy (by cases z.symm.trans w;rfl)) λw=>nomatch z.symm.trans w
 ·exact h2.elim (λw=>nomatch z.symm.trans w) λw=>hy (by cases z.symm.trans w;rfl)
def RS.setObj(R:RS X c){x:Nat}{o₀ o:AO}(hx:c.σ.H.lookup x=some o₀){h':æ}{t:Nat}(hb:ÿ (c.G.μ x) c.s.heap h')(hr:Dr c (c.hp (c.σ.set x o) h' t)->DK X.L c.G h' c.σ.n x o):CX X c (c.hp (c.σ.set x o) h' t):=
 R.setAt hx (R.obj x o₀ hx).tag (.inl rfl) hb hr
def RS.setInst(R:RS X c){x:Nat}{o₀ o:AO}(hx:c.σ.H.lookup x=some o₀)(h2:o₀.two=true){h':æ}{t:Nat}(hb:ÿ (c.G.δ x) c.s.heap h')(hr:Dr c (c.hp (c.σ.set x o) h' t)->DK X.L c.G h' c.σ.n x o):CX X c (c.hp (c.σ.set x o) h' t):=
 R.setAt hx ((R.obj x o₀ hx).rel.tagd h2) (.inr rfl) hb hr
def RS.chgs(R:RS X c){S:AQ->Prop}(hS :∀p,S p->∃x,p = .obj x\/p = .dict x)(k :∀b o,c.s.heap.get? b=some o->(∀p,c.G.tag b=some p->¬ S p)->c'.s.heap.get? b=some o)(hs:c.s.heap.objs.size<=c'.s.heap.objs.size)(eG:c'.G=c.G)(hg:c'.s.gens=c.s.gens)(ho:c'.s.os=c.s.os)
  (er:c'.σ.ρ=c.σ.ρ) (en:c'.σ.n=c.σ.n) (ea:c'.σ.anc=c.σ.anc) (obj :∀x o,c'.σ.H.lookup x=some o->(Dr c c'->F5 X c' x o)\/¬ S (.obj x)/\¬ S (.dict x)/\c.σ.H.lookup x=some o):CX X c c':=by
 have tg :∀{a o},c.G.tag a=o->c'.G.tag a=o:=λe=>eG.symm▸e
 have kn :∀{b q},c.G.tag b=some q->¬ S q->∀o,c.s.heap.get? b=some o->c'.s.heap.get? b=some o:=λ{b q} hq hn o e=>k b o e λp hp=>zR (hq.symm.trans hp)▸hn
 have kp:Kp c.G c.s.heap c'.G c'.s.heap:=⟨λa o e q=>k a o e λp hp z=>q ⟨p,hp,λw=>(hS p z).elim λx z=>z.elim (λz=>nomatch w.symm.trans z) λz=>nomatch w.symm.trans z⟩,λa e=>.inl (eG▸e),λa e=>.inl (eG▸e),hs,λa e=>tg e⟩
 have p:Dr c c':=⟨kp.still,λx _=>eG.symm▸⟨rfl,rfl⟩,Â en.symm⟩
 have nl :∀{q},(∀x,q≠.obj x/\q≠.dict x)->¬ S q:=λh z=>(hS _ z).elim λx z=>z.elim (h x).1 (h x).2
 exact R.go kp p (λb e=>zZ (R.ownLt b (eG▸e)) hs) hg ho ea (λa q=>tg) (p.loc er (kn R.tloc (nl λx=>⟨λz=>(nomatch z),λz=>nomatch z⟩)) R.loc) (λx a e=>p.cel er (kn (R.tcel x a e) (nl λx=>⟨λz=>(nomatch z),λz=>nomatch z⟩)) (R.cel x a e))
  λx o e=>(obj x o e).elim (λf=>f p) λq=>p.obj (tg (R.obj x o q.2.2).tag) (kn (R.obj x o q.2.2).tag q.1) (λz=>⟨kn z q.2.1,tg z⟩) (R.obj x o q.2.2)
end
noncomputable def Gh.put(G:Gh)(a:É)(p:AQ):Gh:=⟨λb=>bif b==a then some p else G.tag b,G.μ,G.δ⟩
def Gh.put_at{G:Gh}{a:É}{p:AQ}:(G.put a p).tag a=some p:=congrArg (cond · (some p) (G.tag a)) (beq_self_eq_true a)
def Gh.put_ne{G:Gh}{a b:É}{p:AQ}(h:b≠a):(G.put a p).tag b=G.tag b:=congrArg (cond · (some p) (G.tag b)) (beq_eq_false_iff_ne.mpr h)
def Gh.put_own{G:Gh}{a b:É}{p:AQ}(h:(G.put a p).own b):b=a\/G.own b:=(ł (b=a)).imp id λn z=>h ((Gh.put_ne n).trans z)
noncomputable def Gh.name(G:Gh)(n:Nat)(a d:É):Gh:=⟨G.tag,λx=>bif x==n then a else G.μ x,λx=>bif x==n then d else G.δ x⟩
def Gh.name_mu{G:Gh}{n:Nat}{a d:É}:(G.name n a d).μ n=a:=congrArg (cond · a (G.μ n)) (beq_self_eq_true n)
def Gh.name_de{G:Gh}{n:Nat}{a d:É}:(G.name n a d).δ n=d:=congrArg (cond · d (G.δ n)) (beq_self_eq_true n)
def Gh.name_nm{G:Gh}{n:Nat}{a d:É}:Nm n G (G.name n a d):=λx hx=>⟨congrArg (cond · a (G.μ x)) (beq_eq_false_iff_ne.mpr (ß hx)),congrArg (cond · d (G.δ x)) (beq_eq_false_iff_ne.mpr (ß hx))⟩
section
variable{X:Cx}{c:Cf}
def IY{G:Gh}{h:æ}{n:Nat}(hl :∀a,G.own a->a<h.objs.size)(o:Obj){p:AQ} :∀a,((G.put h.objs.size p).own a)->a<(h.push o).objs.size:=λa e=>by
 rw[ä]
 exact(Gh.put_own e).elim (λz=>z▸Ê _) λz=>ã (hl a z)
def Cf.add(c:Cf)(ao:AO)(o:Obj)(t:Nat):Cf:=⟨(c.G.put c.s.heap.objs.size (.obj c.σ.n)).name c.σ.n c.s.heap.objs.size 0,c.σ.new ao,{c.s with heap:=c.s.heap.push o,toks:=t}⟩
def RS.alloc(R:RS X c){o:Obj}{ao:AO}{t:Nat}(hr:Dr c (c.add ao o t)->(c.add ao o t).G.μ c.σ.n=c.s.heap.objs.size->DK X.L (c.add ao o t).G (c.s.heap.push o) (c.σ.n+1) c.σ.n ao):CX X c (c.add ao o t):=
 R.more (λ_ _ e=>Ã o e) (Cp o) (λa l=>Gh.put_ne (ß l)) (IY (n:=0) R.ownLt o) (λx hx=>Gh.name_nm x hx) (ć _) rfl rfl rfl rfl
  λx o' e=>C3 e (λhx hw=>.inr λp=>hx▸hw▸⟨Ê _,(congrArg _ Gh.name_mu).trans Gh.put_at,hr p Gh.name_mu⟩) λ_ e=>.inl e
def Cf.lck(c:Cf)(o:Obj)(t:Nat):Cf:=⟨c.G.put c.s.heap.objs.size .lock,c.σ,{c.s with heap:=c.s.heap.push o,toks:=t}⟩
theorem RS.lck(R:RS X c)(o:Obj)(t:Nat):CX X c (c.lck o t):=
 R.more (λ_ _ e=>Ã o e) (Cp o) (λa l=>Gh.put_ne (ß l)) (IY (n:=0) R.ownLt o) (λx hx=>⟨rfl,rfl⟩) (zX _) rfl rfl rfl rfl λ_ _=>.inl
def RS.lockAt(R:RS X c){wr:List É}(hI :∀b∈wr,c.G.tag b=some .lock/\X.hs.objs.size<=b){h':æ}{t:Nat}(hk :∀a o,a∉wr->c.s.heap.get? a=some o->h'.get? a=some o)(hs:c.s.heap.objs.size<=h'.objs.size):Dr c (c.hp c.σ h' t)/\RS X (c.hp c.σ h' t):=by
 have ow :∀{a},a∈wr->c.G.own a:=λz=>A3 (hI _ z).1
 have ne :∀{a p},c.G.tag a=some p->p≠.lock->∀o,c.s.heap.get? a=some o->h'.get? a=some o:=λ{a p} e hp o=>hk a o λz=>hp (zR (e.symm.trans (hI a z).1))
 have p:Dr c (c.hp c.σ h' t):=⟨λa o e q=>⟨hk a o (λz=>q (ow z)) e,q⟩,λ_ _=>⟨rfl,rfl⟩,zX _⟩
 exact⟨p,λb o e=>hk b o (λz=>CP e (R.ownB _ (ow z))) (R.base b o e),λb o e q=>hk b o (λz=>CP e (hI b z).2) (R.keep b o e q),zP R.size hs,R.mutHs,R.ownB,λa e=>zZ (R.ownLt a e) hs,R.gens,R.os,
  p.loc rfl (ne R.tloc λz=>nomatch z) R.loc,λx a e=>p.cel rfl (ne (R.tcel x a e) λz=>nomatch z) (R.cel x a e),R.celAll,R.tloc,R.tcel,λx o e=>p.obj (R.obj x o e).tag (ne (R.obj x o e).tag λz=>nomatch z) (λz=>⟨ne z λz=>(nomatch z),z⟩) (R.obj x o e),R.anc⟩
end
def Wp{α:Type}(X:Cx)(t:Sem α)(Q:α->zY->Prop)(s:zY):Prop:=wpAny (model X.L.prog X.L.w) X.A t Q (λ_ _=>False) s
inductive AX{α β:Type}(X:Cx)(rel:Cf->β->α->Prop)(c:Cf)(Q:β->St->Prop)(v:α)(s':zY):Prop
 | mk (G':Gh) (σ':St) (b:β) (x:CX X c ⟨G',σ',s'⟩) (r:rel ⟨G',σ',s'⟩ b v) (q:Q b σ')
def TG{α β:Type}(X:Cx)(rel:Cf->β->α->Prop)(t:Sem α)(σ:St)(Q:β->St->Prop):Prop:=∀G s,RS X ⟨G,σ,s⟩->Wp X t (AX X rel ⟨G,σ,s⟩ Q) s
def KI{α:Type}(_:Cf)(b a:α):Prop:=a=b
def Iv{α β:Type}(_:Cf)(_:β)(_:α):Prop:=True
def TV(X:Cx)(t:Sem Value)(σ:St)(Q:AV->St->Prop):Prop:=TG X (VR X) t σ Q
def TL(X:Cx)(t:Sem (List Value))(σ:St)(Q:List AV->St->Prop):Prop:=TG X (VA X) t σ Q
def TB(X:Cx)(t:Sem Bool)(σ:St)(Q:Bool->St->Prop):Prop:=TG X KI t σ Q
def Go(X:Cx)(c:Cf)(Q:AV->St->Prop)(t:Sem Value):Prop:=Wp X t (AX X (VR X) c Q) c.s
def Ev(X:Cx)(c:Cf)(Q:St->Prop)(t:Sem Unit):Prop:=Wp X t (AX X (β:=Unit) Iv c λ_=>Q) c.s
section
variable{X:Cx}{α β γ ε:Type}
def Wp.mono{t:Sem α}{Q Q':α->zY->Prop}{s:zY}(h:Wp X t Q s)(k :∀v s,Q v s->Q' v s):Wp X t Q' s:=Ĩ h k λ_ _ x=>x
def Wp.any{t:Sem α}{Q Q':α->zY->Prop}{E:Value->zY->Prop}{s:zY}(h:Wp X t Q s)(k :∀v s,Q v s->Q' v s):wpAny (model X.L.prog X.L.w) X.A t Q' E s:=Ĩ h k λ_ _ x=>x.elim
def Wp.bind{t:Sem α}{f:α->Sem γ}{Q:γ->zY->Prop}{s:zY}(h:Wp X t (λv s=>Wp X (f v) Q s) s):Wp X (t >>= f) Q s:=zS h
def Wp.hold{t:Sem α}{vs:List Value}{Q:α->zY->Prop}{s:zY}(h:Wp X t Q s):Wp X (holding vs t) Q s:=ā h
theorem Wp.pure{v:α}{Q:α->zY->Prop}{s:zY}(h:Q v s):Wp X (Pure.pure v) Q s:=zW h
def AX.lift{rel:Cf->β->α->Prop}{c c':Cf}{Q:β->St->Prop}{v:α}{s':zY}(x:CX X c c')(p:AX X rel c' Q v s'):AX X rel c Q v s':=p.casesOn λG σ b y r q=>⟨G,σ,b,x.trans y,r,q⟩
def AX.here{rel:Cf->β->α->Prop}{c:Cf}{Q:β->St->Prop}{v:α}{b:β}(R:RS X c)(r:rel c b v)(q:Q b c.σ):AX X rel c Q v c.s:=⟨c.G,c.σ,b,.refl R,r,q⟩
def AX.to{rel:Cf->β->α->Prop}{c c':Cf}{Q:β->St->Prop}{v:α}{b:β}(x:CX X c c')(r:rel c' b v)(q:Q b c'.σ):AX X rel c Q v c'.s:=⟨c'.G,c'.σ,b,x,r,q⟩
def AX.up{rel:Cf->β->α->Prop}{c c':Cf}{Q:β->St->Prop}{t:Sem α}{s:zY}(h:Wp X t (AX X rel c' Q) s)(x:CX X c c'):Wp X t (AX X rel c Q) s:=h.mono λ_ _ p=>p.lift x
theorem TG.mono{rel:Cf->β->α->Prop}{t:Sem α}{σ:St}{Q Q':β->St->Prop}(h:TG X rel t σ Q)(k :∀b σ,Q b σ->Q' b σ):TG X rel t σ Q':=λG s R=>(h G s R).mono λ_ _ p=>p.casesOn λG σ b y r q=>⟨G,σ,b,y,r,k _ _ q⟩
def TG.go{rel:Cf->β->α->Prop}{t:Sem α}{c:Cf}{P:β->St->Prop}{f:α->zY->Prop}(h:TG X rel t c.σ P)(R:RS X c)(hf :∀b c₁ a,P b c₁.σ->CX X c c₁->rel c₁ b a->f a c₁.s):Wp X t f c.s:=
 (h c.G c.s R).mono λa s₁ p=>p.casesOn λG σ b y r q=>hf b ⟨G,σ,s₁⟩ a q y r
end
def A9{α:Type}(o:Option α)(k:α->Prop):Prop:=Ö False k o
def AD{α:Type}{o:Option α}{k:α->Prop}{P:Prop}(h:A9 o k)(f :∀a,o=some a->k a->P):P:=by
 cases o with
 | none=>exact h.elim
 | some a=>exact f a rfl h
def EK(c:Bool)(P:Prop):Prop:=Ĕ False P c
def A6{c:Bool}{P:Prop}(h:EK c P):c=true/\P:=by
 cases c with
 | true=>exact⟨rfl,h⟩
 | false=>exact h.elim
def AN{a b:Bool}(h:(a&&b)=true):a=true/\b=true:=ê.mp h
noncomputable def BR:AV->Option AE
 | .key k=>some k
 | _=>none
noncomputable def AE.toInt:AE->Option Int
 | .int i=>some i
 | .str _=>none
def Aw(a:AV):Option Int:=(BR a).bind AE.toInt
noncomputable def AO.lst:AO->Option (List AV)
 | .list vs=>some vs
 | _=>none
noncomputable def D0(σ:St):AV->Option (Nat×AO)
 | .ref x=>(σ.H.lookup x).map (x,·)
 | _=>none
def objOf(σ:St)(a:AV):Option AO:=(D0 σ a).map (·.2)
def Ak(σ:St)(a:AV):Option (List AV):=match a with
 | .seq .lst vs=>some vs
 | a=>(objOf σ a).bind AO.lst
def AC(n:Nat):Prop:=n<=1000000
def AC.line{n m:Nat}(h:AC n)(e:m=n):m<=sizeLine:=e▸zP h (by decide)
def AA{α:Type}{a:α}{P:Prop}(e:none=some a):P:=Option.noConfusion rfl (heq_of_eq e)
def FL{P:AV->Prop}{a:AV}{k:AE}(e:BR a=some k)(f:P (.key k)):P a:=
 AV.casesOn (motive_1:=λa=>BR a=some k->P a) a AA (λ_=>AA) (λ_ e=>zR e▸f) (λ_ _=>AA) (λ_=>AA) (λ_=>AA) (λ_=>AA) (λ_ _=>AA) (λ_=>AA) (λ_=>AA) e
def Qw{P:AV->Prop}{a:AV}{i:Int}(e:Aw a=some i)(f:P (.int i)):P a:=by
 obtain⟨k,e1,e2⟩:=bind_some e
 exact FL e1 (AE.casesOn (motive:=λk=>k.toInt=some i->P (.key k)) k (λ_ e=>zR e▸f) (λ_=>AA) e2)
def PI{P:AV->Prop}{σ:St}{a:AV}{q:Nat×AO}(e:D0 σ a=some q)(f:σ.H.lookup q.1=some q.2->P (.ref q.1)):P a:=
 AV.casesOn (motive_1:=λa=>D0 σ a=some q->P a) a AA (λ_=>AA) (λ_=>AA) (λ_ _=>AA) (λx e=>by
  obtain⟨o',e1,rfl⟩:=map_some e
  exact f e1) (λ_=>AA) (λ_=>AA) (λ_ _=>AA) (λ_=>AA) (λ_=>AA) e
def AO.lst_eq{o:AO}{vs:List AV}(e:o.lst=some vs):o = .list vs:=
 AO.casesOn (motive:=λo=>o.lst=some vs->o = .list vs) o (λ_ e=>congrArg _ (zR e)) (λ_=>AA) (λ_=>AA) (λ_ _=>AA) e
section
variable{X:Cx}{c:Cf}
@[elab_as_elim] theorem AM{P:Value->Prop}{a:AV}{i:Int}{v:Value}(e:Aw a=some i)(r:VR X c a v)(f :∀t,P (.int i t)):P v:=by
 obtain⟨t,rfl⟩:=BA (Qw (P:=λa=>VR X c a v->At (.int i) v=true) e id r)
 exact f t
def B6{a:AV}{k:AE}{v:Value}(e:BR a=some k):VR X c a v->At k v=true:=FL (P:=λa=>VR X c a v->At k v=true) e id
def EJ{a:AV}{q:Nat×AO}{v:Value}(e:D0 c.σ a=some q):VR X c a v->v = .ref (c.G.μ q.1)/\c.σ.H.lookup q.1=some q.2:=PI (P:=λa=>VR X c a v->v = .ref (c.G.μ q.1)/\c.σ.H.lookup q.1=some q.2) e λh r=>⟨r.1,h⟩
def H9{a:AV}{o:AO}{v:Value}(e:objOf c.σ a=some o)(R:RS X c)(r:VR X c a v) :∃x,v = .ref (c.G.μ x)/\F5 X c x o:=by
 obtain⟨q,e1,rfl⟩:=map_some e
 exact⟨q.1,(EJ e1 r).1,R.obj q.1 q.2 (EJ e1 r).2⟩
@[elab_as_elim] theorem Af{P:Value->Prop}{a:AV}{vs:List AV}{v:Value}(e:Ak c.σ a=some vs)(R:RS X c)(r:VR X c a v)(f :∀l us k,c.s.heap.get? l=some (A1 us k)->VA X c vs us->P (.ref l)):P v:=by
 have ow :∀{a},VR X c a v->(objOf c.σ a).bind AO.lst=some vs->P v:=λ{a} r e=>by
  obtain⟨o,e1,e2⟩:=bind_some e
  obtain⟨x,rfl,q⟩:=H9 e1 R r
  rw[AO.lst_eq e2]at q
  exact q.rel.casesOn λus hp hr=>hp.elim λk hp=>f _ us k.1 hp hr
 exact AV.casesOn (motive_1:=λa=>VR X c a v->Ak c.σ a=some vs->P v) a ow (λ_=>ow) (λ_=>ow) (λk=>SK.casesOn (motive:=λk=>∀us,VR X c (.seq k us) v->Ak c.σ (.seq k us)=some vs->P v) k (λ_=>ow) (λus r e=>r.casesOn λl us hv hp ho hr=>hp.elim λk hp=>hv▸f l us k.1 hp (zR e▸hr)) λ_=>ow) (λ_=>ow) (λ_=>ow) (λ_=>ow) (λ_ _=>ow) (λ_=>ow) (λ_=>ow) r e
def AX.val{Q:AV->St->Prop}{av:AV}{v:Value}(t:Nat)(R:RS X c)(r:VR X c av v)(q:Q av c.σ):AX X (VR X) c Q v {c.s with toks:=t}:=.to (R.toks t) ((R.toks t).pre.v r) q
theorem AX.int{Q:AV->St->Prop}{i:Int}{u:Tok}(t:Nat)(R:RS X c)(q:Q (.int i) c.σ):AX X (VR X) c Q (.int i u) {c.s with toks:=t}:=.to (b:=AV.int i) (R.toks t) (beq_self_eq_true i) q
def AX.newLst{Q:AV->St->Prop}{vs:List AV}{us:List Value}(t k:Nat)(R:RS X c)(r:VA X c vs us)(q:Q (.lst vs) c.σ):AX X (VR X) c Q (.ref c.s.heap.objs.size) {c.s with heap:=c.s.heap.push (A1 us k),toks:=t}:=
 .to (b:=AV.lst vs) (R.push (A1 us k) t) ⟨_,us,rfl,⟨(k,none),Î _ rfl⟩,R.gone,(R.push (A1 us k) t).pre.va r⟩ q
def AX.newTup{Q:AV->St->Prop}{vs:List AV}{us:List Value}(t k:Nat)(R:RS X c)(r:VA X c vs us)(q:Q (.tup vs) c.σ):AX X (VR X) c Q (.ref c.s.heap.objs.size) {c.s with heap:=c.s.heap.push (An us k),toks:=t}:=
 .to (b:=AV.tup vs) (R.push (An us k) t) ⟨_,us,rfl,⟨(k,none),Î _ rfl⟩,R.gone,(R.push (An us k) t).pre.va r⟩ q
def AX.newList{Q:AV->St->Prop}{vs:List AV}{us:List Value}(t k:Nat)(R:RS X c)(r:VA X c vs us)(q:Q (.ref c.σ.n) (c.σ.new (.list vs))):AX X (VR X) c Q (.ref c.s.heap.objs.size) {c.s with heap:=c.s.heap.push (A1 us k),toks:=t}:=
 .to (c':=c.add (.list vs) (A1 us k) t) (b:=AV.ref c.σ.n) (R.alloc λp e=>⟨us,⟨(k,none),(congrArg _ e).trans (Î _ rfl)⟩,p.va r⟩) ⟨congrArg _ Gh.name_mu.symm,Ê _⟩ q
end
section
variable{L:Cd}{G:Gh}{h:æ}{n:Nat}
def VAll.len{as:List AV}{vs:List Value}(q:VAll L G h n as vs):vs.length=as.length:=
 Ä (motive:=λas=>∀vs,VAll L G h n as vs->vs.length=as.length) (λ_ q=>congrArg _ q) (λa r ih vs q=>q.elim λv q=>q.elim λu q=>(congrArg _ q.1).trans (congrArg Ŝ (ih u q.2.2))) as vs q
def VAll.append{as bs:List AV}{vs us:List Value}(q:VAll L G h n as vs)(r:VAll L G h n bs us):VAll L G h n (as++bs) (vs++us):=
 Ä (motive:=λas=>∀vs,VAll L G h n as vs->VAll L G h n (as++bs) (vs++us)) (λvs q=>(show vs=[]from q).symm▸r) (λa l ih vs q=>q.elim λv q=>q.elim λu q=>⟨v,u++us,congrArg (· ++ us) q.1,q.2.1,ih u q.2.2⟩) as vs q
def VAll.get{as:List AV}{vs:List Value}{i:Nat}{a:AV}(q:VAll L G h n as vs)(e:as[i]?=some a) :∃v,vs[i]?=some v/\VRel L G h n a v:=
 Ä (motive:=λas=>∀vs (i:Nat),VAll L G h n as vs->as[i]?=some a->∃v,vs[i]?=some v/\VRel L G h n a v) (λvs i q e=>nomatch e)
  (λb l ih vs i q e=>q.elim λv q=>q.elim λu q=>by
   rw[q.1]
   cases i with
   | zero=>exact⟨v,rfl,zR e▸q.2.1⟩
   | succ i=>exact ih u i q.2.2 e) as vs i q e
noncomputable def Hp{α:Type}(n:Nat)(l:List α):List α:=Ł [] (λ_ r=>l++r) n
def VAll.rep{as:List AV}{vs:List Value}(q:VAll L G h n as vs)(k:Nat):VAll L G h n (Hp k as) (Hp k vs):=Ł (motive:=λk=>VAll L G h n (Hp k as) (Hp k vs)) rfl (λ_ ih=>q.append ih) k
def OQ{α:Type}(l:List α)(n:Nat) :∀acc:Array α,aN7 (λx1 x2=>x1++x2) acc (aJ4 n l.toArray)=(acc.toList++Hp n l).toArray:=
 Ł (motive:=λn=>∀acc:Array α,aN7 (λx1 x2=>x1++x2) acc (aJ4 n l.toArray)=(acc.toList++Hp n l).toArray) (λacc=>congrArg Ú (Ô acc.toList).symm)
  (λn ih acc=>(ih (acc++l.toArray)).trans (by rw[Array.toList_append,Ï];rfl)) n
def Mu{α:Type}(n:Nat):Hp n ([]:List α)=[]:=Ł rfl (λ_ ih=>ih) n
end
def AK{h:æ}{l:É}{us:List Value}{k:Nat}(e:h.get? l=some (A1 us k)):h.IsList l us.toArray:=⟨_,e,rfl,k,rfl⟩
def B0{h:æ}{l:É}{us:List Value}{k:Nat}(e:h.get? l=some (An us k)):h.IsTuple l us.toArray:=⟨_,e,rfl,k,rfl⟩
section
variable{prog:þ}{w:Ì}{A:đ}{E:Value->zY->Prop}{Q:Value->zY->Prop}{s:zY}{l l':É}{us us':List Value}{k k':Nat}
def OT(h:s.heap.get? l=some (A1 us k))(h':s.heap.get? l'=some (A1 us' k'))(hz:us.length+us'.length<=sizeLine)(q:Q (.ref s.heap.objs.size) {s with heap:=s.heap.push (A1 (us++us') 0)}) :
  wpAny (model prog w) A (binaryOp .Add (.ref l) (.ref l')) Q E s:=
 concat_meets ⟨_,h,rfl⟩ ⟨_,h',rfl⟩ noFill_list_add seq_list_add PySem.F.slot_list_add PySem.F.entry_list_add (PySem.F.args_list_add_2 _ _) (list_addW l l' us.toArray us'.toArray k k' none none #[] #[] hz) ⟨h,h',(List.append_toArray us us').symm▸q⟩
def QR{n:Int}{u:Tok}(h:s.heap.get? l=some (A1 us k))(h1:0<=n)(h2:n<1000000)(hz:us.length*n.toNat<=sizeLine)(q:Q (.ref s.heap.objs.size) {s with heap:=s.heap.push (A1 (Hp n.toNat us) 0)}) :
  wpAny (model prog w) A (binaryOp .Mult (.ref l) (.int n u)) Q E s:=
 wpAny_binaryOp_repeat_ref (T:="list") (U:="int") (by decide) ⟨_,h,rfl⟩ (λs'=>aI1 s' n u) noFill_list_mul PySem.F.fills_int_mul PySem.F.slot_int_rmul repeat_list PySem.F.slot_int_index.lookup
  (aA4 PySem.F.slot_int_rmul (aI1 s n u) PySem.F.entry_int_rmul (PySem.F.args_int_rmul_2 _ _) (int___rmul___int_list n u l us.toArray k)
   ⟨h,rfl,⟨_,h,rfl⟩,aA4 PySem.F.slot_list_mul ⟨_,h,rfl⟩ PySem.F.entry_list_mul (PySem.F.args_list_mul_2 _ _)
    (AutoListH.list___mul___list_int_3 l us.toArray k n u (by simp[Ű];omega) (Đ.mpr (zP hz (by decide))) (by simp[Ψ];exact hz))
    ⟨h,by
     have e:(aN7 (λx1 x2=>x1++x2) #[] (aJ4 (if us.toArray.isEmpty=true then 0 else n.toNat) us.toArray))=(Hp n.toNat us).toArray:=by
      rw[OQ]
      cases us with
      | nil=>exact congrArg Ú ((Mu 0).trans (Mu n.toNat).symm)
      | cons x r=>rfl
     rw[e]
     exact q⟩⟩)
end
def ET(op:aH3)(a b:AV)(σ:St)(Q:AV->St->Prop):Prop:=match op with
 | .Add=>Ö (A9 (Ak σ a) λxs=>A9 (Ak σ b) λys=>AC (xs.length+ys.length)/\Q (.lst (xs++ys)) σ) (λx=>A9 (Aw b) λy=>Q (.int (x+y)) σ) (Aw a)
 | .Mult=>A9 (Aw b) λn=>Ö (A9 (Ak σ a) λxs=>(0<=n/\n<1000000/\AC (xs.length*n.toNat))/\Q (.lst (Hp n.toNat xs)) σ) (λx=>IntMulOk x n/\Q (.int (x*n)) σ) (Aw a)
 | .Sub=>A9 (Aw a) λx=>A9 (Aw b) λy=>Q (.int (x-y)) σ
 | .Mod=>A9 (Aw a) λx=>A9 (Aw b) λy=>y≠0/\Q (.int (x.fmod y)) σ
 | .Pow=>A9 (Aw a) λx=>A9 (Aw b) λy=>(x.natAbs<2 ^ 64/\0<=y/\y<=1000000)/\Q (.int (x ^ y.toNat)) σ
 | .FloorDiv=>A9 (Aw a) λx=>A9 (Aw b) λy=>y≠0/\ģ x y=false/\Q (.int (x.fdiv y)) σ
 | _=>False
def W5(op:aH3)(a b:AV)(σ:St)(Q:AV->St->Prop):Prop:=match op with
 | .Add=>A9 (Aw a) λx=>A9 (Aw b) λy=>Q (.int (x+y)) σ
 | _=>False
def dG(op:aK1)(a:AV)(σ:St)(Q:AV->St->Prop):Prop:=match op with
 | .USub=>A9 (Aw a) λx=>Q (.int (-x)) σ
 | _=>False
section
variable{X:Cx}{c:Cf}{a b:AV}{Q:AV->St->Prop}{va vb:Value}
def Az{α:Type}{o:Option α}{A:Prop}{B:α->Prop}{P:Prop}(h:Ö (motive:=λ_=>Prop) A B o)(f:A->P)(g :∀x,o=some x->B x->P):P:=by
 cases o with
 | none=>exact f h
 | some x=>exact g x rfl h
def cW{op:aH3}(h:ET op a b c.σ Q)(R:RS X c)(ra:VR X c a va)(rb:VR X c b vb):Go X c Q (binaryOp op va vb):=
 aH3.casesOn (motive:=λop=>ET op a b c.σ Q->Go X c Q (binaryOp op va vb)) op
  (λh=>Az h (λh=>AD h λxs e1 h=>AD h λys e2 h=>Af e1 R ra λl us k p1 p2=>Af e2 R rb λl' us' k' p3 p4=>OT p1 p3 (h.1.line (p2.len▸p4.len▸rfl)) (.newLst _ 0 R (p2.append p4) h.2))
   λx e1 h=>AD h λy e2 h=>AM e1 ra λt=>AM e2 rb λu=>add_int (.int _ R h))
  (λh=>AD h λx e1 h=>AD h λy e2 h=>AM e1 ra λt=>AM e2 rb λu=>PyProof.Rows.sub_int' (.int _ R h))
  (λh=>AD h λn e2 h=>Az h (λh=>AD h λxs e1 h=>Af e1 R ra λl us k p1 p2=>AM e2 rb λu=>QR p1 h.1.1 h.1.2.1 (h.1.2.2.line (p2.len▸rfl)) (.newLst _ 0 R (p2.rep _) h.2))
   λx e1 h=>AM e1 ra λt=>AM e2 rb λu=>mul_int (.int _ R h.2) h.1)
  z7 z7
  (λh=>AD h λx e1 h=>AD h λy e2 h=>AM e1 ra λt=>AM e2 rb λu=>mod_int' h.1 (.int _ R h.2))
  (λh=>AD h λx e1 h=>AD h λy e2 h=>AM e1 ra λt=>AM e2 rb λu=>PyProof.Rows.pow_int_small h.1.2.1 h.1.2.2 h.1.1 (.int _ R h.2))
  z7 z7 z7 z7 z7
  (λh=>AD h λx e1 h=>AD h λy e2 h=>AM e1 ra λt=>AM e2 rb λu=>floordiv_int h.1 (.int _ R h.2.2) (.inl h.2.1)) h
def dJ{op:aH3}(h:W5 op a b c.σ Q)(R:RS X c)(ra:VR X c a va)(rb:VR X c b vb):Go X c Q (inplaceOp op va vb):=by
 cases op with
 | Add=>exact AD h λx e1 h=>AD h λy e2 h=>AM e1 ra λt=>AM e2 rb λu=>iadd_int (.int _ R h)
 | _=>exact h.elim
def bZ{op:aK1}(h:dG op a c.σ Q)(R:RS X c)(ra:VR X c a va):Go X c Q (unaryOp op va):=by
 cases op with
 | USub=>exact AD h λx e1 h=>AM e1 ra λt=>neg_int (.int _ R h)
 | _=>exact h.elim
end
end Mine
end
section
open PySem PySem.W PyProof.Rows PySem.Spec PySem.Calls PySem.SeqAt
namespace Mine
noncomputable def Cz:AV->Option (SK×List AV)
 | .seq k vs=>some (k,vs)
 | _=>none
def FN{P:AV->Prop}{a:AV}{q:SK×List AV}(e:Cz a=some q)(f:P (.seq q.1 q.2)):P a:=
 AV.casesOn (motive_1:=λa=>Cz a=some q->P a) a AA (λ_=>AA) (λ_=>AA) (λ_ _ e=>Eq.mp (congrArg (λq:SK×List AV=>P (.seq q.1 q.2)) (zR e).symm) f) (λ_=>AA) (λ_=>AA) (λ_=>AA) (λ_ _=>AA) (λ_=>AA) (λ_=>AA) e
def CW(f:AV->AV->Option Bool)(xs:List AV):List AV->Option Bool:=
 Ä (λys=>some ys.isEmpty) (λa _ ih ys=>Ä (some false) (λb bs _=>(f a b).bind λx=>(ih bs).map (x && ·)) ys) xs
def SK.eqs(k k':SK):Bool:=SK.rec (SK.rec true false false k') (SK.rec false true false k') (SK.rec true false false k') k
def Fq(a b:AV):Option Bool:=(BR a).bind λx=>(BR b).map λy=>decide (x=y)
def VY(f:AV->AV->Option Bool)(a b:AV):Option Bool:=(Cz a).bind λp=>(Cz b).bind λq=>bif p.1.eqs q.1 then CW f p.2 q.2 else none
def J3{α:Type}(o p:Option α):Option α:=Ö p some o
def GN(n:Nat):AV->AV->Option Bool:=Ł (λ_ _=>none) (λ_ f a b=>J3 (Fq a b) (VY f a b)) n
def Dt{α:Type}{o p:Option α}{a:α}{P:Prop}(h:J3 o p=some a)(f:o=some a->P)(g:p=some a->P):P:=by
 cases o with
 | none=>exact g h
 | some x=>exact f h
def HH{a b:AV}{r:Bool}{P:Prop}(h:Fq a b=some r)(f :∀x y,BR a=some x->BR b=some y->decide (x=y)=r->P):P:=by
 obtain⟨x,e1,h⟩:=bind_some h
 obtain⟨y,e2,h⟩:=map_some h
 exact f x y e1 e2 h
def KJ{f:AV->AV->Option Bool}{a b:AV}{r:Bool}{P:Prop}(h:VY f a b=some r)(g :∀p q,Cz a=some p->Cz b=some q->p.1.eqs q.1=true->CW f p.2 q.2=some r->P):P:=by
 obtain⟨p,e1,h⟩:=bind_some h
 obtain⟨q,e2,h⟩:=bind_some h
 cases hk:p.1.eqs q.1 with
 | false=>rw[hk]at h;exact AA h
 | true=>rw[hk]at h;exact g p q e1 e2 hk h
noncomputable def Dx(f:Nat->Bool)(n m:Nat):Bool:=(Ë (min n m)).all f&&n==m
def Nw{g:Nat->Bool}{n m:Nat}:Dx g (n+1) (m+1)=(g 0&&Dx (λj=>g (j+1)) n m):=by
 unfold Dx
 rw[Nat.succ_min_succ,List.range_succ_eq_map,List.all_cons,List.all_map,Bool.and_assoc]
 exact congrArg (λb=>g 0&&(_&&b)) (by rw[aA0,beq_iff_eq,beq_iff_eq,Nat.succ_inj])
def Je{f:AV->AV->Option Bool}{xs:List AV} :∀{ys:List AV} {r:Bool},CW f xs ys=some r->∃e:Nat->Bool,(∀(j:Nat) (a b:AV),xs[j]?=some a->ys[j]?=some b->f a b=some (e j))/\r=Dx e xs.length ys.length:=by
 refine Ä (motive:=λxs=>∀{ys:List AV} {r:Bool},CW f xs ys=some r->∃e:Nat->Bool,(∀(j:Nat) (a b:AV),xs[j]?=some a->ys[j]?=some b->f a b=some (e j))/\r=Dx e xs.length ys.length) (λ{ys r} h=>⟨λ_=>true,λ_ _ _=>AA,?_⟩) (λa as ih ys r h=>?_) xs
 ·rw[<-zR h]
  cases ys<;>rfl
 ·cases ys with
  | nil=>exact⟨λ_=>true,λ_ _ _ _=>AA,(zR h).symm⟩
  | cons b bs=>
   obtain⟨x,e1,h⟩:=bind_some h
   obtain⟨y,e2,h⟩:=map_some h
   obtain⟨e,q1,q2⟩:=ih e2
   refine⟨λj=>Ł x (λj _=>e j) j,λj=>?_,?_⟩
   ·cases j with
    | zero=>exact λa' b' p1 p2=>zR p1▸zR p2▸e1
    | succ j=>exact q1 j
   ·exact h▸q2▸(Nw (g:=λj=>Ł x (λj _=>e j) j)).symm
section
variable{L:Cd}{G:Gh}{h:æ}{n:Nat}
def C7{a:AV}{q:SK×List AV}{v:Value}(e:Cz a=some q):VRel L G h n a v->Ei (λa us=>L.sq h a q.1 us) G (VAll L G h n q.2) v:=FN (P:=λa=>VRel L G h n a v->Ei (λa us=>L.sq h a q.1 us) G (VAll L G h n q.2) v) e id
def E6{a:AV}{k:AE}{v:Value}(e:BR a=some k):VRel L G h n a v->At k v=true:=FL (P:=λa=>VRel L G h n a v->At k v=true) e id
def KN{k k':SK}{us us':List Value}{e e':Nat×Option É}(z:some (IZ L k us e)=some (IZ L k' us' e')):k.cls L=k'.cls L/\us=us':=
 ⟨congrArg Obj.cls (zR z),congrArg (λo:Obj=>match o.data with | .seq a _=>a.toList | _=>[]) (zR z)⟩
def Pb(m:Nat) :∀{a b:AV} {v:Value} {r:Bool},VRel L G h n a v->VRel L G h n b v->GN m a b=some r->r=true:=by
 refine Ł (motive:=λm=>∀{a b:AV} {v:Value} {r:Bool},VRel L G h n a v->VRel L G h n b v->GN m a b=some r->r=true) (λ_ _=>AA) (λm ih a b v r q1 q2 e=>?_) m
 refine Dt e (λe=>HH e λx y e1 e2 e=>e▸decide_eq_true (EB (E6 e1 q1) (E6 e2 q2))) λe=>KJ e λp q e1 e2 hk e=>?_
 cases C7 e1 q1 with
 | mk l us hv hp _ hr=>
 cases C7 e2 q2 with
 | mk l' us' hv' hp' _ hr'=>
 obtain⟨k,hp⟩:=hp
 obtain⟨k',hp'⟩:=hp'
 cases hv.symm.trans hv'
 rw[<-(KN (hp.symm.trans hp')).2]at hr'
 obtain⟨g,g1,g2⟩:=Je e
 rw[g2,<-hr.len,<-hr'.len]
 refine ê.mpr ⟨aH4.mpr λj hj=>?_,beq_self_eq_true _⟩
 have hj:j<us.length:=zZ (ű.mp hj) (Ő _ _)
 have a1:p.2[j]?=some (p.2[j]'(hr.len▸hj)):=zV _
 have a2:q.2[j]?=some (q.2[j]'(hr'.len▸hj)):=zV _
 obtain⟨u,u1,u2⟩:=hr.get a1
 obtain⟨u',u3,u4⟩:=hr'.get a2
 cases u1.symm.trans u3
 exact ih u2 u4 (g1 j _ _ a1 a2)
end
def IQ(C:É)(s:zY):Prop:=∀(A:đ) (l b:É) (us ws:List Value) (k:Nat×Option É) (k':Nat) (e:Nat->Bool),A.units<cLine->s.heap.get? l=some (BG C us k)->s.heap.get? b=some (An ws k')->
 (∀j (h1:j<us.length) (h2:j<ws.length),Δ A.in1 s us[j] ws[j] (e j))->aN2 A s (.ref l) (.ref b) (Dx e us.length ws.length)
section
variable{L:Cd}{G:Gh}{s:zY}{n:Nat}{A:đ}{l l':É}{us us':List Value}{f:Nat->Bool}
def UO{n m:Nat}(h:n≠m):Dx f n m=false:=by
 unfold Dx
 rw[beq_eq_false_iff_ne.mpr h,aF1]
def TX(n:Nat):Dx f n n=(Ë n).all f:=by
 unfold Dx
 rw[Nat.min_self,beq_self_eq_true,Bool.and_true]
def Kr{k k':Nat}(hu:A.units<cLine)(p:s.heap.get? l=some (A1 us k))(p':s.heap.get? l'=some (A1 us' k'))(he :∀j (h1:j<us.length) (h2:j<us'.length),Δ A.in1 s us[j] us'[j] (f j)) :
  aN2 A s (.ref l) (.ref l') (Dx f us.length us'.length)/\aI2 A s (.ref l) (.ref l') (!Dx f us.length us'.length):=by
 by_cases hz:us.length=us'.length
 ·rw[<-hz,TX]
  exact⟨aN2.lists (AK p) (AK p') hz hu he,aI2.lists (AK p) (AK p') hz hu he⟩
 ·rw[UO hz]
  exact⟨aN2.lists_lengths (AK p) (AK p') (bne_iff_ne.mpr hz) hu,aI2.lists_lengths (AK p) (AK p') (bne_iff_ne.mpr hz) hu⟩
def NS{k k':Nat}(hu:A.units<cLine)(p:s.heap.get? l=some (An us k))(p':s.heap.get? l'=some (An us' k'))(he :∀j (h1:j<us.length) (h2:j<us'.length),Δ A.in1 s us[j] us'[j] (f j)) :
  aN2 A s (.ref l) (.ref l') (Dx f us.length us'.length)/\aI2 A s (.ref l) (.ref l') (!Dx f us.length us'.length):=
 ⟨aN2.tuples (B0 p) (B0 p') hu he,aI2.tuples (B0 p) (B0 p') hu he⟩
def Ur(hM:IQ L.C s){k k':SK}(hk:k.eqs k'=true)(hu:A.units<cLine)(p:L.sq s.heap l k us)(p':L.sq s.heap l' k' us')(he :∀j (h1:j<us.length) (h2:j<us'.length),Δ A.in1 s us[j] us'[j] (f j)) :
  aN2 A s (.ref l) (.ref l') (Dx f us.length us'.length):=by
 obtain⟨e,p⟩:=p
 obtain⟨e',p'⟩:=p'
 cases k with
 | tup=>cases k' with
  | tup=>exact(NS (k:=e.1) (k':=e'.1) hu p p' he).1
  | _=>cases hk
 | lst=>cases k' with
  | lst=>exact(Kr (k:=e.1) (k':=e'.1) hu p p' he).1
  | _=>cases hk
 | mat=>cases k' with
  | tup=>exact hM A l l' us us' e e'.1 f hu p p' he
  | _=>cases hk
def Gp{m:Nat}(ih :∀a b va vb r,VRel L G s.heap n a va->VRel L G s.heap n b vb->GN m a b=some r->Δ A.in1 s va vb r){xs ys:List AV}{r:Bool}(q1:VAll L G s.heap n xs us)(q2:VAll L G s.heap n ys us')(h:CW (GN m) xs ys=some r){P:Bool->Prop}
  (k :∀f:Nat->Bool,(∀j (h1:j<us.length) (h2:j<us'.length),Δ A.in1 s us[j] us'[j] (f j))->P (Dx f us.length us'.length)):P r:=by
 obtain⟨e,p1,p2⟩:=Je h
 rw[p2,<-q1.len,<-q2.len]
 refine k e λj h1 h2=>?_
 have e1:xs[j]?=some (xs[j]'(q1.len▸h1)):=zV _
 have e2:ys[j]?=some (ys[j]'(q2.len▸h2)):=zV _
 obtain⟨v1,g1,r1⟩:=q1.get e1
 obtain⟨v2,g2,r2⟩:=q2.get e2
 rw[zV h1]at g1
 rw[zV h2]at g2
 cases g1;cases g2
 exact ih _ _ _ _ _ r1 r2 (p1 j _ _ e1 e2)
def Se(hM:IQ L.C s)(m:Nat) :∀(A:đ) (a b:AV) (va vb:Value) (r:Bool),A.units+m<cLine->VRel L G s.heap n a va->VRel L G s.heap n b vb->GN m a b=some r->Δ A s va vb r:=by
 refine Ł (motive:=λm=>∀(A:đ) (a b:AV) (va vb:Value) (r:Bool),A.units+m<cLine->VRel L G s.heap n a va->VRel L G s.heap n b vb->GN m a b=some r->Δ A s va vb r) (λ_ _ _ _ _ _ _ _ _=>AA) (λm ih A a b va vb r hu q1 q2 e=>?_) m
 refine Dt e (λe=>HH e λx y e1 e2 e=>e▸λprog w E Q h=>MD prog w (E6 e1 q1) (E6 e2 q2) h) λe'=>KJ e' λp q e1 e2 hk e'=>?_
 by_cases hs:va=vb
 ·subst hs
  exact Pb (m+1) q1 q2 e▸Δ.same _
 have hu':A.units+1+m<cLine:=ĥ A.units m 1▸hu
 cases C7 e1 q1 with
 | mk l us hv hp _ hr=>
 cases C7 e2 q2 with
 | mk l' us' hv' hp' _ hr'=>
 subst hv;subst hv'
 exact Δ.of_refs (λz=>hs (congrArg _ z)) (Gp (P:=aN2 A s (.ref l) (.ref l')) (λa b va vb r p1 p2 p3=>ih A.in1 a b va vb r hu' p1 p2 p3) hr hr' e' λf he=>Ur hM hk (Í (Æ _ _) hu) hp hp' he)
def Xp{a b:AE}{u v:Value}(hu:At a u=true)(hv:At b v=true):aN2 A s u v (decide (a=b))/\aI2 A s u v (!decide (a=b)):=by
 cases a with
 | int i=>
  obtain⟨t,rfl⟩:=BA hu
  cases b with
  | int j=>obtain⟨t',rfl⟩:=BA hv;exact Tg i j▸⟨.int_int _ _ _ _,.int_int _ _ _ _⟩
  | str j=>obtain⟨t',rfl⟩:=BK hv;exact⟨.int_str _ _ _ _,.int_str _ _ _ _⟩
 | str i=>
  obtain⟨t,rfl⟩:=BK hu
  cases b with
  | int j=>obtain⟨t',rfl⟩:=BA hv;exact⟨.str_int _ _ _ _,.str_int _ _ _ _⟩
  | str j=>obtain⟨t',rfl⟩:=BK hv;exact TD i j▸⟨.str_str _ _ _ _,.str_str _ _ _ _⟩
end
def Ek(a:AV):Option (List AV):=(Cz a).bind λp=>SK.rec (some p.2) none none p.1
def ST(a b:AV):Option Bool:=match a with
 | .none=>(Ek b).map λ_=>false
 | _=>none
def EX(σ:St)(a b:AV):Option Bool:=J3 (Fq a b) (J3 ((Ak σ a).bind λxs=>(Ak σ b).bind λys=>CW (GN 8) xs ys) (J3 ((Ek a).bind λxs=>(Ek b).bind λys=>CW (GN 8) xs ys) (ST a b)))
def RR{P:AV->Bool->Prop}{a b:AV}{r:Bool}(e:ST a b=some r)(f :∀vs,Ek b=some vs->P .none false):P a r:=
 AV.casesOn (motive_1:=λa=>ST a b=some r->P a r) a (λe=>DG (P:=P .none) e f) (λ_=>AA) (λ_=>AA) (λ_ _=>AA) (λ_=>AA) (λ_=>AA) (λ_=>AA) (λ_ _=>AA) (λ_=>AA) (λ_=>AA) e
def Ri{P:AV->Prop}{a:AV}{vs:List AV}(e:Ek a=some vs)(f:P (.tup vs)):P a:=by
 obtain⟨⟨k,us⟩,e1,e⟩:=bind_some e
 exact FN e1 (SK.casesOn (motive:=λk=>SK.rec (motive:=λ_=>Option (List AV)) (some us) none none k=some vs->P (.seq k us)) k (λe=>zR e▸f) AA AA e)
section
variable{X:Cx}{c:Cf}{a b:AV}{va vb:Value}
@[elab_as_elim] theorem Dc{P:Value->Prop}{vs:List AV}{v:Value}(e:Ek a=some vs)(r:VR X c a v)(f :∀l us k,c.s.heap.get? l=some (An us k)->VA X c vs us->P (.ref l)):P v:=
 Ri (P:=λa=>VR X c a v->P v) e (λr=>r.casesOn λl us hv hp _ hr=>hp.elim λk hp=>hv▸f l us k.1 hp hr) r
def Z2{r:Bool}(hM:IQ X.L.C c.s)(hu:X.A.units+10<cLine)(e:EX c.σ a b=some r)(R:RS X c)(ra:VR X c a va)(rb:VR X c b vb):aN2 X.A c.s va vb r/\aI2 X.A c.s va vb (!r):=by
 have ih :∀a b va vb r,VR X c a va->VR X c b vb->GN 8 a b=some r->Δ X.A.in1 c.s va vb r:=λa b va vb r=>Se hM 8 X.A.in1 a b va vb r (ő (Ê _) hu)
 have hu':X.A.units<cLine:=Í (Æ _ _) hu
 refine Dt e (λe=>HH e λx y e1 e2 e=>e▸Xp (B6 e1 ra) (B6 e2 rb)) λe=>Dt e (λe=>?_) λe=>Dt e (λe=>?_) λe=>RR (P:=λa r=>VR X c a va->aN2 X.A c.s va vb r/\aI2 X.A c.s va vb (!r)) e (λvs e2 ra=>?_) ra
 ·obtain⟨xs,e1,e⟩:=bind_some e
  obtain⟨ys,e2,e⟩:=bind_some e
  exact Af e1 R ra λl us k p1 p2=>Af e2 R rb λl' us' k' p3 p4=>Gp (P:=λr=>aN2 X.A c.s (.ref l) (.ref l') r/\aI2 X.A c.s (.ref l) (.ref l') (!r)) ih p2 p4 e λf he=>Kr hu' p1 p3 he
 ·obtain⟨xs,e1,e⟩:=bind_some e
  obtain⟨ys,e2,e⟩:=bind_some e
  exact Dc e1 ra λl us k p1 p2=>Dc e2 rb λl' us' k' p3 p4=>Gp (P:=λr=>aN2 X.A c.s (.ref l) (.ref l') r/\aI2 X.A c.s (.ref l) (.ref l') (!r)) ih p2 p4 e λf he=>NS hu' p1 p3 he
 ·rw[show va = .none from ra]
  exact Dc e2 rb λl us k p1 p2=>⟨.none_tuple (B0 p1) hu',.none_tuple (B0 p1) hu'⟩
end
noncomputable def NU(a:AV):Option Bool:=match a with
 | .none=>some true
 | .fn _=>none
 | _=>some false
def BY(vs:List AV):Option (List AE):=Ä (some []) (λa _ ih=>(BR a).bind λk=>ih.map (k :: ·)) vs
def GP(xs ys:List AV)(K:Bool->Prop):Prop:=A9 (BY xs) λks=>A9 (BY ys) λls=>K false/\(ks=ls->K true)
def KH(a:AV):Option (List AV):=(Cz a).bind λp=>SK.rec none (some p.2) none p.1
noncomputable def AE.toStr:AE->Option Str
 | .str i=>some i
 | .int _=>none
def Gx(a:AV):Option Str:=(BR a).bind AE.toStr
def iT(a b:AV)(K:Bool->Prop):Prop:=Ö (A9 (KH a) λxs=>Ö (A9 (KH b) λys=>GP xs ys K) (λ_=>K false) (Gx b)) (λ_=>A9 (KH b) λ_=>K false) (Gx a)
def nP(a b:AV)(K:Bool->Prop):Prop:=A9 (NU a) λx=>A9 (NU b) λy=>
 Ĕ (Ĕ (iT a b K) (K false) y) (K y) x
def KR(a b:AV)(σ:St)(Q:AV->St->Prop)(f:Int->Int->Bool):Prop:=A9 (Aw a) λx=>A9 (Aw b) λy=>Q (.bool (f x y)) σ
def Nk(op:aG0)(a b:AV)(σ:St)(Q:AV->St->Prop):Prop:=match op with
 | .Lt=>KR a b σ Q λx y=>decide (x<y)
 | .LtE=>KR a b σ Q λx y=>decide (x<=y)
 | .Gt=>KR a b σ Q λx y=>decide (y<x)
 | .GtE=>KR a b σ Q λx y=>decide (y<=x)
 | .Eq=>A9 (EX σ a b) λr=>Q (.bool r) σ
 | .NotEq=>A9 (EX σ a b) λr=>Q (.bool (!r)) σ
 | .Is=>nP a b λr=>Q (.bool r) σ
 | .IsNot=>nP a b λr=>Q (.bool (!r)) σ
 | _=>False
def EF{P:AV->Prop}{a:AV}{vs:List AV}(e:KH a=some vs)(f:P (.lst vs)):P a:=by
 obtain⟨⟨k,us⟩,e1,e⟩:=bind_some e
 exact FN e1 (SK.casesOn (motive:=λk=>SK.rec (motive:=λ_=>Option (List AV)) none (some us) none k=some vs->P (.seq k us)) k AA (λe=>zR e▸f) AA e)
section
variable{L:Cd}{G:Gh}{h:æ}{n:Nat}
def ON{xs:List AV} :∀{ys:List AV} {ks ls:List AE} {us:List Value},BY xs=some ks->BY ys=some ls->VAll L G h n xs us->VAll L G h n ys us->ks=ls:=by
 refine Ä (motive:=λxs=>∀{ys:List AV} {ks ls:List AE} {us:List Value},BY xs=some ks->BY ys=some ls->VAll L G h n xs us->VAll L G h n ys us->ks=ls) (λ{ys ks ls us} e1 e2 q1 q2=>?_) (λa as ih ys ks ls us e1 e2 q1 q2=>?_) xs
 ·have hl:=q2.len
  rw[show us=[]from q1]at hl
  cases ys with
  | nil=>exact zR (e1.symm.trans e2)
  | cons b bs=>cases hl
 ·obtain⟨v,u,rfl,a1,a2⟩:=q1
  cases ys with
  | nil=>cases q2
  | cons b bs=>
   obtain⟨v',u',e,b1,b2⟩:=q2
   cases e
   obtain⟨x,p1,e1⟩:=bind_some e1
   obtain⟨xs',p2,rfl⟩:=map_some e1
   obtain⟨y,p3,e2⟩:=bind_some e2
   obtain⟨ys',p4,rfl⟩:=map_some e2
   rw[EB (E6 p1 a1) (E6 p3 b1),ih p2 p4 a2 b2]
def E7(b:Bool)(v:Value):Prop:=(v == .none)=b/\plainIs v .none=true/\plainIs .none v=true/\(Ē==v)=b
def FA{b b':Bool}{v v':Value}(q:E7 b' v')(e:v=v')(z:some b'=some b):E7 b v:=e▸zR z▸q
def MZ{a:AV}{b:Bool}{v:Value}(e:NU a=some b)(q:VRel L G h n a v):E7 b v:=by
 have rf :∀{l:É},v = .ref l->some false=some b->E7 b v:=FA ⟨rfl,rfl,rfl,rfl⟩
 have bx :∀{β:Type} {P:É->β->Prop} {R:β->Prop},Ei P G R v->some false=some b->E7 b v:=λq=>q.casesOn λ_ _ hv _ _ _=>rf hv
 exact AV.casesOn (motive_1:=λa=>VRel L G h n a v->NU a=some b->E7 b v) a (FA ⟨rfl,rfl,rfl,rfl⟩) (λx=>FA ⟨rfl,rfl,rfl,rfl⟩)
  (λk=>AE.casesOn (motive:=λk=>VRel L G h n (.key k) v->some false=some b->E7 b v) k (λi q=>(BA q).elim λt=>FA ⟨rfl,rfl,rfl,rfl⟩) λi q=>(BK q).elim λt=>FA ⟨rfl,rfl,rfl,rfl⟩)
  (λ_ _=>bx) (λx q=>rf q.1) (λ_ _=>AA) (λx=>rf) (λ_ _=>bx) (λ_=>bx) (λ_=>bx) q e
end
section
variable{X:Cx}{c:Cf}{a b:AV}{va vb:Value}
def R4{P:AV->Prop}{a:AV}{i:Str}(e:Gx a=some i)(f:P (.str i)):P a:=by
 obtain⟨k,e1,e2⟩:=bind_some e
 exact FL e1 (AE.casesOn (motive:=λk=>k.toStr=some i->P (.key k)) k (λ_=>AA) (λ_ e=>zR e▸f) e2)
@[elab_as_elim] theorem Dw{P:Value->Prop}{a:AV}{i:Str}{v:Value}(e:Gx a=some i)(r:VR X c a v)(f :∀t,P (.str i t)):P v:=by
 obtain⟨t,rfl⟩:=BK (R4 (P:=λa=>VR X c a v->At (.str i) v=true) e id r)
 exact f t
def aL{K:Bool->Prop}(h:nP a b K)(R:RS X c)(ra:VR X c a va)(rb:VR X c b vb){Q:Bool->zY->Prop}(hq :∀r,K r->Q r c.s):Wp X (isSame va vb) Q c.s:=by
 refine AD h λx e1 h=>AD h λy e2 h=>?_
 have pa:=MZ e1 ra
 have pb:=MZ e2 rb
 cases x with
 | true=>
  have hv:va = .none:=å pa.1
  exact aA5 (hv▸pb.2.2.1) (hv▸pb.2.2.2.symm▸hq y h)
 | false=>
  cases y with
  | true=>
   have hv:vb = .none:=å pb.1
   exact aA5 (hv▸pa.2.1) (hv▸pa.1.symm▸hq false h)
  | false=>
   refine Az h (λh=>AD h λxs e1 h=>Az h (λh=>AD h λys e2 h=>AD h λks e3 h=>AD h λls e4 h=>?_) λx e2 h=>?_) λx e1 h=>AD h λys e2 h=>?_
   ·cases EF (P:=λa=>VR X c a va->VR X c (.lst xs) va) e1 id ra with
    | mk l us hv hp _ hr=>
    cases EF (P:=λb=>VR X c b vb->VR X c (.lst ys) vb) e2 id rb with
    | mk l' us' hv' hp' _ hr'=>
    subst hv;subst hv'
    obtain⟨k,hp⟩:=hp
    obtain⟨k',hp'⟩:=hp'
    by_cases hl:l=l'
    ·subst hl
     rw[<-(KN (hp.symm.trans hp')).2]at hr'
     exact wpAny_isSame_ref_self (hq _ (h.2 (ON e3 e4 hr hr')))
    ·exact wpAny_isSame_ref_other hl hp hp' (show Ř "list"≠Ř "tuple" by decide) (hq _ h.1)
   ·cases EF (P:=λa=>VR X c a va->VR X c (.lst xs) va) e1 id ra with
    | mk l us hv hp _ hr=>
    subst hv
    exact Dw (P:=λvb=>Wp X (isSame (.ref l) vb) Q c.s) e2 rb λt=>aA5 rfl (hq _ h)
   ·cases EF (P:=λa=>VR X c a vb->VR X c (.lst ys) vb) e2 id rb with
    | mk l us hv hp _ hr=>
    subst hv
    exact Dw (P:=λva=>Wp X (isSame va (.ref l)) Q c.s) e1 ra λt=>aA5 rfl (hq _ h)
def I4{f:Int->Int->Bool}{op:aG0}{Q:AV->St->Prop}(h:KR a b c.σ Q f)(R:RS X c)(ra:VR X c a va)(rb:VR X c b vb)(g :∀{x y:Int} {t u:Tok},AX X (VR X) c Q (.bool (f x y)) c.s->Go X c Q (compareOp op (.int x t) (.int y u))):Go X c Q (compareOp op va vb):=
 AD h λx e1 h=>AD h λy e2 h=>AM e1 ra λt=>AM e2 rb λu=>g (.here (b:=AV.bool (f x y)) R rfl h)
def cC{op:aG0}{Q:AV->St->Prop}(hM:IQ X.L.C c.s)(hu:X.A.units+10<cLine)(h:Nk op a b c.σ Q)(R:RS X c)(ra:VR X c a va)(rb:VR X c b vb):Go X c Q (compareOp op va vb):=
 aG0.casesOn (motive:=λop=>Nk op a b c.σ Q->Go X c Q (compareOp op va vb)) op
  (λh=>AD h λr e h=>(Z2 hM hu e R ra rb).1 _ _ _ _ (.here (b:=AV.bool r) R rfl h)) (λh=>AD h λr e h=>(Z2 hM hu e R ra rb).2 _ _ _ _ (.here (b:=AV.bool (!r)) R rfl h))
  (λh=>I4 h R ra rb λq=>lt_int q) (λh=>I4 h R ra rb λq=>le_int q) (λh=>I4 h R ra rb λq=>gt_int q) (λh=>I4 h R ra rb λq=>ge_int q)
  (λh=>Wp.bind (aL h R ra rb λr h=>Wp.pure (.here (b:=AV.bool r) R rfl h))) (λh=>Wp.bind (aL h R ra rb λr h=>Wp.pure (.here (b:=AV.bool (!r)) R rfl h))) z7 z7 h
end
noncomputable def LQ(a:AV):Option Bool:=match a with
 | .bool b=>some b
 | .none=>some false
 | _=>none
def Ca(a:AV)(σ:St)(Q:Bool->St->Prop):Prop:=Ö (Ö (Ö (A9 (Ak σ a) λvs=>AC vs.length/\Q (!vs.isEmpty) σ) (λx=>x.length<1000000/\Q ((x.length:Int) != 0) σ) (Gx a)) (λi=>Q (i != 0) σ) (Aw a)) (λb=>Q b σ) (LQ a)
def WN{n:Nat}(h:n<=1000000):(n:Int)<2 ^ 63:=aF2 (ħ.mpr h) (by decide)
def OU{α β:Type}{us:List α}{vs:List β}(h:us.length=vs.length):us.toArray.isEmpty=vs.isEmpty:=by
 cases us with
 | nil=>cases vs with
  | nil=>rfl
  | cons=>cases h
 | cons=>cases vs with
  | nil=>cases h
  | cons=>rfl
section
variable{X:Cx}{c:Cf}{a b:AV}{va vb:Value}
def OH{b:Bool}(e:LQ a=some b)(q:VR X c a va){Q:Bool->zY->Prop}(h:Q b c.s):Wp X (truthy va) Q c.s:=
 AV.casesOn (motive_1:=λa=>VR X c a va->LQ a=some b->Wp X (truthy va) Q c.s) a (λq e=>(show va = .none from q).symm▸truthy_none (zR e▸h)) (λx q e=>(show va = .bool x from q).symm▸Œ (zR e▸h))
  (λ_ _=>AA) (λ_ _ _=>AA) (λ_ _=>AA) (λ_ _=>AA) (λ_ _=>AA) (λ_ _ _=>AA) (λ_ _=>AA) (λ_ _=>AA) q e
def Pg{Q:Bool->St->Prop}(h:Ca a c.σ Q)(R:RS X c)(ra:VR X c a va):Wp X (truthy va) (AX X KI c Q) c.s:=
 Az h (λh=>Az h (λh=>Az h (λh=>AD h λvs e h=>Af e R ra λl us k p1 p2=>wpAny_truthy_list (AK p1) (WN (zP (Â p2.len) h.1)) (OU p2.len▸AX.to (b:=!vs.isEmpty) (R.toks _) rfl h.2))
  λx e h=>Dw e ra λt=>PySem.P.truthy_str (aN8.mpr (WN (Û h.1))) (.to (b:=((x.length:Int) != 0)) (R.toks _) rfl h.2)) λi e h=>AM e ra λt=>PyProof.Rows.truthy_int (AX.here (b:=(i != 0)) R rfl h)) λb e h=>OH e ra (AX.here (b:=b) R rfl h)
end
noncomputable def AO.dct:AO->Option (List (AE×AV))
 | .dict es=>some es
 | _=>none
def Do(σ:St)(a:AV):Option (List (AE×AV)):=match a with
 | .dct es=>some es
 | a=>(objOf σ a).bind AO.dct
noncomputable def AO.fs:AO->Option (List AE)
 | .set es=>some es
 | _=>none
def Jf(σ:St)(a:AV):Option (List AE):=match a with
 | .fset es=>some es
 | a=>(objOf σ a).bind AO.fs
def AO.dct_eq{o:AO}{vs:List (AE×AV)}(e:o.dct=some vs):o = .dict vs:=
 AO.casesOn (motive:=λo=>o.dct=some vs->o = .dict vs) o (λ_=>AA) (λ_ e=>congrArg _ (zR e)) (λ_=>AA) (λ_ _=>AA) e
def AO.fs_eq{o:AO}{vs:List AE}(e:o.fs=some vs):o = .set vs:=
 AO.casesOn (motive:=λo=>o.fs=some vs->o = .set vs) o (λ_=>AA) (λ_=>AA) (λ_ e=>congrArg _ (zR e)) (λ_ _=>AA) e
section
variable{X:Cx}{c:Cf}{a b:AV}{va vb:Value}
@[elab_as_elim] theorem Ct{P:Value->Prop}{es:List (AE×AV)}{v:Value}(e:Do c.σ a=some es)(R:RS X c)(r:VR X c a v)(f :∀d kvs,X.L.dct c.s.heap d kvs->VD X c es kvs->P (.ref d)):P v:=by
 have ow :∀{a},VR X c a v->(objOf c.σ a).bind AO.dct=some es->P v:=λ{a} r e=>by
  obtain⟨o,e1,e2⟩:=bind_some e
  obtain⟨x,rfl,q⟩:=H9 e1 R r
  rw[AO.dct_eq e2]at q
  exact q.rel.casesOn λus hp hr=>f _ us hp hr
 exact AV.casesOn (motive_1:=λa=>VR X c a v->Do c.σ a=some es->P v) a ow (λ_=>ow) (λ_=>ow) (λ_ _=>ow) (λ_=>ow) (λ_=>ow) (λ_=>ow) (λ_ _=>ow) (λus r e=>r.casesOn λl us hv hp ho hr=>hv▸f l us hp (zR e▸hr)) (λ_=>ow) r e
@[elab_as_elim] theorem Gg{P:Value->Prop}{ks:List AE}{v:Value}(e:Jf c.σ a=some ks)(R:RS X c)(r:VR X c a v)(f :∀d,X.L.set c.s.heap d ks->P (.ref d)):P v:=by
 have ow :∀{a},VR X c a v->(objOf c.σ a).bind AO.fs=some ks->P v:=λ{a} r e=>by
  obtain⟨o,e1,e2⟩:=bind_some e
  obtain⟨x,rfl,q⟩:=H9 e1 R r
  rw[AO.fs_eq e2]at q
  exact f _ q.rel
 exact AV.casesOn (motive_1:=λa=>VR X c a v->Jf c.σ a=some ks->P v) a ow (λ_=>ow) (λ_=>ow) (λ_ _=>ow) (λ_=>ow) (λ_=>ow) (λ_=>ow) (λ_ _=>ow) (λ_=>ow) (λus r e=>r.casesOn λl _ hv hp ho hr=>hv▸f l (zR e▸hp)) r e
end
section
variable{L:Cd}{G:Gh}{h:æ}{n:Nat}
def Nx(k:AE)(p:AE×Value)(r:List (AE×Value)):valueAt (p::r) k=bif k==p.1 then some p.2 else valueAt r k:=by
 unfold valueAt
 rw[List.find?_cons]
 by_cases hk:p.1=k
 ·rw[decide_eq_true hk,<-hk,beq_self_eq_true];rfl
 ·rw[decide_eq_false hk,beq_eq_false_iff_ne.mpr (aD6 hk)];rfl
def VDict.look{es:List (AE×AV)}(k:AE) :∀{kvs:List (AE×Value)},VDict L G h n es kvs->∀{P:Option AV->Option Value->Prop},P none none->(∀a v,VRel L G h n a v->P (some a) (some v))->P (es.lookup k) (valueAt kvs k):=by
 refine Ä (motive:=λes=>∀{kvs:List (AE×Value)},VDict L G h n es kvs->∀{P:Option AV->Option Value->Prop},P none none->(∀a v,VRel L G h n a v->P (some a) (some v))->P (es.lookup k) (valueAt kvs k)) (λ{kvs} q P p _=>(show kvs=[]from q)▸p) (λa r ih kvs q P p f=>?_) es
 obtain⟨key,a⟩:=a
 obtain⟨v,us,rfl,q1,q2⟩:=q
 rw[AU,Nx]
 cases k==key with
 | true=>exact f a v q1
 | false=>exact ih q2 p f
def VDict.len{as:List (AE×AV)}{vs:List (AE×Value)}(q:VDict L G h n as vs):vs.length=as.length:=
 Ä (motive:=λas=>∀vs,VDict L G h n as vs->vs.length=as.length) (λ_ q=>congrArg _ q) (λa r ih vs q=>q.elim λv q=>q.elim λu q=>(congrArg _ q.1).trans (congrArg Ŝ (ih u q.2.2))) as vs q
def VAll.pick{vs:List AV}{us:List Value}(q:VAll L G h n vs us)(is:List Nat):VAll L G h n (is.filterMap (vs[·]?)) (is.filterMap (us.toArray[·]?)):=by
 refine Ä (motive:=λis=>VAll L G h n (is.filterMap (vs[·]?)) (is.filterMap (us.toArray[·]?))) rfl (λi r ih=>?_) is
 cases e1:vs[i]? with
 | none=>
  rw[List.filterMap_cons_none e1,List.filterMap_cons_none (ì.trans (Ā (q.len▸ſ.mp e1)))]
  exact ih
 | some a=>
  obtain⟨u,g1,g2⟩:=q.get e1
  rw[List.filterMap_cons_some e1,List.filterMap_cons_some (ì.trans g1)]
  exact⟨u,_,rfl,g2,ih⟩
end
noncomputable def CF(vs:List AV)(k:Int):Option AV:=(seqIndex? k vs.length).bind (vs[·]?)
def BH(k:Int):Prop:=-1000000<=k/\k<1000000
def X9(vs:List AV)(b:AV)(σ:St)(Q:AV->St->Prop):Prop:=A9 (Aw b) λk=>BH k/\∃v,CF vs k=some v/\Q v σ
def Fj(a b:AV)(σ:St)(Q:AV->St->Prop):Prop:=
 Ö (Ö (A9 (Do σ a) λes=>A9 (BR b) λk=>∃v,es.lookup k=some v/\Q v σ) (λvs=>X9 vs b σ Q) (Ak σ a)) (λvs=>X9 vs b σ Q) (Ek a)
def Gl(a:AV):Option (Option Int):=match a with
 | .none=>some none
 | a=>(Aw a).map some
noncomputable def Ad{α:Type}(vs:List α)(lo hi st:Option Int):List α:=
 (sliceRange (sliceBounds lo hi st vs.length).1 (sliceBounds lo hi st vs.length).2.1 (sliceBounds lo hi st vs.length).2.2).filterMap (vs[·]?)
def UU(a lo hi st:AV)(σ:St)(Q:AV->St->Prop):Prop:=
 A9 (Ak σ a) λvs=>A9 (Gl lo) λl=>A9 (Gl hi) λh=>A9 (Gl st) λt=>t≠some 0/\AC vs.length/\Q (.lst (Ad vs l h t)) σ
def BH.hi{k:Int}(h:BH k):k<2 ^ 63:=Ż h.2 (by decide)
def BH.lo{k:Int}(h:BH k):-(2 ^ 63)<=k:=ż (by decide) h.1
section
variable{X:Cx}{c:Cf}{a b:AV}{va vb:Value}{Q:AV->St->Prop}
def Rh{vs:List AV}{us:List Value}{k:Int}{v:AV}(e:CF vs k=some v)(q:VA X c vs us) :∃j u,seqIndex? k us.length=some j/\us[j]?=some u/\VR X c v u:=by
 obtain⟨j,e1,e2⟩:=bind_some e
 obtain⟨u,g1,g2⟩:=q.get e2
 exact⟨j,u,q.len.symm▸e1,g1,g2⟩
def Oi{prog:þ}{w:Ì}{A:đ}{E:Value->zY->Prop}{s:zY}{l:É}{us:List Value}{k:Int}{t:Tok}{n j:Nat}{x:Value}{Q:Value->zY->Prop}(hl:s.heap.get? l=some (A1 us n))(hk:BH k)(hj:seqIndex? k us.length=some j)(hx:us[j]?=some x)(q:Q x s) :
  wpAny (model prog w) A (getItem (.ref l) (.int k t)) Q E s:=by
 unfold seqIndex? at hj
 by_cases h0:k<0
 ·rw[if_pos h0]at hj
  obtain⟨h1,h2⟩:=Option.ite_none_right_eq_some.mp hj
  have h3:=(AN h1).1
  exact wpAny_getItem_list_neg (AK hl) h0 (Int.zero_sub (us.length:Int)▸Int.sub_left_le_of_le_add (Int.add_comm k us.length▸of_decide_eq_true h3)) hk.lo (ì.trans ((zR h2).symm▸hx)) q
 ·rw[if_neg h0]at hj
  obtain⟨h1,h2⟩:=Option.ite_none_right_eq_some.mp hj
  exact wpAny_getItem_list (AK hl) (aF3.mp h0) hk.hi (ì.trans ((zR h2).symm▸hx)) q
def Zi(h:Fj a b c.σ Q){value slice:Expr}(hs :∀o i,subscripted slice false o i=operate [o,i] (getItem o i))(R:RS X c)(ra:VR X c a va)(rb:VR X c b vb):Go X c Q (subscriptTail value slice va vb):=
 Az h (λh=>Az h
  (λh=>AD h λes e1 h=>AD h λk e2 h=>Ct e1 R ra λd kvs p1 p2=>h.elim λv h=>by
   have hv :∃u,valueAt kvs k=some u/\VR X c v u:=p2.look k (P:=λx y=>x=some v->∃u,y=some u/\VR X c v u) AA (λa u r e=>⟨u,rfl,zR e▸r⟩) h.1
   obtain⟨u,e3,r3⟩:=hv
   exact tail_any p1.1.typeIs slot_dict_getitem.lookup (wpAny_getItem_of (B6 e2 rb) p1.1.mapOf e3 (.val _ R r3 h.2)) (hs _ _))
  λvs e1 h=>AD h λk e2 h=>Af e1 R ra λl us n p1 p2=>AM e2 rb λt=>h.2.elim λv h'=>(Rh h'.1 p2).elim λj z=>z.elim λu z=>tail_any (AK p1).typeIs slot_list_getitem.lookup (Oi p1 h.1 z.1 z.2.1 (.here R z.2.2 h'.2)) (hs _ _))
 λvs e1 h=>AD h λk e2 h=>Dc e1 ra λl us n p1 p2=>AM e2 rb λt=>h.2.elim λv h'=>(Rh h'.1 p2).elim λj z=>z.elim λu z=>item_tupleT ⟨_,p1,rfl,n,rfl⟩ h.1.lo h.1.hi z.1 z.2.1 (.here R z.2.2 h'.2) (hs _ _)
def JD{k:Option Int}(e:Gl a=some k)(r:VR X c a va):IsPart va k:=by
 have ow :∀{a},VR X c a va->(Aw a).map some=some k->IsPart va k:=λ{a} r e=>by
  obtain⟨i,e1,rfl⟩:=map_some e
  exact AM e1 r λt=>.int i t
 exact AV.casesOn (motive_1:=λa=>VR X c a va->Gl a=some k->IsPart va k) a (λq e=>(show va = .none from q)▸zR e▸.none) (λ_=>ow) (λ_=>ow) (λ_ _=>ow) (λ_=>ow) (λ_=>ow) (λ_=>ow) (λ_ _=>ow) (λ_=>ow) (λ_=>ow) r e
def O6{lo hi st:Option Expr}{p:Pos}{o i:Value} :∃ops,subscripted (.Slice lo hi st p) false o i=operate ops (getItem o i):=by
 cases st<;>exact⟨_,rfl⟩
def dN{d e:AV}{vd ve:Value}(h:UU a b d e c.σ Q){value:Expr}{el eh et:Option Expr}{p:Pos}(R:RS X c)(ra:VR X c a va)(rb:VR X c b vb)(rd:VR X c d vd)(re:VR X c e ve) :
  Wp X (newFields "slice" [vb,vd,ve]) (λi s'=>Wp X (subscriptTail value (.Slice el eh et p) va i) (AX X (VR X) c Q) s') c.s:=by
 refine AD h λvs e0 h=>AD h λl e1 h=>AD h λu e2 h=>AD h λt e3 h=>Af e0 R ra λll us n p1 p2=>Ě (T:="slice") (data:=.fields #[vb,vd,ve]) (dict:=none) ?_
 have x:=R.push {cls:=.type "slice",data:=.fields #[vb,vd,ve]} c.s.toks
 obtain⟨ops,hs⟩:=O6 (lo:=el) (hi:=eh) (st:=et) (p:=p) (o:=.ref ll) (i:=.ref c.s.heap.objs.size)
 have l1:(c.s.heap.push {cls:=.type "slice",data:=.fields #[vb,vd,ve]}).IsList ll us.toArray:=AK (k:=n) (Ã _ p1)
 have pk:VA X c (Ad vs l u t) (slicePick us.toArray l u t).toList:=by
  unfold Ad
  rw[<-p2.len]
  exact p2.pick _
 exact tail_any (æ.IsList.typeIs (s:={c.s with heap:=c.s.heap.push {cls:=.type "slice",data:=.fields #[vb,vd,ve]}}) l1) slot_list_getitem.lookup
  (wpAny_getItem_list_slice l1 (æ.IsSliceOf.new ..) (JD e1 rb) (JD e2 rd) (JD e3 re) h.1 (.lift x (.newLst (c:=c.hp c.σ _ c.s.toks) _ 0 x.R (x.pre.va pk) h.2.2)) (h.2.1.line p2.len)) hs
end
end Mine
end
section
open PySem PySem.W PyProof.Rows
namespace Mine
def F6{M:aJ5}{Γ:Ctx}{p:Pos}{t:Sem aO4}{fs:List Frame}{s:zY}{e:End}{s':zY}(h:Runs M Γ p t fs s e s'):s.heap.objs.size<=s'.heap.objs.size:=by
 induction h with
 | update _ _ ih=>rw[Ċ]at ih;exact ih
 | alloc _ ih=>rw[ä]at ih;exists[_,_],0x1001180a08,ih
 | _=>first | exact zX _ | assumption | (simp only[zY.setGen]at *;omega) | omega
def Lx{M:aJ5}{Γ:Ctx}{p:Pos}{g:Nat}{r:Resume}{s:zY}{res:GenResult}{s':zY}(h:Wakes M Γ p g r s res s'):s.heap.objs.size<=s'.heap.objs.size:=by
 unfold Wakes at h
 split at h
 ·exact h.elim
 ·split at h
  ·obtain⟨e₁,s₁,h1,_,_,rfl⟩:=h
   have:=F6 h1;exact this
  ·rw[h.2];exact zX _
  ·rw[h.2];exact zX _
 ·obtain⟨e₁,s₁,h1,_,_,rfl⟩:=h
  have:=F6 h1;exact this
 ·rw[h.2];exact zX _
 ·rw[h.2];exact zX _
def U0{α:Type}{M:aJ5}{Γ:Ctx} :∀(t:Sem α) {Q:α->Pos->zY->Prop} {E:Value->Pos->zY->Prop} {p:Pos} {s:zY} (n:Nat),n<=s.heap.objs.size->ĭ M Γ t Q E p s->ĭ M Γ t (λa p' s'=>Q a p' s'/\n<=s'.heap.objs.size) (λa p' s'=>E a p' s'/\n<=s'.heap.objs.size) p s:=by
 intro t
 induction t with
 | pure a=>intro Q E p s n hn h;unfold ĭ at h ⊢;exact⟨h,hn⟩
 | raise a=>intro Q E p s n hn h;unfold ĭ at h ⊢;exact⟨h,hn⟩
 | unsupported=>intro Q E p s n hn h;unfold ĭ at h;exact h.elim
 | finish=>intro Q E p s n hn h;unfold ĭ at h;exact h.elim
 | register=>intro Q E p s n hn h;unfold ĭ at h;exact h.elim
 | yield=>intro Q E p s n hn h;unfold ĭ at h;exact h.elim
 | fork=>intro Q E p s n hn h;unfold ĭ at h;exact h.elim
 | await=>intro Q E p s n hn h;unfold ĭ at h;exact h.elim
 | rule tag k ih=>intro Q E p s n hn h;unfold ĭ at h ⊢;exact ih _ n hn h
 | «at» p' k ih=>intro Q E p s n hn h;unfold ĭ at h ⊢;exact ih _ n hn h
 | load a pt k ih=>intro Q E p s n hn h;unfold ĭ at h ⊢;obtain⟨o,h1,h2⟩:=h;exact⟨o,h1,ih _ n hn h2⟩
 | update a pt f k ih=>intro Q E p s n hn h;unfold ĭ at h ⊢;exact⟨h.1,ih _ n (by show n<=(s.heap.update a f).objs.size;rw[Ċ];exact hn) h.2⟩
 | loadIfAlive a k ih=>intro Q E p s n hn h;unfold ĭ at h ⊢;exact ih _ n hn h
 | point l k ih=>intro Q E p s n hn h;unfold ĭ at h ⊢;exact ih _ n hn h
 | alloc o k ih=>intro Q E p s n hn h;unfold ĭ at h ⊢;exact ih _ n (by show n<=(s.heap.push o).objs.size;rw[ä];exact id (ql [_,_] 0x181a001008 (by rfl') hn)) h
 | fresh k ih=>intro Q E p s n hn h;unfold ĭ at h ⊢;exact ih _ n hn h
 | ask k ih=>intro Q E p s n hn h;unfold ĭ at h ⊢;exact ih _ n hn h
 | choose src m k ih=>intro Q E p s n hn h;unfold ĭ at h ⊢;exact⟨h.1,ih _ n hn h.2⟩
 | os q l k ih=>intro Q E p s n hn h;unfold ĭ at h ⊢;exact ih _ n hn h
 | call c hd g l k ih=>
  intro Q E p s n hn h
  unfold ĭ at h ⊢
  obtain⟨r,s',h1,h2⟩:=h
  exact⟨r,s',h1,ih r n (zP hn (F6 h1)) h2⟩
 | handled own k ih=>intro Q E p s n hn h;unfold ĭ at h ⊢;exact ih _ n hn h
 | genState g k ih=>intro Q E p s n hn h;unfold ĭ at h ⊢;obtain⟨o,h1,h2⟩:=h;exact⟨o,h1,ih _ n hn h2⟩
 | newGen c k ih=>intro Q E p s n hn h;unfold ĭ at h ⊢;exact ih _ n hn h
 | resume g r l k ih=>
  intro Q E p s n hn h
  unfold ĭ at h ⊢
  obtain⟨res,s',h1,h2⟩:=h
  exact⟨res,s',h1,ih res n (zP hn (Lx h1)) h2⟩
 | stack k ih=>intro Q E p s n hn h;unfold ĭ at h ⊢;exact ih _ n hn h
 | thread k ih=>intro Q E p s n hn h;unfold ĭ at h ⊢;exact ih _ n hn h
def Lw{α:Type}{M:aJ5}{A:đ}{t:Sem α}{Q:α->zY->Prop}{E:Value->zY->Prop}{s:zY}(h:wpAny M A t Q E s) :
  wpAny M A t (λa s'=>Q a s'/\s.heap.objs.size<=s'.heap.objs.size) (λe s'=>E e s'/\s.heap.objs.size<=s'.heap.objs.size) s:=
 λΓ p hΓ=>U0 t _ (zX _) (h Γ p hΓ)
def EY{α:Type}{M:aJ5}{A:đ}{t:Sem α}{Q:α->zY->Prop}{E:Value->zY->Prop}{s:zY}(h:wpAny M A t (λa s'=>s.heap.objs.size<=s'.heap.objs.size->Q a s') E s):wpAny M A t Q E s:=
 Ĩ (Lw h) (λa s' h'=>h'.1 h'.2) λe s' h'=>h'.1
end Mine
end
section
open PySem PySem.W PyProof.Rows PySem.Spec PySem.Calls PySem.SeqAt
namespace Mine
structure MatC(h₀:æ)(C:É):Prop where
 iter :∀M,â M h₀ (typeLookup (.ref C) "__iter__") (some (.builtin "tuple.__iter__"))
 eq :∀M,â M h₀ (typeLookup (.ref C) "__eq__") (some (.builtin "tuple.__eq__"))
 sub :∀M,â M h₀ (isSubtype (.ref C) (.type "tuple")) true
def SH(C l b:É)(items items2:Array Value)(n n2:Nat)(dd:Option É)(e:Nat->Bool) :
  Meets (á.«tuple.__eq__» ⟨[.ref l,.ref b],[]⟩)
   (λA R s=>s.heap.get? l=some {cls:=.ref C,dict:=dd,data:=.seq items n,slots:=#[]}/\s.heap.get? b=some {cls:=.type "tuple",dict:=none,data:=.seq items2 n2,slots:=#[]}/\
    (∀j (h1:j<items.size) (h2:j<items2.size),Δ A.in1 s items[j] items2[j] (e j))/\
    R (.ok (.ret (.bool ((Ë (min items.size items2.size)).all e&&items.size==items2.size)))) s):=
 .of_wp λprog w A R s h=>by
  obtain⟨hp,g,d,tk,os⟩:=s;obtain⟨hl,hb,he,h⟩:=h
  have f2:=AutoSeq1.sub_tuple_tuple
  have hZ:(items.toList.zip items2.toList).length=min items.size items2.size:=by simp
  wp_walk using wpAny_loadPart' hl,wpAny_loadPart' hb,wpAny_forIn_list _ (λrest b s'=>b.1=none/\s'=⟨hp,g,d,tk,os⟩/\∃i,rest=(items.toList.zip items2.toList).drop i/\
   R (.ok (.ret (.bool (((Ë (min items.size items2.size)).drop i).all e&&items.size==items2.size)))) ⟨hp,g,d,tk,os⟩) _
  case turn=>
   rintro ⟨y,x⟩ rest b s' ⟨hb',rfl,i,hz,hR⟩
   have hlt:i<(items.toList.zip items2.toList).length:=by
    rcases aI0 i (items.toList.zip items2.toList).length with h' | h'
    ·exact h'
    ·rw[Ń h']at hz;cases hz
   have hm:i<min items.size items2.size:=hZ▸hlt
   have h1:i<items.size:=zZ hm (Ő _ _)
   have h2:i<items2.size:=zZ hm (ŋ _ _)
   rw[è hlt]at hz
   injection hz with hyx hrest
   have hy:y=items[i]:=by have:=congrArg Prod.fst hyx;simpa using this
   have hx:x=items2[i]:=by have:=congrArg Prod.snd hyx;simpa using this
   subst hy hx
   have hd:(Ë (min items.size items2.size)).drop i=i::(Ë (min items.size items2.size)).drop (i+1):=by simp[è,hm]
   rw[hd,List.all_cons]at hR
   refine zS (he i h1 h2 prog w _ _ ?_)
   cases hy:e i with
   | true=>
    rw[hy]at hR
    wp_walk
    exact⟨rfl,rfl,i+1,hrest,by simpa using hR⟩
   | false=>
    rw[hy]at hR
    wp_walk
    exact⟨_,rfl,by simpa using hR⟩
  case fin=>
   rintro ⟨b1,b2⟩ s' ⟨hb',rfl,i,hz,hR⟩
   simp only at hb'
   subst hb'
   have hge:min items.size items2.size<=i:=by
    rcases aI0 i (items.toList.zip items2.toList).length with h' | h'
    ·rw[è h']at hz;cases hz
    ·exact hZ▸h'
   rw[Ń (by simpa using hge)]at hR
   wp_walk
   exact⟨_,rfl,by simpa[á.Tuple.tupleCompareSizes]using hR⟩
  case h=>
   exact⟨rfl,rfl,0,rfl,by simpa using h⟩
section
variable{prog:þ}{w:Ì}{A:đ}{E:Value->zY->Prop}{s:zY}{h₀:æ}{C m:É}{us:List Value}{k:Nat×Option É}
def E5{M:aJ5}{Q:Value->zY->Prop}(hm:s.heap.get? m=some (BG C us k))(h:Q (.ref C) s):wpAny M A (typeOf (.ref m)) Q E s:=
 zS (aB2 hm (zW h))
def C6{M:aJ5}{name:Str}{r:Option Value}{Q:Option Value->zY->Prop}(hm:s.heap.get? m=some (BG C us k))(hk :∀b o,h₀.get? b=some o->s.heap.get? b=some o)
  (hl:â M h₀ (typeLookup (.ref C) name) r) (h:Q r s):wpAny M A (specialOf (.ref m) name) Q E s:=
 zS (E5 hm (hl A Q E s hk h))
def LA{M:aJ5}(hc:MatC h₀ C)(hm:s.heap.get? m=some (BG C us k))(hk :∀b o,h₀.get? b=some o->s.heap.get? b=some o):â M s.heap (isInstance (.ref m) (.type "tuple")) true:=
 λA Q E s' k' q=>zS (E5 (k' _ _ hm) ((hc.sub M) A Q E s' (λb o e=>k' _ _ (hk b o e)) q))
def Qa{id n:String}{B:á}{rest:List Value}{S:ļ}{Q:Value->zY->Prop}(hc:MatC h₀ C)(hm:s.heap.get? m=some (BG C us k))(hk :∀b o,h₀.get? b=some o->s.heap.get? b=some o)
  (plain:plainId id=true) (kind:builtinKind id=some .slot) (split:splitId id=some ("tuple",n)) (entry:entryFor table id=some B) (args:argsOk id ⟨.ref m::rest,[]⟩) (g:Meets (B ⟨.ref m::rest,[]⟩) S)
  (h:S A (wants Q E) s):wpAny (model prog w) A (call (.builtin id) (.ref m::rest)) Q E s:=by
 refine Ų (Ħ plain entry (aK8 kind split (LA hc hm hk) args ?_))
 exact g prog w A (wants Q E) s h
def IA{M:aJ5}{name:Str}{id:String}{args:List Value}{Q:Option Value->zY->Prop}(hm:s.heap.get? m=some (BG C us k))(hk :∀b o,h₀.get? b=some o->s.heap.get? b=some o)
  (hl:â M h₀ (typeLookup (.ref C) name) (some (.builtin id))) (hb :∀self,bindSpecial (.builtin id) self=pure (.builtin id,[self]))
  (hc:wpAny M A (call (.builtin id) (.ref m::args)) (λv=>Q (some v)) E s):wpAny M A (callSpecialIfBound? (.ref m) name args) Q E s:=by
 simp only[callSpecialIfBound?,bindSpecialIfBound?]
 refine ā (zS (zS (C6 hm hk hl ?_)))
 simp only[hb]
 refine zS (aD1 (aO5 ?_))
 have fin:wpAny M A (call (.builtin id) ([.ref m]++args) >>= λv=>pure (some v)) Q E s:=
  zS (Ĩ hc (λv s' h'=>zW h') λ_ _ h'=>h')
 split
 ·exact zS (zW (zW fin))
 ·exact aJ6 (zS (zW (zW fin)))
def Lm{M:aJ5}{name:Str}{id:String}{refuse:Sem Value}{Q:Option Value->zY->Prop}(hm:s.heap.get? m=some (BG C us k))(hk :∀b o,h₀.get? b=some o->s.heap.get? b=some o)
  (hl:â M h₀ (typeLookup (.ref C) name) (some (.builtin id))) (hb :∀self,bindSpecial (.builtin id) self=pure (.builtin id,[self]))
  (hc:wpAny M A (call (.builtin id) [.ref m]) (λv=>Q (some v)) E s):wpAny M A (callSpecialIfBoundUnlessNone? (.ref m) name refuse) Q E s:=by
 simp only[callSpecialIfBoundUnlessNone?,bindSpecialIfBound?]
 refine ā (zS (zS (C6 hm hk hl ?_)))
 simp only[hb]
 refine zS (aD1 (aO5 ?_))
 have fin:wpAny M A (if(Value.builtin id==Ē)=true then(refuse >>= λv=>pure (some v))else(call (.builtin id) [.ref m] >>= λv=>pure (some v))) Q E s:=by
  simp only[builtin_beq_none,ö,if_false]
  exact zS (Ĩ hc (λv s' h'=>zW h') λ_ _ h'=>h')
 split
 ·exact zS (zW (zW fin))
 ·exact aJ6 (zS (zW (zW fin)))
def Hv(C:É):isSubtype (.type "tuple") (.ref C)=pure false:=by rw[Ģ];rfl'
def XO{b:É}{ws:List Value}{k':Nat}{e:Nat->Bool}{Q:Value->zY->Prop}(hc:MatC h₀ C)(hm:s.heap.get? m=some (BG C us k))(hk :∀b o,h₀.get? b=some o->s.heap.get? b=some o)
  (hb:s.heap.get? b=some (An ws k')) (hu:A.units<cLine) (he :∀j (h1:j<us.length) (h2:j<ws.length),Δ A.in1 s us[j] ws[j] (e j))
  (h:Q (.bool (Dx e us.length ws.length)) s):wpAny (model prog w) A (richCompare .Eq (.ref m) (.ref b)) Q E s:=by
 have hT:s.TypeIs (.ref b) "tuple":=⟨_,hb,rfl⟩
 rcases hi:cmpInfo aG0.Eq with⟨sym,f,r⟩
 have hf:f=("__eq__":Str):=by have:=congrArg (·.2.1) hi;exact this.symm
 simp only[richCompare,hi,show oneThing? .Eq (.ref m) (.ref b)=none from rfl]
 try with_reducible refine ā ?_
 refine zS (wpAny_cRoomFor_or (.inr hu) ?_)
 refine zS (E5 hm (zS (aI3 hT ?_)))
 rw[if_pos (show((ī C != Ř "tuple")=true)from rfl)]
 refine zS (ų (Hv C) ?_)
 simp only[ö,if_false,Bool.not_false,if_true]
 subst hf
 refine zS (m:=tryCompare (.ref m) _ (.ref b)) ?_
 simp only[tryCompare]
 refine zS (IA hm hk (hc.eq _) PySem.F.slot_tuple_eq.bind (Qa (n:="__eq__") hc hm hk PySem.F.slot_tuple_eq.plain (by decide +kernel) (by decide +kernel) PySem.F.entry_tuple_eq (PySem.F.args_tuple_eq_2 _ _) (SH C m b us.toArray ws.toArray k.1 k' k.2 e) ⟨hm,hb,by simpa using he,?_⟩))
 refine zW (zW ?_)
 exact h
def Ke(hc:MatC h₀ C)(hk :∀b o,h₀.get? b=some o->s.heap.get? b=some o):IQ C s:=λA l b us ws k k' e hu h1 h2 he prog w E Q h=>XO hc h1 hk h2 hu he h
end
def H4(h:æ)(t:É)(items:Array Value):Prop:=∃o n,h.get? t=some o/\o.data = .seq items n
section
variable{prog:þ}{w:Ì}{A:đ}{E:Value->zY->Prop}{s:zY}
def N7{it t:É}{i:Nat}{items:Array Value}{x:Value}{Q:Option Value->zY->Prop}(hit:s.heap.IsTupleIter it t i)
  (ht:H4 s.heap t items) (hx:items[i]?=some x)
  (hQ :∀h',h'.IsTupleIter it t (i+1)->ÿ it s.heap h'->Q (some x) {s with heap:=h'}) :
  wpAny (model prog w) A (pyNext (.ref it)) Q E s:=by
 obtain⟨o,ho,hc,hd⟩:=id hit
 obtain⟨ol,nl,hol,hdl⟩:=ht
 unfold pyNext
 refine zS (aG4 (ċ (name:=zQ "__next__") hit.typeIs ě
  (ă ě hit.typeIs PySem.F.entry_tuple_iterator_next ?_ (PySem.F.args_tuple_iterator_next_1 _))))
 show wpAny _ _ (field (.ref it) 0 >>= _) _ _ s
 refine zS (Ŵ ho hd (x:=.ref t) rfl ?_)
 show wpAny _ _ (if(ī t==Ē)=true then _ else _) _ _ s
 rw[if_neg (show ¬ ((ī t==Ē)=true)from š)]
 show wpAny _ _ (field (.ref it) 1 >>= _) _ _ s
 refine zS (Ŵ ho hd (x:=.int i 0) rfl ?_)
 show wpAny _ _ (seqItems? (.ref t) >>= _) _ _ s
 refine zS (ŵ hol hdl ?_)
 simp only[œ,hx]
 refine zS (aF4 ho hd (by simp) (zW ⟨x,rfl,zW (hQ _ ?_ (Ŀ ..))⟩))
 exact⟨_,Ę _ ho (Obj.isFreed_of_fields (Obj.data_mapFields hd _)),(Obj.cls_mapFields ..).trans hc,by
  rw[Obj.data_mapFields hd];simp[rawInt]⟩
def RM{it t:É}{i:Nat}{items:Array Value}{Q:Option Value->zY->Prop}(hh:A.handled=none)
  (hit:s.heap.IsTupleIter it t i) (ht:H4 s.heap t items) (hx:items[i]?=none)
  (hQ :∀h',aM4 it s.heap h'->s.heap.objs.size<=h'.objs.size->Q none {s with heap:=h'}):wpAny (model prog w) A (pyNext (.ref it)) Q E s:=by
 obtain⟨o,ho,hc,hd⟩:=id hit
 obtain⟨ol,nl,hol,hdl⟩:=ht
 unfold pyNext
 refine zS (aG4 (ċ (name:=zQ "__next__") hit.typeIs ě
  (ă ě hit.typeIs PySem.F.entry_tuple_iterator_next ?_ (PySem.F.args_tuple_iterator_next_1 _))))
 show wpAny _ _ (field (.ref it) 0 >>= _) _ _ s
 refine zS (Ŵ ho hd (x:=.ref t) rfl ?_)
 show wpAny _ _ (if(ī t==Ē)=true then _ else _) _ _ s
 rw[if_neg (show ¬ ((ī t==Ē)=true)from š)]
 show wpAny _ _ (field (.ref it) 1 >>= _) _ _ s
 refine zS (Ŵ ho hd (x:=.int i 0) rfl ?_)
 show wpAny _ _ (seqItems? (.ref t) >>= _) _ _ s
 refine zS (ŵ hol hdl ?_)
 simp only[œ,hx]
 refine zS (aF5 (zS (aF4 ho hd (by simp) ?_)))
 show wpAny _ _ (newExc (.type "StopIteration") [] >>= _) _ _ _
 refine zS ?_
 simp only[newExc,newTuple]
 refine zS (Ě ?_ (by size_fits))
 refine zS (m:=firstArgMember _ _) (ų (a:=Ē) (by first | rfl | (simp only[firstArgMember];rfl)) ?_)
 refine Ě ?_ (by size_fits)
 simp only[raiseNew]
 refine zS (wpAny_handled ?_)
 first | rw[show A.in1.handled=none from hh] | rw[hh]
 refine zS (zW (wpAny_throw ?_))
 refine zS (aD2 (T:="StopIteration") (b:=true) ⟨_,Î _ rfl,rfl⟩ isSubtype_stop ?_)
 refine zW (hQ _ (((Ŀ ..).extBut.push _).push _) ?_)
 rw[ä,ä,Ċ]
 exists[_],0x18180aa00
theorem Jp{it t:É}{items:Array Value}(hne:t≠it) :∀(n i:Nat) (s:zY) (Q:List Value->zY->Prop),s.heap.IsTupleIter it t i->H4 s.heap t items->i+n<=items.size->
  (∀h',h'.IsTupleIter it t (i+n)->ÿ it s.heap h'->Q ((items.toList.drop i).take n) {s with heap:=h'})->wpAny (model prog w) A (draw (.ref it) n) Q E s
 | 0,i,s,Q,hit,_,_,hQ=>by
  show wpAny _ _ (pure []) Q E s
  exact zW (by simpa using hQ s.heap hit (ÿ.refl ..))
 | n+1,i,s,Q,hit,ht,hle,hQ=>by
  have hlt:i<items.size:=by exists[_,_,_],0x2012181a0a08,hle
  show wpAny _ _ (pyNext (.ref it) >>= _) Q E s
  refine zS (N7 hit ht (x:=items[i]) (by simp[hlt]) λh₁ hit₁ hs₁=>?_)
  have ht₁:H4 h₁ t items:=let⟨o,n,e,r⟩:=ht;⟨o,n,(hs₁.2 t hne).trans e,r⟩
  refine zS (ā (Jp hne n (i+1) _ _ hit₁ ht₁ (by exists[_,_,_],0x21180aa02181a0a08,hle) λh₂ hit₂ hs₂=>zW ?_))
  have hd:items.toList.drop i=items[i]::items.toList.drop (i+1):=by simp[è,hlt]
  have:=hQ h₂ (by rw[show i+(n+1)=i+1+n by exists[_,_],0x1180aa181a0a2];exact hit₂) (hs₁.trans hs₂)
  rw[hd,List.take_succ_cons]at this
  exact this
def LR{t:É}{items:Array Value}{Q:List Value->zY->Prop}(hh:A.handled=none)(ht:H4 s.heap t items)
  (hn :∀{Q:Bool->zY->Prop} {E},Q false s->wpAny (model prog w) A (notIterableAtAll (.ref t)) Q E s)
  (hi :∀{Q:Value->zY->Prop} {E},Q (.ref s.heap.objs.size) {s with heap:=s.heap.push {cls:=.type "tuple_iterator",data:=.fields #[.ref t,.int 0 0]}}->wpAny (model prog w) A (pyIter (.ref t)) Q E s)
  (hQ :∀h',(∀b o,s.heap.get? b=some o->h'.get? b=some o)->s.heap.objs.size<=h'.objs.size->Q items.toList {s with heap:=h'}):wpAny (model prog w) A (unpackItems (.ref t) items.size none) Q E s:=by
 have hlt:t≠s.heap.objs.size:=by obtain⟨o,n,ho,_⟩:=ht;exact ß (ğ ho)
 unfold unpackItems
 refine zS (hn ?_)
 simp only[ö,if_false]
 refine zS (ā (hi ?_))
 have ht0:H4 (s.heap.push {cls:=.type "tuple_iterator",data:=.fields #[.ref t,.int 0 0]}) t items:=let⟨o,n,e,r⟩:=ht;⟨o,n,Ã _ e,r⟩
 refine zS (ā (Jp hlt items.size 0 _ _ ⟨_,Î _ rfl,rfl,rfl⟩ ht0 (by exists[_],0x8a0) λh₁ hit₁ hs₁=>?_))
 have hall:Ž items.size (ķ 0 items.toList)=items.toList:=by
  rw[aF6];exact Ţ (by simp)
 rw[hall]
 rw[if_neg (by simp)]
 have ht₁:H4 h₁ t items:=let⟨o,n,e,r⟩:=ht0;⟨o,n,(hs₁.2 t hlt).trans e,r⟩
 refine zS (ā (RM hh hit₁ ht₁ (by simp) λh₂ he₂ hsz=>?_))
 simp only[Option.isSome_none,ö,if_false]
 refine zW (hQ h₂ (λb o e=>?_) ?_)
 ·have hb:b≠s.heap.objs.size:=ß (ğ e)
  exact he₂ b o hb (hs₁.extBut b o hb (Ã _ e))
 ·have:=hs₁.1
  rw[ä]at this
  dsimp only at hsz this
  exists[_,_,_],0x120182a0281008,hsz,this
end
section
variable{prog:þ}{w:Ì}{A:đ}{E:Value->zY->Prop}{s:zY}{h₀:æ}{C m:É}{us:List Value}{k:Nat×Option É}
def DD{id n:String}{B:á}{rest:List Value}{Q:Value->zY->Prop}(hc:MatC h₀ C)(hm:s.heap.get? m=some (BG C us k))(hk :∀b o,h₀.get? b=some o->s.heap.get? b=some o)
  (plain:plainId id=true) (kind:builtinKind id=some .slot) (split:splitId id=some ("tuple",n)) (entry:entryFor table id=some B) (args:argsOk id ⟨.ref m::rest,[]⟩)
  (h:wpAny (model prog w) A.in1 (B ⟨.ref m::rest,[]⟩) (λfin s'=>∃v,fin = .done (.ret v)/\Q v s') E s):wpAny (model prog w) A (call (.builtin id) (.ref m::rest)) Q E s:=by
 refine Ų (Ħ plain entry (aK8 kind split (LA hc hm hk) args (Ĩ h (λfin s' h'=>?_) λ_ _ h'=>h')))
 obtain⟨v,rfl,hv⟩:=h';exact hv
def Qm{Q:Value->zY->Prop}(hc:MatC h₀ C)(hm:s.heap.get? m=some (BG C us k))(hk :∀b o,h₀.get? b=some o->s.heap.get? b=some o)
  (hQ:Q (.ref s.heap.objs.size) {s with heap:=s.heap.push {cls:=.type "tuple_iterator",data:=.fields #[.ref m,.int 0 0]}}):wpAny (model prog w) A (pyIter (.ref m)) Q E s:=by
 unfold pyIter
 refine zS (C6 hm hk (hc.iter _) ?_)
 show wpAny _ A (callSpecialIfBoundUnlessNone? (.ref m) "__iter__" _ >>= _) Q E s
 refine zS (Lm hm hk (hc.iter _) aA9.bind (DD (n:="__iter__") hc hm hk aA9.plain (by decide +kernel) (by decide +kernel) PySem.F.entry_tuple_iter (PySem.F.args_tuple_iter_1 _) ?_))
 show wpAny _ _ (do ret (<-newFields "tuple_iterator" [.ref m,rawInt 0])) _ _ s
 refine zS (Ě (zW ⟨_,rfl,?_⟩))
 have hT:zY.TypeIs {s with heap:=s.heap.push {cls:=.type "tuple_iterator",data:=.fields #[.ref m,.int 0 0]}} (.ref s.heap.objs.size) "tuple_iterator":=⟨_,Î _ rfl,rfl⟩
 exact zS (aE2 hT ě.lookup (zW hQ))
end
def Ln(a:AV)(k:Nat)(σ:St)(Q:List AV->St->Prop):Prop:=A9 (Cz a) λp=>SK.rec (p.2.length=k/\Q p.2 σ) False (p.2.length=k/\Q p.2 σ) p.1
section
variable{X:Cx}{c:Cf}{a:AV}{va:Value}
def Uw{k:Nat}{Q:List AV->St->Prop}(hh:X.A.handled=none)(hc:MatC X.h₀ X.L.C)(h:Ln a k c.σ Q)(R:RS X c)(ra:VR X c a va):Wp X (unpackItems va k none) (AX X (VA X) c Q) c.s:=by
 refine AD h λp e h=>?_
 have q:=C7 e ra
 obtain⟨kd,vs⟩:=p
 cases q with
 | mk l us hv hp _ hr=>
 subst hv
 obtain⟨n,hp⟩:=hp
 have fin :∀{k},vs.length=k/\Q vs c.σ->(∀{Q:Bool->zY->Prop} {E},Q false c.s->wpAny (model X.L.prog X.L.w) X.A (notIterableAtAll (.ref l)) Q E c.s)->
   (∀{Q:Value->zY->Prop} {E},Q (.ref c.s.heap.objs.size) {c.s with heap:=c.s.heap.push {cls:=.type "tuple_iterator",data:=.fields #[.ref l,.int 0 0]}}->wpAny (model X.L.prog X.L.w) X.A (pyIter (.ref l)) Q E c.s)->Wp X (unpackItems (.ref l) k none) (AX X (VA X) c Q) c.s:=λ{k} h hn hi=>
  h.1▸hr.len▸LR hh ⟨_,_,hp,rfl⟩ hn hi λh' k1 k2=>.to (R.grow c.s.toks k1 k2) ((R.grow c.s.toks k1 k2).pre.va hr) h.2
 cases kd with
 | tup=>exact fin h (λq=>zS (aE2 (B0 (k:=n.1) hp).typeIs aA9.lookup (zW q))) λq=>wpAny_pyIter_tuple (B0 (k:=n.1) hp) q
 | lst=>exact h.elim
 | mat=>exact fin h (λq=>zS (C6 (us:=us) (k:=n) hp R.base (hc.iter _) (zW q))) λq=>Qm (us:=us) (k:=n) hc hp R.base q
end
end Mine
end
section
open PySem PySem.W PyProof.Rows PySem.Spec PySem.Calls
namespace Mine
def KA:builtinKind "divmod" = none:=by decide +kernel
def I3:plainId "divmod" = true:=by decide +kernel
def JO:entryFor table "divmod" = some á.«divmod»:=ž (by rfl')
def KY(a b:Value):argsOk "divmod" ⟨[a,b],[]⟩:=by unfold argsOk;rfl'
def KM:Slot "int" (PySem.dunder "divmod") "int.__divmod__":=(show PySem.dunder "divmod" = ("__divmod__":Str)from by rfl')▸PySem.F.slot_int_divmod
def FY:fillsNumberSlot (.type "int") "divmod" = pure true:=fillsNumberSlot_of (id:="int.__divmod__") (by rw[Ą,ç];rfl') (by rfl') (r:=some (.builtin "int.__rdivmod__")) (by rw[Ą,ç];rfl')
section
variable{prog:þ}{w:Ì}{A:đ}{E:Value->zY->Prop}{s:zY}
def F8(a:Int)(t:Tok)(b:Int)(u:Tok)(hc0:¬(b==0)=true)(hc1:¬(ģ a b)=true) :
  Meets (á.«int.__divmod__» ⟨[.int a t,.int b u],[]⟩) (λA R s=>R (.ok (.ret (.ref s.heap.objs.size))) {s with heap:=s.heap.push {cls:=.type "tuple",data:=.seq #[.int (a.fdiv b) s.toks,.int (a.fmod b) (s.toks+1)]},toks:=s.toks+2}):=
 .of_wp λprog w A R s h=>by obtain⟨hp,g,d,tk,os⟩:=s;wp_walk;exact⟨_,rfl,h⟩
def K3{a b:Int}{t u:Tok}{Q:Value->zY->Prop}(hb:b≠0)(hp:ģ a b=false)(q:Q (.ref s.heap.objs.size) {s with heap:=s.heap.push {cls:=.type "tuple",data:=.seq #[.int (a.fdiv b) s.toks,.int (a.fmod b) (s.toks+1)]},toks:=s.toks+2}) :
  wpAny (model prog w) A (call (.builtin "divmod") [.int a t,.int b u] []) Q E s:=by
 refine call_function_tree KA I3 JO (KY _ _) ?_
 show wpAny _ _ (do
  let v<-ũ "divmod()" "divmod" (.int a t) (.int b u)
  ret v) _ _ _
 have hc:wpAny (model prog w) A.in1 (call (.builtin "int.__divmod__") [.int a t,.int b u]) (λv s'=>v = .ref s.heap.objs.size/\s' = {s with heap:=s.heap.push {cls:=.type "tuple",data:=.seq #[.int (a.fdiv b) s.toks,.int (a.fmod b) (s.toks+1)]},toks:=s.toks+2}) E s:=
  aA4 PySem.F.slot_int_divmod (aI1 s a t) PySem.F.entry_int_divmod (PySem.F.args_int_divmod_2 _ _) (F8 a t b u (λz=>hb (å z)) (λz=>by rw[hp]at z;cases z)) ⟨rfl,rfl⟩
 have h1:wpAny (model prog w) A.in1 (ũ "divmod()" "divmod" (.int a t) (.int b u)) (λv s'=>v = .ref s.heap.objs.size/\s' = {s with heap:=s.heap.push {cls:=.type "tuple",data:=.seq #[.int (a.fdiv b) s.toks,.int (a.fmod b) (s.toks+1)]},toks:=s.toks+2}) E s:=by
  unfold ũ
  refine ā (zS (wpAny_binaryOp1_same (T:="int") (nm:="divmod") (id:="int.__divmod__") (aI1 s a t) (aI1 s b u) FY KM (Ĩ hc (λv s' e=>?_) λ_ _ e=>e)))
  obtain⟨rfl,rfl⟩:=e
  exact⟨λz=>(nomatch z),zW ⟨rfl,rfl⟩⟩
 refine zS (Ĩ h1 (λv s' e=>?_) λ_ _ e=>e)
 obtain⟨rfl,rfl⟩:=e
 exact zW q
def OK{l b:É}{us ws:List Value}{n m:Nat}{Q:Value->zY->Prop}(hl:s.heap.get? l=some {cls:=.type "list",data:=.seq us.toArray n})(hb:s.heap.get? b=some {cls:=.type "list",data:=.seq ws.toArray m})(hz:us.length+ws.length<=1000000)
  (q:Q .none {s with heap:=s.heap.update l (Ă λx=>x++ws.toArray)}):wpAny (model prog w) A (call (.builtin "list.extend") [.ref l,.ref b] []) Q E s:=
 have h6:1000000<=sizeLine:=by decide
 have h7:¬(!us.toArray.isEmpty&&Ψ (us.toArray.size+ws.toArray.size))=true:=by simp[Ψ];intro _;exists[_,_,_],0x210a020f42409080f4240910a08,hz,h6
 aA4 PySem.F.slot_list_extend ⟨_,hl,rfl⟩ PySem.F.entry_list_extend (PySem.F.args_list_extend_2 _ _) (AutoSeq1.list_extend_list_list_0 l us.toArray n b ws.toArray m h7 (by simp;exact zP (zP (Æ _ _) hz) (by decide)) (by simp;exact zP hz (by decide))) ⟨hl,hb,q⟩
def Hn{l:É}{us:List Value}{n j:Nat}{t:Tok}{v:Value}{Q:Unit->zY->Prop}(hl:s.heap.get? l=some {cls:=.type "list",data:=.seq us.toArray n})(hj:j<us.length)(hfit:j<9223372036854775808)
  (q:Q () {s with heap:=s.heap.update l (Ă λxs=>xs.setIfInBounds j v)}):wpAny (model prog w) A (setItem (.ref l) (.int (j:Int) t) v) Q E s:=by
 have hL:s.TypeIs (.ref l) "list":=⟨_,hl,rfl⟩
 have hf:Ű (j:Int)=true:=fitsIndex_of (ą j) (Ç.mpr hfit)
 have hx:us.toArray[j]?=some us[j]:=ì.trans (zV hj)
 generalize hk:(j:Int)=k at hf
 unfold setItem
 with_reducible refine ā ?_
 refine zS (wpAny_sequenceKey hL (by decide) ?_)
 refine zS (ċ (name:=zQ "__setitem__") hL ŏ (ă ŏ hL PySem.F.entry_list_setitem ?_ (PySem.F.args_list_setitem_3 _ _ _)))
 unfold á.«list.__setitem__»
 refine zS (ų (show á.List.listBlankSlotArgs "__setitem__" 2 ⟨[.ref l,.int k t,v],[]⟩=pure (.ref l,[.int k t,v])from rfl) ?_)
 dsimp only
 refine zS (wpAny_listSubscript_int hf ?_)
 subst hk
 show wpAny _ _ ((seqItemAt l j >>= λr=>pure (r.map (j,·))) >>= _) _ _ s
 refine zS (zS (wpAny_seqItemAt hl rfl (zW ?_)))
 rw[hx]
 exact zS (wpAny_setSeqItemAt hl rfl (zW ⟨_,rfl,zW q⟩))
def JE{l:É}{us:List Value}{n:Nat}{t:Tok}{v:Value}{Q:Unit->zY->Prop}(hl:s.heap.get? l=some {cls:=.type "list",data:=.seq us.toArray n})(hj:0<us.length)
  (q:Q () {s with heap:=s.heap.update l (Ă λxs=>xs.setIfInBounds (us.length-1) v)}):wpAny (model prog w) A (setItem (.ref l) (.int (-1) t) v) Q E s:=by
 have hL:s.TypeIs (.ref l) "list":=⟨_,hl,rfl⟩
 have hf:Ű (-1)=true:=fitsIndex_neg (by decide) (by decide)
 have hx:us.toArray[us.length-1]?=some us[us.length-1]:=ì.trans (zV (aK9 hj aD8))
 have hi:seqIndex? (aM5 0) us.toArray.size=some (us.length-1):=(seqIndex_neg (by decide) (by show -(us.length:Int)<=-1;exact id (ql [_] 0x181f00f1f300818 (by rfl') hj))).trans (congrArg some (by show((-1:Int)+(us.length:Int)).toNat=_;exact id (ql [_,_] 0x181b020810f181fae00f58 (by rfl') (Ý _))))
 generalize hk:(-1:Int)=k at hf
 unfold setItem
 with_reducible refine ā ?_
 refine zS (wpAny_sequenceKey hL (by decide) ?_)
 refine zS (ċ (name:=zQ "__setitem__") hL ŏ (ă ŏ hL PySem.F.entry_list_setitem ?_ (PySem.F.args_list_setitem_3 _ _ _)))
 unfold á.«list.__setitem__»
 refine zS (ų (show á.List.listBlankSlotArgs "__setitem__" 2 ⟨[.ref l,.int k t,v],[]⟩=pure (.ref l,[.int k t,v])from rfl) ?_)
 dsimp only
 refine zS (wpAny_listSubscript_int hf ?_)
 subst hk
 show wpAny _ _ ((aB3 (.ref l) >>= λxs=>pure ((seqIndex? (aM5 0) xs.size).bind λi=>xs[i]?.map (i,·))) >>= _) _ _ s
 refine zS (zS ?_)
 show wpAny _ _ (seqItems? (.ref l) >>= _) _ _ s
 refine zS (ŵ hl rfl (zW (zW ?_)))
 show wpAny _ _ (match(seqIndex? (aM5 0) us.toArray.size).bind λi=>us.toArray[i]?.map (i,·)with | _=>_) _ _ s
 rw[hi]
 simp only[Option.bind_some,hx,Option.map_some]
 exact zS (wpAny_setSeqItemAt hl rfl (zW ⟨_,rfl,zW q⟩))
end
end Mine
end
section
open PySem PySem.W PyProof.Rows PySem.Spec PySem.Calls PySem.SeqAt
namespace Mine
def Al(as:List AV)(k:AV->List AV->Prop):Prop:=Ä False (λa r _=>k a r) as
def nil(as:List AV)(P:Prop):Prop:=Ä P (λ_ _ _=>False) as
def dset{β:Type}(es:List (AE×β))(k:AE)(v:β):List (AE×β):=
 if es.any (λkv=>kv.1=k)then es.map (λkv=>if kv.1=k then(kv.1,v)else kv)else es++[(k,v)]
section
variable{L:Cd}{G:Gh}{h:æ}{n:Nat}{es:List (AE×AV)}{kvs:List (AE×Value)}
def VDict.cases{M:List (AE×AV)->List (AE×Value)->Prop}(m0:M [] [])(m1 :∀k a v r u,VRel L G h n a v->M r u->M ((k,a)::r) ((k,v)::u)):VDict L G h n es kvs->M es kvs:=
 Ä (motive:=λes=>∀kvs,VDict L G h n es kvs->M es kvs) (λkvs q=>(show kvs=[]from q)▸m0) (λa r ih kvs q=>by
  obtain⟨k,a⟩:=a
  obtain⟨v,u,rfl,q1,q2⟩:=q
  exact m1 k a v r u q1 (ih u q2)) es kvs
def VDict.cons{k:AE}{a:AV}{v:Value}{r:List (AE×AV)}{u:List (AE×Value)}(q:VRel L G h n a v)(q':VDict L G h n r u):VDict L G h n ((k,a)::r) ((k,v)::u):=⟨v,u,rfl,q,q'⟩
theorem VDict.dset(q:VDict L G h n es kvs)(k:AE){a:AV}{v:Value}(hv:VRel L G h n a v):VDict L G h n (dset es k a) (stored kvs k v):=by
 have e:es.any (λkv=>kv.1=k)=kvs.any (λkv=>kv.1=k):=VDict.cases (M:=λes kvs=>es.any (λkv=>kv.1=k)=kvs.any (λkv=>kv.1=k)) rfl (λk' _ _ _ _ _ ih=>congrArg (decide (k'=k) || ·) ih) q
 unfold Mine.dset stored
 rw[e]
 cases kvs.any (λkv=>kv.1=k)with
 | true=>
  refine VDict.cases (M:=λes kvs=>VDict L G h n (es.map λkv=>if kv.1=k then(kv.1,a)else kv) (kvs.map λkv=>if kv.1=k then(kv.1,v)else kv)) rfl (λk' b w r u hw ih=>?_) q
  rw[Ć,Ć]
  by_cases hk:k'=k
  ·rw[if_pos hk,if_pos hk];exact ih.cons hv
  ·rw[if_neg hk,if_neg hk];exact ih.cons hw
 | false=>exact VDict.cases (M:=λes kvs=>VDict L G h n (es++[(k,a)]) (kvs++[(k,v)])) (VDict.cons hv rfl) (λk' b w r u hw ih=>ih.cons hw) q
end
section
variable{X:Cx}{c:Cf}{a b d:AV}{va vb vd:Value}{Q:AV->St->Prop}
@[elab_as_elim] theorem AL{as:List AV}{k:AV->List AV->Prop}{P:List Value->Prop}{vas:List Value}(h:Al as k)(q:VA X c as vas)(f :∀a r v vr,VR X c a v->VA X c r vr->k a r->P (v::vr)):P vas:=by
 cases as with
 | nil=>exact h.elim
 | cons a r=>
  obtain⟨v,u,rfl,q1,q2⟩:=q
  exact f a r v u q1 q2 h
@[elab_as_elim] theorem BD{as:List AV}{K:Prop}{P:List Value->Prop}{vas:List Value}(h:nil as K)(q:VA X c as vas)(f:K->P []):P vas:=by
 cases as with
 | nil=>rw[show vas=[]from q];exact f h
 | cons a r=>exact h.elim
def Fl(σ:St)(a:AV)(k:Nat->List AV->Prop):Prop:=A9 (D0 σ a) λp=>A9 p.2.lst λvs=>AC vs.length/\k p.1 vs
def DJ(σ:St)(a:AV)(k:Nat->List (AE×AV)->Prop):Prop:=A9 (D0 σ a) λp=>A9 p.2.dct λvs=>AC vs.length/\k p.1 vs
@[elab_as_elim] theorem Du{k:Nat->List AV->Prop}{P:Value->Prop}(h:Fl c.σ a k)(R:RS X c)(r:VR X c a va)(f :∀x vs us n,c.σ.H.lookup x=some (.list vs)->c.s.heap.get? (c.G.μ x)=some (A1 us n)->VA X c vs us->us.length<=sizeLine->k x vs->P (.ref (c.G.μ x))):P va:=by
 refine AD h λp e1 h=>AD h λvs e2 h=>?_
 have q:=EJ e1 r
 rw[AO.lst_eq e2]at q
 rw[q.1]
 exact(R.obj _ _ q.2).rel.casesOn λus hp hr=>hp.elim λn hp=>f _ vs us n.1 q.2 hp hr (h.1.line hr.len) h.2
@[elab_as_elim] theorem HE{k:Nat->List (AE×AV)->Prop}{P:Value->Prop}(h:DJ c.σ a k)(R:RS X c)(r:VR X c a va)(f :∀x es kvs,c.σ.H.lookup x=some (.dict es)->X.L.dct c.s.heap (c.G.μ x) kvs->VD X c es kvs->kvs.length<=sizeLine->k x es->P (.ref (c.G.μ x))):P va:=by
 refine AD h λp e1 h=>AD h λvs e2 h=>?_
 have q:=EJ e1 r
 rw[AO.dct_eq e2]at q
 rw[q.1]
 exact(R.obj _ _ q.2).rel.casesOn λus hp hr=>f _ vs us q.2 hp hr (h.1.line (VDict.len hr)) h.2
def RS.setList(R:RS X c){x:Nat}{vs vs':List AV}{us:List Value}{h':æ}{n:Nat}(t:Nat)(hx:c.σ.H.lookup x=some (.list vs))(hs:ÿ (c.G.μ x) c.s.heap h')(hl:h'.get? (c.G.μ x)=some (A1 us n))(r:VA X c vs' us):CX X c (c.hp (c.σ.set x (.list vs')) h' t):=
 R.setObj hx hs λp=>⟨us,⟨(n,none),hl⟩,p.va r⟩
def RS.setDict(R:RS X c){x:Nat}{vs vs':List (AE×AV)}{us:List (AE×Value)}{h':æ}(t:Nat)(hx:c.σ.H.lookup x=some (.dict vs))(hs:ÿ (c.G.μ x) c.s.heap h')(hl:X.L.dct h' (c.G.μ x) us)(r:VD X c vs' us):CX X c (c.hp (c.σ.set x (.dict vs')) h' t):=
 R.setObj hx hs λp=>⟨us,hl,p.vd r⟩
def TR(a b d:AV)(σ:St)(Q:St->Prop):Prop:=A9 (D0 σ a) λp=>AO.rec (λvs=>AC vs.length/\A9 (Aw b) λk=>((0<=k/\k<vs.length)/\Q (σ.set p.1 (.list (vs.set k.toNat d))))\/((k = -1/\0<vs.length)/\Q (σ.set p.1 (.list (vs.set (vs.length-1) d))))) (λes=>AC es.length/\A9 (BR b) λk=>Q (σ.set p.1 (.dict (dset es k d)))) (λ_=>False) (λ_ _=>False) p.2
theorem VAll.set{L:Cd}{G:Gh}{h:æ}{n:Nat}{vs:List AV}{d:AV}{v:Value}(hd:VRel L G h n d v) :∀{us:List Value} (j:Nat),VAll L G h n vs us->VAll L G h n (vs.set j d) (us.set j v):=
 Ä (motive:=λvs=>∀{us:List Value} (j:Nat),VAll L G h n vs us->VAll L G h n (vs.set j d) (us.set j v)) (λ{us} j q=>(show us=[]from q)▸rfl) (λa r ih us j q=>by
  obtain⟨w,u,rfl,q1,q2⟩:=q
  cases j with
  | zero=>exact⟨v,u,rfl,hd,q2⟩
  | succ j=>exact⟨w,u.set j v,rfl,q1,ih j q2⟩) vs
def Zs{Q:St->Prop}(h:TR a b d c.σ Q)(R:RS X c)(ra:VR X c a va)(rb:VR X c b vb)(rd:VR X c d vd):Ev X c Q (setItem va vb vd):=
 AD h λp e h=>by
  obtain⟨x,o⟩:=p
  cases o with
  | list vs=>
   have h':Fl c.σ a λx vs=>A9 (Aw b) λk=>((0<=k/\k<vs.length)/\Q (c.σ.set x (.list (vs.set k.toNat d))))\/((k = -1/\0<vs.length)/\Q (c.σ.set x (.list (vs.set (vs.length-1) d)))):=by
    unfold Fl;rw[e];exact h
   exact Du h' R ra λx vs us n hx p1 p2 hz h=>AD h λk e h=>h.elim (λh=>by
    obtain⟨⟨h1,h2⟩,h⟩:=h
    obtain⟨j,rfl⟩:=Int.eq_ofNat_of_zero_le h1
    have hj:j<us.length:=p2.len▸Ç.mp h2
    exact AM e rb λt=>Hn p1 hj (zZ hj (zP hz (by decide))) (.to (b:=()) (R.setList _ hx (.update ..) ((aL0 (n:=n) (h:=c.s.heap) (l:=c.G.μ x) (items:=us.toArray) p1 (λxs=>xs.setIfInBounds j vd)).trans (congrArg (λz=>some ({cls:=.type "list",data:=.seq z _}:Obj)) (List.setIfInBounds_toArray us j vd))) (VAll.set rd j p2)) trivial h)) λh=>by
    obtain⟨⟨hk,h2⟩,h3⟩:=h
    subst hk
    rw[<-p2.len]at h3 h2
    exact AM e rb λt=>JE p1 h2 (.to (b:=()) (R.setList _ hx (.update ..) ((aL0 (n:=n) (h:=c.s.heap) (l:=c.G.μ x) (items:=us.toArray) p1 (λxs=>xs.setIfInBounds (us.length-1) vd)).trans (congrArg (λz=>some ({cls:=.type "list",data:=.seq z _}:Obj)) (List.setIfInBounds_toArray us (us.length-1) vd))) (VAll.set rd (us.length-1) p2)) trivial h3)
  | dict es=>
   have h':DJ c.σ a λx es=>A9 (BR b) λk=>Q (c.σ.set x (.dict (dset es k d))):=by
    unfold DJ;rw[e];exact h
   exact HE h' R ra λx es kvs hx p1 p2 hz h=>AD h λk e h=>wpAny_setItem_pairs (B6 e rb) p1.1 (λh' hd hs=>.to (b:=()) (R.setDict _ hx hs ⟨hd,p1.2⟩ (p2.dset k rd)) trivial h) hz
  | set ks=>exact h.elim
  | inst C at_=>exact h.elim
def FT{prog:þ}{w:Ì}{A:đ}{s:zY}{a:É}{k:AE}{key:Value}{S:AE->Bool}{n:Nat}{E:Value->zY->Prop}{Q:Value->zY->Prop}(hkey:At k key=true)(hS:s.heap.SetOf (Bx prog w) a S n)
  (h:Q (.bool (S k)) {s with toks:=s.toks+1}):wpAny (model prog w) A (á.«frozenset.__contains__» ⟨[.ref a,key],[]⟩) (λfin s'=>∃v,fin = .done (.ret v)/\Q v s') E s:=by
 unfold á.«frozenset.__contains__» á.Frozenset.oneOther
 simp only[List.isEmpty_nil,bind_assoc]
 unfold á.Frozenset.addrOf á.Frozenset.withSetAsKey setContains
 refine zS (zW ?_)
 try dsimp only
 refine zS (zW ?_)
 try dsimp only
 refine zS (aJ6 ?_)
 refine ā ?_
 have sc:key.scannable=true:=AE.casesOn (motive:=λk=>At k key=true->key.scannable=true) k (λi q=>(BA q).elim λt e=>e▸rfl) (λi q=>(BK q).elim λt e=>e▸rfl) hkey
 refine zS ((Bx prog w).pyHash (k:=k) hkey ?_)
 refine zS (wpAny_setFind_of (knd:=Bx prog w) (k:=k) (s:={s with toks:=s.toks+1}) hkey sc hS λr hr=>?_)
 refine zW ?_
 show wpAny _ _ (ret (Value.bool r.isSome)) _ _ _
 rw[hr]
 exact zW ⟨_,rfl,h⟩
def Am(b:Bi)(as:List AV)(σ:St)(Q:AV->St->Prop):Prop:=Al as λa as=>match b with
 | .append=>Al as λv as=>nil as (Fl σ a λx vs=>Q .none (σ.set x (.list (vs++[v]))))
 | .pop=>nil as (Fl σ a λx vs=>∃v,vs.getLast?=some v/\Q v (σ.set x (.list vs.dropLast)))
 | .get=>Al as λk as=>Al as λd as=>nil as (A9 (Do σ a) λes=>A9 (BR k) λk=>Q ((es.lookup k).getD d) σ)
 | .setdefault=>Al as λk as=>Al as λd as=>nil as (DJ σ a λx es=>A9 (BR k) λk=>(∀u,es.lookup k=some u->Q u σ)/\(es.lookup k=none->Q d (σ.set x (.dict (dset es k d)))))
 | .len=>nil as (Ö (A9 (Ak σ a) λvs=>AC vs.length/\Q (.int vs.length) σ) (λx=>x.length<1000000/\Q (.int x.length) σ) (Gx a))
 | .has=>Al as λk as=>nil as (A9 (Jf σ a) λks=>A9 (BR k) λk=>Q (.bool (decide (k∈ks))) σ)
 | .extend=>Al as λv as=>nil as (A9 (Ak σ v) λws=>Fl σ a λx vs=>vs.length+ws.length<=1000000/\Q .none (σ.set x (.list (vs++ws))))
 | .divmod=>Al as λb as=>nil as (A9 (Aw a) λx=>A9 (Aw b) λy=>(y≠0/\ģ x y=false)/\Q (.tup [.int (x.fdiv y),.int (x.fmod y)]) σ)
 | .index=>Al as λk as=>nil as (A9 (Ak σ a) λvs=>A9 (BY vs) λks=>A9 (BR k) λk=>(k∈ks/\AC ks.length)/\Q (.int (ks.idxOf k)) σ)
 | _=>False
def JQ(us:List Value)(h:us.length≠0):us.toArray.eraseIdxIfInBounds (us.toArray.size-1)=us.dropLast.toArray:=by
 have hsz:us.length-1<us.length:=aK9 (Į h) aD8
 simp[Array.eraseIdxIfInBounds,hsz,List.dropLast_eq_take,List.eraseIdx_eq_take_drop_succ]
 exists[_],0x18180ba00
theorem VAll.dropLast{L:Cd}{G:Gh}{h:æ}{n:Nat}{as:List AV}{vs:List Value}(q:VAll L G h n as vs):VAll L G h n as.dropLast vs.dropLast:=by
 refine Ä (motive:=λas=>∀vs,VAll L G h n as vs->VAll L G h n as.dropLast vs.dropLast) (λvs q=>(show vs=[]from q)▸rfl) (λa r ih vs q=>?_) as vs q
 obtain⟨v,u,rfl,q1,q2⟩:=q
 cases r with
 | nil=>rw[show u=[]from q2];exact rfl
 | cons b r=>
  obtain⟨v',u',rfl,q3⟩:=q2
  exact⟨v,_,rfl,q1,ih (v'::u') ⟨v',u',rfl,q3⟩⟩
def aO(h:Fl c.σ a λx vs=>∃v,vs.getLast?=some v/\Q v (c.σ.set x (.list vs.dropLast)))(R:RS X c)(ra:VR X c a va):Go X c Q (call (.builtin "list.pop") [va] []):=by
 refine Du h R ra λx vs us n hx p1 p2 hz ⟨v,hv,h⟩=>?_
 rw[List.getLast?_eq_getElem?]at hv
 obtain⟨u,g1,g2⟩:=p2.get hv
 rw[<-VAll.len p2]at g1
 have h0:us.length≠0:=λz=>by rw[ĵ z]at g1;exact AA g1
 refine aA4 PySem.F.slot_list_pop ⟨_,p1,rfl⟩ PySem.F.entry_list_pop (PySem.F.args_list_pop_1 _) (PySem.MeetsSeq.list_pop_last (c.G.μ x) us.toArray n u (ì.trans g1) hz) ⟨p1,?_⟩
 have hs:ÿ (c.G.μ x) c.s.heap (c.s.heap.update (c.G.μ x) (Ă λxs=>xs.eraseIdxIfInBounds (us.toArray.size-1))):=Ŀ ..
 have hl:=aL0 (n:=n) (h:=c.s.heap) (l:=c.G.μ x) (items:=us.toArray) p1 (λxs=>xs.eraseIdxIfInBounds (us.toArray.size-1))
 rw[JQ us h0]at hl
 have x:=R.setList c.s.toks hx hs hl p2.dropLast
 exact .to x (x.pre.v g2) h
def Id{vs:List AV} :∀{ks:List AE} {us:List Value},BY vs=some ks->VA X c vs us->us.length=ks.length/\∀(i:Nat) (k:AE) (v:Value),ks[i]?=some k->us[i]?=some v->At k v=true:=by
 refine Ä (motive:=λvs=>∀{ks:List AE} {us:List Value},BY vs=some ks->VA X c vs us->us.length=ks.length/\∀(i:Nat) (k:AE) (v:Value),ks[i]?=some k->us[i]?=some v->At k v=true) (λ{ks us} e q=>?_) (λa r ih ks us e q=>?_) vs
 ·rw[show us=[]from q];cases e;exact⟨rfl,λi k v=>AA⟩
 ·obtain⟨x,e1,e⟩:=bind_some e
  obtain⟨ys,e2,rfl⟩:=map_some e
  obtain⟨v,u,rfl,q1,q2⟩:=q
  have z:=ih e2 q2
  refine⟨congrArg Ŝ z.1,λi=>?_⟩
  cases i with
  | zero=>exact λk w a b=>zR a▸zR b▸E6 e1 q1
  | succ i=>exact z.2 i
def NA{k k':AE}{v:Value}(h:At k' v=true):At k v=decide (k'=k):=by
 cases e:At k v with
 | true=>exact(decide_eq_true (EB h e)).symm
 | false=>exact(decide_eq_false λz:k'=k=>ŝ (e.symm.trans (z▸h))).symm
def Fe{A:đ}{s:zY}{k:AE}{key:Value}{ks:List AE}{us:List Value}(q:us.length=ks.length/\∀(i:Nat) (k:AE) (v:Value),ks[i]?=some k->us[i]?=some v->At k v=true)(hk:At k key=true) :∀y,y∈us.toArray->Δ A s y key (At k y):=λy hy prog w E Q hQ=>by
 obtain⟨i,hi⟩:=Ĝ (List.mem_toArray.mp hy)
 have hlt:=(zT.mp hi).1
 have hki:=zV (q.1▸hlt:i<ks.length)
 have h:=q.2 i _ y hki hi
 exact MD prog w h hk (NA h▸hQ)
def Si{l:É}{us:List Value}{n:Nat}{k:AE}{key:Value}{ks:List AE}{P:Value->zY->Prop}(hm:k∈ks)(hz:AC ks.length)(hp:c.s.heap.get? l=some (A1 us n))(q:us.length=ks.length/\∀(i:Nat) (k:AE) (v:Value),ks[i]?=some k->us[i]?=some v->At k v=true)
  (hk:At k key=true) (h:P (.int (ks.idxOf k) c.s.toks) {c.s with toks:=c.s.toks+1}):Wp X (call (.builtin "list.index") [.ref l,key] []) P c.s:=by
 have hj:ks.idxOf k<ks.length:=ı.mpr hm
 have at_ :∀{i:Nat} (hi:i<us.toArray.size),At k us.toArray[i]=decide (ks[i]'(q.1▸hi)=k):=λ{i} hi=>NA (q.2 i _ _ (zV _) (zV hi))
 refine aA4 PySem.F.slot_list_index ⟨_,hp,rfl⟩ PySem.F.entry_list_index (PySem.F.args_list_index_2 _ _)
  (PySem.SeqAt.list_indexAt l us.toArray n none #[] key (At k) (ks.idxOf k) (q.1.symm▸hj:ks.idxOf k<us.length) (aA6 (Ç.mpr (zZ hj hz)) (by decide)) ?_ λm hm' hlt=>?_) ⟨hp,Fe q hk,h⟩
 ·rw[at_];exact decide_eq_true (aF7 hj)
 ·rw[at_];exact decide_eq_false λz=>ŝ ((List.not_of_lt_findIdx (p:=(· == k)) hlt).symm.trans (beq_iff_eq.mpr z))
def L9{b:Bi}{as:List AV}(h:Am b as c.σ Q){vas:List Value}(R:RS X c)(ra:VA X c as vas):Go X c Q (call b.val vas []):=
 AL h ra λa as v vas r ra h=>Bi.casesOn (motive:=λb=>Am b (a::as) c.σ Q->Go X c Q (call b.val (v::vas) [])) b
  (λh=>BD h ra λh=>Az h (λh=>AD h λvs e h=>Af e R r λl us k p1 p2=>call_len_list (AK p1) (WN (zP (Â p2.len) h.1)) (.int _ R (Eq.mpr (congrArg (λn:Nat=>Q (.int n) c.σ) (show us.toArray.size=vs.length from p2.len)) h.2)))
   λx e h=>Dw (P:=λv=>Go X c Q (call (.builtin "len") [v] [])) e r λt=>len_str (aN8.mpr (Ż (Ç.mpr h.1) (by decide))) (.to (b:=AV.int _) (R.toks _) (beq_self_eq_true _) h.2))
  z7 z7 z7 z7
  (λh=>AL h ra λd as vd vas rd ra h=>BD h ra λh=>Du h R r λx vs us n hx p1 p2 hz h=>wpAny_list_append_plain ⟨n,p1⟩ (λh' hl hs=>hl.elim λk hl=>.to (b:=AV.none) (R.setList _ hx hs (hl.trans (congrArg (λz=>some ({cls:=.type "list",data:=.seq z k}:Obj)) (List.push_toArray us vd))) (VAll.append (bs:=[d]) (us:=[vd]) p2 ⟨vd,[],rfl,rd,rfl⟩)) rfl h) hz)
  (λh=>BD h ra λh=>aO h R r)
  z7
  (λh=>AL h ra λk as vk vas rk ra h=>AL h ra λd as vd vas rd ra h=>BD h ra λh=>AD h λes e1 h=>AD h λk e2 h=>Ct e1 R r λl kvs p1 p2=>
   call_meetsIn aC7 p1.1.typeIs PySem.F.entry_dict_get (PySem.F.args_dict_get_3 _ _ _) (meets_dict_get_default (Bx X.L.prog X.L.w) (k:=k) l (B6 e2 rk) p1.2 vd) ⟨_,p1.1.mapOf,p2.look k (P:=λx y=>Q (x.getD d) c.σ->AX X (VR X) c Q (y.getD vd) _) (.val _ R rd) (λa v r=>.val _ R r) h⟩)
  (λh=>AL h ra λk as vk vas rk ra h=>AL h ra λd as vd vas rd ra h=>BD h ra λh=>HE h R r λx es kvs hx p1 p2 hz h=>AD h λk e2 h=>
   call_meetsIn PySem.F.slot_dict_setdefault p1.1.typeIs PySem.F.entry_dict_setdefault (PySem.F.args_dict_setdefault_3 _ _ _) (kt_meets_setdefault (Bx X.L.prog X.L.w) (k:=k) (c.G.μ x) (B6 e2 rk) p1.2 vd) ⟨kvs,p1.1,hz,
    λv hv=>p2.look k (P:=λx y=>(∀u,x=some u->Q u c.σ)->y=some v->AX X (VR X) c Q v _) (λ_=>AA) (λa u r f e=>.val _ R (zR e▸r) (f a rfl)) h.1 hv,
    λhn h' hd hs=>p2.look k (P:=λx y=>(x=none->Q d (c.σ.set _ (.dict (dset es k d))))->y=none->AX X (VR X) c Q vd _) (λf _=>.to (R.setDict _ hx hs ⟨hd,p1.2⟩ (p2.dset k rd)) ((R.setDict _ hx hs ⟨hd,p1.2⟩ (p2.dset k rd)).pre.v rd) (f rfl)) (λa u r f e=>AA e.symm) h.2 hn⟩)
  (λh=>AL h ra λk as vk vas rk ra h=>BD h ra λh=>AD h λks e1 h=>AD h λk e2 h=>Gg e1 R r λl p1=>
   ă PySem.F.slot_set_contains p1.1.typeIs entry_set_contains (FT (B6 e2 rk) p1.1 (.to (b:=AV.bool (decide (k∈ks))) (R.toks _) rfl h)) (PySem.F.args_set_contains_2 _ _))
  z7 z7 z7 z7
  (λh=>AL h ra λd as vd vas rd ra h=>BD h ra λh=>AD h λws e h=>Af e R rd λl wv k q1 q2=>Du h R r λx vs us n hx p1 p2 hz h=>
   OK p1 q1 (by rw[p2.len,q2.len];exact h.1) (.to (b:=AV.none) (R.setList _ hx (.update ..) ((aL0 (n:=n) (h:=c.s.heap) (l:=c.G.μ x) (items:=us.toArray) p1 (λxs=>xs++wv.toArray)).trans (congrArg (λz=>some ({cls:=.type "list",data:=.seq z _}:Obj)) (List.append_toArray us wv))) (VAll.append p2 q2)) rfl h.2))
  (λh=>AL h ra λd as vd vas rd ra h=>BD h ra λh=>AD h λx e1 h=>AD h λy e2 h=>AM e1 r λt=>AM e2 rd λu=>K3 h.1.1 h.1.2 (.newTup (vs:=[.int (x.fdiv y),.int (x.fmod y)]) (us:=[_,_]) _ 0 R ⟨_,_,rfl,beq_self_eq_true _,_,_,rfl,beq_self_eq_true _,rfl⟩ h.2))
  z7 z7
  (λh=>AL h ra λk as vk vas rk ra h=>BD h ra λh=>AD h λvs e h=>AD h λks e1 h=>AD h λk e2 h=>Af e R r λl us n p1 p2=>Si h.1.1 h.1.2 p1 (Id e1 p2) (B6 e2 rk) (.to (b:=AV.int _) (R.toks _) (beq_self_eq_true _) h.2)) z7 h
end
namespace Bm
def slot_get:Slot "method_descriptor" "__get__" "method_descriptor.__get__":=
 aP0 (owner:="method_descriptor") (n:="__get__") (by rw[Ą,ç];rfl') (by decide +kernel) (by decide +kernel) (by decide +kernel) (.inl (by decide +kernel)) (by rw[Ģ];rfl')
def entry_get:entryFor table "method_descriptor.__get__" = some á.«method_descriptor.__get__»:=ž (by rfl')
def args_get(a b c:Value):argsOk "method_descriptor.__get__" ⟨[a,b,c],[]⟩:=by unfold argsOk;rfl'
def no_set:typeLookup (.type "method_descriptor") "__set__" = pure none:=by rw[Ą,ç];rfl'
def no_del:typeLookup (.type "method_descriptor") "__delete__" = pure none:=by rw[Ą,ç];rfl'
def ty_dict_get:typeOf (.builtin "dict.get")=pure (.type "method_descriptor"):=by rfl'
def ty_set_contains:typeOf (.builtin "set.__contains__")=pure (.type "method_descriptor"):=by rfl'
def lk_dict_get:typeLookup (.type "dict") "get" = pure (some (.builtin "dict.get")):=by rw[Ą,ç];rfl'
def lk_set_contains:typeLookup (.type "set") "__contains__" = pure (some (.builtin "set.__contains__")):=by rw[Ą,ç];rfl'
def owner_dict_get:(".".intercalate ("dict.get".cutAt '.').dropLast) = "dict":=by decide +kernel
def owner_set_contains:(".".intercalate ("set.__contains__".cutAt '.').dropLast) = "set":=by decide +kernel
def sub_dict_get:isSubtype (.type "dict") (.type (".".intercalate ("dict.get".cutAt '.').dropLast))=pure true:=by rw[owner_dict_get,Ģ];rfl'
def sub_set_contains:isSubtype (.type "set") (.type (".".intercalate ("set.__contains__".cutAt '.').dropLast))=pure true:=by rw[owner_set_contains,Ģ];rfl'
def told_dict_get:Manifest.toldItsClass.contains "dict.get" = false:=by decide +kernel
def told_set_contains:Manifest.toldItsClass.contains "set.__contains__" = false:=by decide +kernel
end Bm
section
variable{prog:þ}{w:Ì}{A:đ}{E:Value->zY->Prop}{h:æ}{g:Array aL5}{d:Drawn}{t:Nat}{os:Š}{a:É}{o:Obj}
def JI{R:aG5->zY->Prop}(hx:h.get? a=some o)(hc:o.cls = .type "dict")(hq:R (.ok (.ret (.ref h.objs.size))) ⟨h.push (Co (.builtin "dict.get") (.ref a)),g,d,t,os⟩) :
  codeAny (model prog w) A (.call (.builtin "method_descriptor.__get__") ⟨[.builtin "dict.get",.ref a,.type "dict"],[]⟩) R ⟨h,g,d,t,os⟩:=by
 have hT:(⟨h,g,d,t,os⟩:zY).TypeIs (.ref a) "dict":=⟨_,hx,hc⟩
 have hT5:(⟨h,g,d,t,os⟩:zY).TypeIs (.builtin "dict.get") "method_descriptor":=Bm.ty_dict_get
 have f8:=Bm.sub_dict_get
 refine Ħ Bm.slot_get.plain Bm.entry_get (Bm.slot_get.check _ _ _ _ _ _ _ _ hT5 (Bm.args_get _ _ _) ?_)
 repeat (any_goals (first | assumption | wp_step))
def Gs{es:Array Ŋ}{k:Nat}{sl:Array (Option Value)}{tk:Tok}{Q:Fin->zY->Prop}(hx:h.get? a=some {cls:=.type "dict",dict:=none,data:=.dict es k,slots:=sl})(hq:Q (.done (.ret (.ref h.objs.size))) ⟨h.push (Co (.builtin "dict.get") (.ref a)),g,d,t,os⟩) :
  wpAny (model prog w) A (á.«object.__getattribute__» ⟨[.ref a,.str "get" tk],[]⟩) Q E ⟨h,g,d,t,os⟩:=by
 have hT:(⟨h,g,d,t,os⟩:zY).TypeIs (.ref a) "dict":=⟨_,hx,rfl⟩
 have f4:=Bm.lk_dict_get
 have f5:=Bm.ty_dict_get
 have f6:=Bm.slot_get.lookup
 have f7:=Bm.no_set
 have f8:=Bm.no_del
 repeat (any_goals (first | assumption | wp_step))
 refine JI hx rfl ?_
 repeat (any_goals (first | assumption | wp_step))
def Hw{es:Array Ŋ}{k:Nat}{sl:Array (Option Value)}{Q:Value->zY->Prop}(hx:h.get? a=some {cls:=.type "dict",dict:=none,data:=.dict es k,slots:=sl})(hq:Q (.ref h.objs.size) ⟨h.push (Co (.builtin "dict.get") (.ref a)),g,d,t+1,os⟩) :
  wpAny (model prog w) A (getAttr (.ref a) "get" true) Q E ⟨h,g,d,t,os⟩:=by
 have hT :∀tk',(⟨h,g,d,tk',os⟩:zY).TypeIs (.ref a) "dict":=λ_=>⟨_,hx,rfl⟩
 have hT':(⟨h,g,d,t,os⟩:zY).TypeIs (.ref a) "dict":=⟨_,hx,rfl⟩
 have f2:=į.lookup
 have f3:=į.bind (.ref a)
 unfold getAttr getAttrBy
 repeat (any_goals (first | assumption | exact hT _ | wp_step))
 refine Ħ į.plain PySem.F.entry_dict_ga (į.check _ _ _ _ _ _ _ _ (hT _) (PySem.F.args_dict_getattribute_2 _ _) (Gs hx ?_))
 repeat (any_goals (first | assumption | wp_step))
def Rf{R:aG5->zY->Prop}(hx:h.get? a=some o)(hc:o.cls = .type "set")(hq:R (.ok (.ret (.ref h.objs.size))) ⟨h.push (Co (.builtin "set.__contains__") (.ref a)),g,d,t,os⟩) :
  codeAny (model prog w) A (.call (.builtin "method_descriptor.__get__") ⟨[.builtin "set.__contains__",.ref a,.type "set"],[]⟩) R ⟨h,g,d,t,os⟩:=by
 have hT:(⟨h,g,d,t,os⟩:zY).TypeIs (.ref a) "set":=⟨_,hx,hc⟩
 have hT5:(⟨h,g,d,t,os⟩:zY).TypeIs (.builtin "set.__contains__") "method_descriptor":=Bm.ty_set_contains
 have f8:=Bm.sub_set_contains
 refine Ħ Bm.slot_get.plain Bm.entry_get (Bm.slot_get.check _ _ _ _ _ _ _ _ hT5 (Bm.args_get _ _ _) ?_)
 repeat (any_goals (first | assumption | wp_step))
def Lh{es:Array (Int×Value)}{k:Nat}{tb:SetTable}{sl:Array (Option Value)}{tk:Tok}{Q:Fin->zY->Prop}(hx:h.get? a=some {cls:=.type "set",dict:=none,data:=.set es k tb,slots:=sl})(hq:Q (.done (.ret (.ref h.objs.size))) ⟨h.push (Co (.builtin "set.__contains__") (.ref a)),g,d,t,os⟩) :
  wpAny (model prog w) A (á.«object.__getattribute__» ⟨[.ref a,.str "__contains__" tk],[]⟩) Q E ⟨h,g,d,t,os⟩:=by
 have hT:(⟨h,g,d,t,os⟩:zY).TypeIs (.ref a) "set":=⟨_,hx,rfl⟩
 have f4:=Bm.lk_set_contains
 have f5:=Bm.ty_set_contains
 have f6:=Bm.slot_get.lookup
 have f7:=Bm.no_set
 have f8:=Bm.no_del
 repeat (any_goals (first | assumption | wp_step))
 refine Rf hx rfl ?_
 repeat (any_goals (first | assumption | wp_step))
def Oj{es:Array (Int×Value)}{k:Nat}{tb:SetTable}{sl:Array (Option Value)}{Q:Value->zY->Prop}(hx:h.get? a=some {cls:=.type "set",dict:=none,data:=.set es k tb,slots:=sl})(hq:Q (.ref h.objs.size) ⟨h.push (Co (.builtin "set.__contains__") (.ref a)),g,d,t+1,os⟩) :
  wpAny (model prog w) A (getAttr (.ref a) "__contains__" true) Q E ⟨h,g,d,t,os⟩:=by
 have hT :∀tk',(⟨h,g,d,tk',os⟩:zY).TypeIs (.ref a) "set":=λ_=>⟨_,hx,rfl⟩
 have hT':(⟨h,g,d,t,os⟩:zY).TypeIs (.ref a) "set":=⟨_,hx,rfl⟩
 have f2:=Ķ.lookup
 have f3:=Ķ.bind (.ref a)
 unfold getAttr getAttrBy
 repeat (any_goals (first | assumption | exact hT _ | wp_step))
 refine Ħ Ķ.plain PySem.F.entry_set_ga (Ķ.check _ _ _ _ _ _ _ _ (hT _) (PySem.F.args_set_getattribute_2 _ _) (Lh hx ?_))
 repeat (any_goals (first | assumption | wp_step))
end
section
variable{prog:þ}{w:Ì}{A:đ}{E:Value->zY->Prop}{s:zY}
def Mg{b a:É}{id T:String}{B:á}{rest:List Value}{S:ļ}{Q:Value->zY->Prop}
  (hb:s.heap.get? b=some (Co (.builtin id) (.ref a))) (hT:s.TypeIs (.ref a) T)
  (plain:plainId id=true) (entry:entryFor table id=some B) (hck :∀{Q:Unit->zY->Prop} {E:Value->zY->Prop},Q () s->wpAny (model prog w) A.in1 (checkBoundCall id ⟨.ref a::rest,[]⟩) Q E s)
  (g:MeetsIn prog w (B ⟨.ref a::rest,[]⟩) S) (h:S A (wants Q E) s):wpAny (model prog w) A (call (.ref b) rest) Q E s:=by
 refine Ų (aI8 ?_)
 show wpAny (model prog w) A.in1 (callAny (.ref b) ⟨rest,[]⟩) _ _ s
 unfold callAny
 refine zS (ţ hb ?_)
 show wpAny _ A.in1 (do checkBoundCall id ⟨.ref a::rest,[]⟩;return<-again (.builtin id ⟨.ref a::rest,[]⟩)) _ _ s
 refine zS (hck ?_)
 refine zS (zW (zW ⟨aG6 plain _,aA1 entry ?_⟩))
 rw[Ŕ plain]
 exact g A (wants Q E) s h
def J0:Manifest.signature? "dict.get" = some ⟨.positional,"dict.get","get",.self,[⟨"key",.posOnly,true⟩,⟨"default",.posOnly,false⟩]⟩:=by
 rw[signature?_of (id:="dict.get") (n:=['t','e','g']) (o:=['t','c','i','d']) (by rfl') PySem.F.owner_dict];rfl'
def HY{a:É}{x y:Value}{es:Array Ŋ}{k:Nat}{sl:Array (Option Value)}{Q:Unit->zY->Prop}(hx:s.heap.get? a=some {cls:=.type "dict",dict:=none,data:=.dict es k,slots:=sl})(h:Q () s) :
  wpAny (model prog w) A (checkBoundCall "dict.get" ⟨[.ref a,x,y],[]⟩) Q E s:=by
 have hT:s.TypeIs (.ref a) "dict":=⟨_,hx,rfl⟩
 have f1:isSubtype (.type "dict") (.type "module")=pure false:=by rw[Ģ];rfl'
 unfold checkBoundCall
 rw[J0,show builtinKind "dict.get" = some .method by decide +kernel]
 dsimp only
 refine zS (aD2 hT f1 ?_)
 rw[show Manifest.varargsMethods.contains "dict.get" = false by decide +kernel]
 refine zS (m:=isType (.ref a)) ?_
 refine zS (aB2 hx (zW ?_))
 refine zS (aI3 hT ?_)
 refine ų (a:=()) ?_ h
 rfl'
def Fi:Manifest.signature? "set.__contains__" = some ⟨.oneArg,"set.__contains__","__contains__",.self,[⟨"object",.posOnly,true⟩]⟩:=by
 rw[signature?_of (id:="set.__contains__") (n:=['_','_','s','n','i','a','t','n','o','c','_','_']) (o:=['t','e','s']) (by rfl') PySem.F.owner_set];rfl'
def Ed{a:É}{x:Value}{es:Array (Int×Value)}{k:Nat}{tb:SetTable}{sl:Array (Option Value)}{Q:Unit->zY->Prop}(hx:s.heap.get? a=some {cls:=.type "set",dict:=none,data:=.set es k tb,slots:=sl})(h:Q () s) :
  wpAny (model prog w) A (checkBoundCall "set.__contains__" ⟨[.ref a,x],[]⟩) Q E s:=by
 have hT:s.TypeIs (.ref a) "set":=⟨_,hx,rfl⟩
 have f1:isSubtype (.type "set") (.type "module")=pure false:=by rw[Ģ];rfl'
 unfold checkBoundCall
 rw[Fi,show builtinKind "set.__contains__" = some .method by decide +kernel]
 dsimp only
 refine zS (aD2 hT f1 ?_)
 rw[show Manifest.varargsMethods.contains "set.__contains__" = false by decide +kernel]
 refine zS (m:=isType (.ref a)) ?_
 refine zS (aB2 hx (zW ?_))
 refine zS (aI3 hT ?_)
 refine ų (a:=()) ?_ h
 rfl'
end
def RU{o:Obj}{c:Value}{d:Option É}{dt:Data}{sl:Array (Option Value)}(h1:o.cls=c)(h2:o.dict=d)(h4:o.slots=sl)(h3:o.data=dt):some o=some ⟨c,d,dt,sl⟩:=by
 subst h1;subst h2;subst h3;subst h4;rfl
def H8{prog:þ}{w:Ì}{s:zY}{a:É}{kvs:List (AE×Value)}(h:s.heap.DictOf (Bx prog w) a kvs) :∃es k,s.heap.get? a=some {cls:=.type "dict",dict:=none,data:=.dict es k,slots:=#[]}:=
 h.elim λo h=>h.imp λes h=>h.imp λep h=>h.1.trans (RU h.2.1.1 h.2.1.2.1 h.2.1.2.2 h.2.2.1)
def Mx{prog:þ}{w:Ì}{s:zY}{a:É}{S:AE->Bool}{n:Nat}(h:s.heap.SetOf (Bx prog w) a S n) :∃es k tb,s.heap.get? a=some {cls:=.type "set",dict:=none,data:=.set es k tb,slots:=#[]}:=
 h.elim λo h=>h.imp λes h=>h.imp λep h=>h.imp λt h=>h.1.trans (RU h.2.1.1 h.2.1.2.1 h.2.1.2.2 h.2.2.1)
def Ef(X:Cx)(f:Value)(s:zY):Prop:=∀(Q:Keeper->zY->Prop) E,(∀k,Q k s)->wpAny (model X.L.prog X.L.w) X.A (keeperOf f) Q E s
def Ye(X:Cx)(c:Cf)(Q:AV->St->Prop)(f:Value)(vas:List Value):Prop:=Ef X f c.s/\Go X c Q (call f vas [])
noncomputable def X0(a:AV):Option (Bi×AV):=match a with
 | .bm f x=>some (f,x)
 | _=>none
def Tb{P:AV->Prop}{a:AV}{q:Bi×AV}(e:X0 a=some q)(f:P (.bm q.1 q.2)):P a:=
 AV.casesOn (motive_1:=λa=>X0 a=some q->P a) a AA (λ_=>AA) (λ_=>AA) (λ_ _=>AA) (λ_=>AA) (λ_=>AA) (λ_=>AA) (λ_ _ e=>Eq.mp (congrArg (λq:Bi×AV=>P (.bm q.1 q.2)) (zR e).symm) f) (λ_=>AA) (λ_=>AA) e
def QU(f:Bi)(x:AV)(as:List AV)(σ:St)(Q:AV->St->Prop):Prop:=match f with
 | .get=>Al as λk as=>Al as λd as=>nil as (A9 (Do σ x) λes=>A9 (BR k) λk=>Q ((es.lookup k).getD d) σ)
 | .has=>Al as λk as=>nil as (A9 (Jf σ x) λks=>A9 (BR k) λk=>Q (.bool (decide (k∈ks))) σ)
 | _=>False
section
variable{X:Cx}{c:Cf}{a x:AV}{va:Value}{Q:AV->St->Prop}
def Sp{b:É}{f v:Value}{s:zY}(hb:s.heap.get? b=some (Co f v)):Ef X (.ref b) s:=λQ E h=>zS (ţ hb (zW (h _)))
def My(b:Bi){s:zY}:Ef X b.val s:=λQ E h=>Bi.casesOn (motive:=λb=>wpAny (model X.L.prog X.L.w) X.A (keeperOf b.val) Q E s) b (zW (h _)) (zW (h _)) (zW (h _)) (zW (h _)) (zW (h _)) (zW (h _)) (zW (h _)) (zW (h _)) (zW (h _)) (zW (h _)) (zW (h _)) (zW (h _)) (zW (h _)) (zW (h _)) (zW (h _)) (zW (h _)) (zW (h _)) (zW (h _)) (zW (h _)) (zW (h _)) (zW (h _))
def Y4{f:Bi}{as:List AV}{vas:List Value}(h:QU f x as c.σ Q)(R:RS X c)(rv:VR X c (.bm f x) va)(ra:VA X c as vas):Ye X c Q va vas:=by
 cases rv with
 | mk b u hv hb ho rx=>
 subst hv
 refine⟨Sp hb,?_⟩
 exact Bi.casesOn (motive:=λf=>QU f x as c.σ Q->c.s.heap.get? b=some (Co f.val u)->Go X c Q (call (.ref b) vas [])) f (λh _=>h.elim) (λh _=>h.elim) (λh _=>h.elim) (λh _=>h.elim) (λh _=>h.elim) (λh _=>h.elim) (λh _=>h.elim) (λh _=>h.elim)
  (λh hb=>AL h ra λk as vk vas rk ra h=>AL h ra λd as vd vas rd ra h=>BD h ra λh=>AD h λes e1 h=>AD h λk e2 h=>by
   refine Ct (P:=λu=>c.s.heap.get? b=some (Co (.builtin "dict.get") u)->Go X c Q (call (.ref b) [vk,vd] [])) e1 R rx (λl kvs p1 p2 hb=>?_) hb
   obtain⟨es',k',ho'⟩:=H8 p1.1
   exact Mg (T:="dict") hb ⟨_,ho',rfl⟩ aC7.plain PySem.F.entry_dict_get (λq=>HY ho' q) (meets_dict_get_default (Bx X.L.prog X.L.w) (k:=k) l (B6 e2 rk) p1.2 vd) ⟨_,p1.1.mapOf,p2.look k (P:=λx y=>Q (x.getD d) c.σ->AX X (VR X) c Q (y.getD vd) _) (.val _ R rd) (λa v r=>.val _ R r) h⟩)
  (λh _=>h.elim)
  (λh hb=>AL h ra λk as vk vas rk ra h=>BD h ra λh=>AD h λks e1 h=>AD h λk e2 h=>by
   refine Gg (P:=λu=>c.s.heap.get? b=some (Co (.builtin "set.__contains__") u)->Go X c Q (call (.ref b) [vk] [])) e1 R rx (λl p1 hb=>?_) hb
   obtain⟨es',k',tb,ho'⟩:=Mx p1.1
   refine Mg (T:="set") (S:=λA R s=>∃S n,s.heap.SetOf (Bx X.L.prog X.L.w) l S n/\R (.ok (.ret (.bool (S k)))) {s with toks:=s.toks+1}) hb ⟨_,ho',rfl⟩ PySem.F.slot_set_contains.plain entry_set_contains (λq=>Ed ho' q) (λA R s hS=>?_) ⟨_,_,p1.1,.to (b:=AV.bool (decide (k∈ks))) (R.toks _) rfl h⟩
   exact hS.elim λS hS=>hS.elim λn hS=>Ĩ (FT (Q:=λv s'=>R (.ok (.ret v)) s') (B6 e2 rk) hS.1 hS.2) (λfin s' z=>z.elim λv z=>z.1▸z.2) λ_ _ x=>x)
  (λh _=>h.elim) (λh _=>h.elim) (λh _=>h.elim) (λh _=>h.elim) (λh _=>h.elim) (λh _=>h.elim) (λh _=>h.elim) (λh _=>h.elim) (λh _=>h.elim) (λh _=>h.elim) h hb
def ZJ(σ:St)(a:AV)(x:Str):Option Bi:=
 J3 ((Ak σ a).bind λ_=>bif x==("append":Str)then some .append else bif x==("pop":Str)then some .pop else bif x==("sort":Str)then some .sort else bif x==("extend":Str)then some .extend else bif x==("index":Str)then some .index else none)
  ((Do σ a).bind λ_=>bif x==("get":Str)then some .get else bif x==("setdefault":Str)then some .setdefault else none)
def BL{α:Type}{b:Bool}{x y:Option α}{r:α}{P:Prop}(h:(bif b then x else y)=some r)(f:b=true->x=some r->P)(g:y=some r->P):P:=by
 cases b with
 | true=>exact f rfl h
 | false=>exact g h
def X3{y:Str}{b:Bi}(e:ZJ c.σ a y=some b){pl:Sem Bool}{Q:Value×List Value->zY->Prop}(R:RS X c)(ra:VR X c a va)(h :∀t,Q (b.val,[va]) {c.s with toks:=t}):Wp X (getMethod va y pl) Q c.s:=by
 refine Dt e (λe=>?_) λe=>?_
 ·obtain⟨vs,e1,e⟩:=bind_some e
  refine Af (P:=λva=>(∀t,Q (b.val,[va]) {c.s with toks:=t})->Wp X (getMethod va y pl) Q c.s) e1 R ra (λl us k p1 _ h=>?_) h
  have hd :∀a,ī l = .ref a->∃o,c.s.heap.get? a=some o/\o.dict=none:=λa e=>by cases e;exact⟨_,p1,rfl⟩
  have hT:=(AK p1).typeIs
  refine BL e (λhx e=>?_) λe=>BL e (λhx e=>?_) λe=>BL e (λhx e=>?_) λe=>BL e (λhx e=>?_) λe=>BL e (λhx e=>?_) AA
  ·rw[å hx];cases e;exact ĸ hT Ĺ PySem.F.slot_list_append (by rfl') hd (h _)
  ·rw[å hx];cases e;exact ĸ hT Ĺ PySem.F.slot_list_pop (by rfl') hd (h _)
  ·rw[å hx];cases e;exact ĸ hT Ĺ PySem.F.slot_list_sort (by rfl') hd (h _)
  ·rw[å hx];cases e;exact ĸ hT Ĺ PySem.F.slot_list_extend (by rfl') hd (h _)
  ·rw[å hx];cases e;exact ĸ hT Ĺ PySem.F.slot_list_index PySem.F.type_list_index hd (h _)
 ·obtain⟨vs,e1,e⟩:=bind_some e
  refine Ct (P:=λva=>(∀t,Q (b.val,[va]) {c.s with toks:=t})->Wp X (getMethod va y pl) Q c.s) e1 R ra (λl us p1 _ h=>?_) h
  obtain⟨es',k',ho'⟩:=H8 p1.1
  have hd :∀a,ī l = .ref a->∃o,c.s.heap.get? a=some o/\o.dict=none:=λa e=>by cases e;exact⟨_,ho',rfl⟩
  refine BL e (λhx e=>?_) λe=>BL e (λhx e=>?_) AA
  ·rw[å hx];cases e;exact ĸ p1.1.typeIs PySem.F.plainAttrs_dict aC7 PySem.F.type_dict_get hd (h _)
  ·rw[å hx];cases e;exact ĸ p1.1.typeIs PySem.F.plainAttrs_dict PySem.F.slot_dict_setdefault (by rfl') hd (h _)
def eX(σ:St)(a:AV)(x:Str):Option Bi:=
 bif x==("get":Str)then(Do σ a).map λ_=>.get else bif x==("__contains__":Str)then(Jf σ a).map λ_=>.has else none
def Yb{y:Str}{b:Bi}(e:eX c.σ a y=some b)(R:RS X c)(ra:VR X c a va)(h:Q (.bm b a) c.σ):Go X c Q (getAttr va y true):=by
 have fin :∀{va},VR X c a va->AX X (VR X) c Q (.ref c.s.heap.objs.size) {c.s with heap:=c.s.heap.push (Co b.val va),toks:=c.s.toks+1}:=λ{va} ra=>
  .to (b:=AV.bm b a) (R.push (Co b.val va) _) ⟨_,va,rfl,Î _ rfl,R.gone,(R.push (Co b.val va) _).pre.v ra⟩ h
 refine BL e (λhx e=>?_) λe=>BL e (λhx e=>?_) AA
 ·obtain⟨es,e1,rfl⟩:=map_some e
  rw[å hx]
  refine Ct (P:=λva=>VR X c a va->Go X c Q (getAttr va "get" true)) e1 R ra (λl kvs p1 _ ra=>?_) ra
  obtain⟨es',k',ho'⟩:=H8 p1.1
  exact Hw ho' (fin ra)
 ·obtain⟨es,e1,rfl⟩:=map_some e
  rw[å hx]
  refine Gg (P:=λva=>VR X c a va->Go X c Q (getAttr va "__contains__" true)) e1 R ra (λl p1 ra=>?_) ra
  obtain⟨es',k',tb,ho'⟩:=Mx p1.1
  exact Oj ho' (fin ra)
end
noncomputable def nn:Nat->Option AV:=λ_=>none
section
variable{L:Cd}{G G':Gh}{h h':æ}{n n':Nat}(k:Cj G h G' h')
include k
theorem VRel.shut{a:AV}{v:Value}(e:a.sub nn=some a)(q:VRel L G h n a v):VRel L G' h' n' a v:=VRel.sub k (λx w e=>AA e) a a v e q
theorem VAll.shut{a:List AV}{v:List Value}(e:subAll nn a=some a)(q:VAll L G h n a v):VAll L G' h' n' a v:=VAll.sub k (λx w e=>AA e) e q
theorem VRel.zero{a:AV}{v:Value}(q:VRel L G h 0 a v):VRel L G' h' n a v:=VRel.sub k (λx w e h=>absurd h (ø x)) a a v (sub_id a) q
theorem VAll.zero{a:List AV}{v:List Value}(q:VAll L G h 0 a v):VAll L G' h' n a v:=VAll.sub k (λx w e h=>absurd h (ø x)) (ER a) q
end
def Kp.lk{G G':Gh}{h h':æ}(k:Kp G h G' h'){a:É}(e:G.tag a=some .lock)(o:Obj)(ho:h.get? a=some o):h'.get? a=some o:=k.keep a o ho λz=>z.elim λp q=>q.2 (zR (q.1.symm.trans e))
def dO(wr:List É)(h h':æ):Prop:=(∀b o,b∉wr->h.get? b=some o->h'.get? b=some o)/\h.objs.size<=h'.objs.size
inductive VB(X:Cx)(c:Cf)(wr:List É)(items:List AV)(i:Nat)(v:Value)(St:Gh->æ->Prop)(s₂:zY):Prop
 | mk (av:AV) (e:items[i]?=some av) (r:VR X ⟨c.G,c.σ,s₂⟩ av v) (R:RS X ⟨c.G,c.σ,s₂⟩) (st:St c.G s₂.heap) (p:dO wr c.s.heap s₂.heap)
structure K2(X:Cx)(target:Expr)(I:É)(wr:List É)(items:List AV)(St:Nat->Gh->æ->Prop):Prop where
 frame :∀i G h G' h',St i G h->Kp G h G' h'->St i G' h'
 item :∀i c,RS X c->i<items.length->St i c.G c.s.heap->Wp X (pyNext (.ref I)) (λr s₁=>∃v,r=some v/\Wp X (letOwnedTupleGo target (.ref I) v) (λ_ s₂=>VB X c wr items i v (St (i+1)) s₂) s₁) c.s
 done :∀c,RS X c->St items.length c.G c.s.heap->Wp X (pyNext (.ref I)) (λr s₁=>r=none/\RS X ⟨c.G,c.σ,s₁⟩/\dO wr c.s.heap s₁.heap) c.s
inductive Cm(X:Cx)(target:Expr)(c:Cf)(K:List AV->St->Prop)(it:Value)(s':zY):Prop
 | mk (c₁:Cf) (x:CX X c c₁) (I:É) (wr:List É) (items:List AV) (St:Nat->Gh->æ->Prop) (G':Gh) (e:it = .ref I) (ok :∀e:Env,K2 {X with env:=e} target I wr items St) (self :∀i G s (Q:Value->zY->Prop),St i G s.heap->Q (.ref I) s->Wp X (pyIter (.ref I)) Q s) (st:St 0 G' s'.heap) (hw :∀b∈wr,c₁.s.heap.objs.size<=b) (y:CX X c₁ ⟨G',c₁.σ,s'⟩) (up :∀a o,c₁.s.heap.get? a=some o->s'.heap.get? a=some o) (q:K items c₁.σ)
theorem Cm.up{X:Cx}{target:Expr}{c c':Cf}{K:List AV->St->Prop}{it:Value}{s':zY}(x:CX X c c')(p:Cm X target c' K it s'):Cm X target c K it s':=
 p.casesOn λc₁ x₁ I wr items St G' e ok self st hw y up q=>⟨c₁,x.trans x₁,I,wr,items,St,G',e,ok,self,st,hw,y,up,q⟩
def DO{M:aJ5}{E:Value->zY->Prop}{s:zY}{I:É}{target:Expr}{v:Value}{o:Obj}{T:String}{vs:Array Value}{Q:Unit->zY->Prop}(ho:s.heap.get? I=some o)(hc:o.cls = .type T)(hd:o.data = .fields vs)
  (hT:(["enumerate","zip","dict_itemiterator","dict_reverseitemiterator","odict_iterator","itertools.zip_longest","itertools.pairwise"].contains T)=false) (h:Q () s):wpAny M A (letOwnedTupleGo target (.ref I) v) Q E s:=by
 have body:wpAny M A (do
   let(.ref r,.ref a):=(ī I,v) | return
   let o<-load r
   match o.cls,o.data with
   | .type n,.fields vs=>
    if ["enumerate","zip","dict_itemiterator","dict_reverseitemiterator","odict_iterator","itertools.zip_longest","itertools.pairwise"].contains n&&vs[0]?==some (rawInt a)then
     rule "for.unpacks-the-owned-tuple"
     updateField r 0 .none
   | _,_=>pure ()) Q E s:=by
  cases v with
  | ref a=>
   refine zS (ţ ho ?_)
   rw[hc,hd]
   dsimp only
   rw[hT]
   exact zW h
  | _=>exact zW h
 cases target<;>first | exact body | exact zW h
section
variable{X:Cx}{c:Cf}
def HN(hs:æ)(G:Gh)(wr:List É):Prop:=∀b∈wr,G.tag b=some .lock/\hs.objs.size<=b
def HN.frame{G G':Gh}{h h':æ}{wr:List É}(x:HN X.hs G wr)(k:Kp G h G' h'):HN X.hs G' wr:=λb hb=>⟨k.lock b (x b hb).1,(x b hb).2⟩
structure Lr(L:Cd)(hs:æ)(wr:List É)(I l:É)(us:List Value)(items:List AV)(i:Nat)(G:Gh)(h:æ):Prop where
 lk:HN hs G wr
 mem:I∈wr
 it:h.IsListIter I l i
 ls :∃k,h.get? l=some (A1 us k)
 ow:¬ G.own l
 all:VAll L G h 0 items us
section
variable{wr:List É}{I l:É}{us:List Value}{items:List AV}{i:Nat}
theorem Lr.frame{G G':Gh}{h h':æ}(x:Lr X.L X.hs wr I l us items i G h)(kp:Kp G h G' h'):Lr X.L X.hs wr I l us items i G' h':=
 ⟨x.lk.frame kp,x.mem,x.it.imp λo q=>⟨kp.lk (x.lk I x.mem).1 o q.1,q.2⟩,x.ls.imp λk e=>(kp.still l _ e x.ow).1,x.ls.elim λk e=>kp.off e x.ow,x.all.zero kp.still⟩
def Lr.ne{G:Gh}{h:æ}(x:Lr X.L X.hs wr I l us items i G h):l∉wr:=λz=>x.ow (A3 (x.lk l z).1)
def Lr.next(x:Lr X.L X.hs wr I l us items i c.G c.s.heap){h':æ}{t j:Nat}(it:h'.IsListIter I l j)(hk :∀a o,a∉wr->c.s.heap.get? a=some o->h'.get? a=some o)(p:Dr c (c.hp c.σ h' t)):Lr X.L X.hs wr I l us items j c.G h':=
 ⟨x.lk,x.mem,it,x.ls.imp λk e=>hk l _ x.ne e,x.ow,x.all.zero p.still⟩
def Lr.item{G:Gh}{h:æ}(x:Lr X.L X.hs wr I l us items i G h)(hi:i<items.length) :∃v,us.toArray[i]?=some v/\VRel X.L G h 0 items[i] v:=(x.all.get (zV hi)).imp λv q=>⟨ì.trans q.1,q.2⟩
theorem Lr.none{G:Gh}{h:æ}(x:Lr X.L X.hs wr I l us items items.length G h):us.toArray[items.length]?=none:=ì.trans (Ā (Â x.all.len))
end
def Rk{a I:É}(h:a∉[I]):a≠I:=λz=>h (z▸z8 ..)
def Zl{a I J:É}(h:a∉[I,J]):a≠I:=λz=>h (z▸z8 ..)
def W7{a I J:É}(h:a∉[I,J]):a≠J:=λz=>h (z▸À _ (z8 ..))
def Wv{I l:É}{us:List Value}{items:List AV}(hh:X.A.handled=none)(target:Expr):K2 X target I [I] items (Lr X.L X.hs [I] I l us items) where
 frame:=λi G h G' h' x kp=>x.frame kp
 item:=λi c R hi x=>by
  obtain⟨v,g1,g2⟩:=x.item hi
  obtain⟨k,x4⟩:=x.ls
  refine wpAny_pyNext_list_item x.it (AK x4) g1 λh' y1 y2=>⟨v,rfl,?_⟩
  have kk :∀a o,a∉[I]->c.s.heap.get? a=some o->h'.get? a=some o:=λa o ha e=>(y2.2 a (Rk ha)).trans e
  have q:=R.lockAt x.lk (t:=c.s.toks) kk (Â y2.1.symm)
  exact y1.elim λo y=>DO (T:="list_iterator") y.1 y.2.1 y.2.2 (by decide) ⟨items[i],zV hi,g2.zero q.1.still,q.2,x.next y1 kk q.1,kk,Â y2.1.symm⟩
 done:=λc R x=>x.ls.elim λk x4=>EY (wpAny_pyNext_list_end hh x.it (AK x4) x.none λh' y1 sz=>
  have kk :∀a o,a∉[I]->c.s.heap.get? a=some o->h'.get? a=some o:=λa o ha e=>y1 a o (Rk ha) e
  ⟨rfl,(R.lockAt x.lk (t:=c.s.toks) kk sz).2,kk,sz⟩)
structure qK(L:Cd)(hs:æ)(I l:É)(us:List Value)(items:List AV)(i:Nat)(G:Gh)(h:æ):Prop where
 lk:HN hs G [I]
 it:h.IsTupleIter I l i
 ls :∃k,h.get? l=some (An us k)
 ow:¬ G.own l
 all:VAll L G h 0 items us
def L1{h:æ}{l:É}{us:List Value}{k:Nat}(e:h.get? l=some (An us k)):h.IsTuple l us.toArray:=⟨_,e,rfl,k,rfl⟩
def cT{I l:É}{us:List Value}{items:List AV}(hh:X.A.handled=none)(target:Expr):K2 X target I [I] items (qK X.L X.hs I l us items) where
 frame:=λi G h G' h' x kp=>⟨x.lk.frame kp,x.it.imp λo q=>⟨kp.lk (x.lk I (z9.mpr rfl)).1 o q.1,q.2⟩,x.ls.imp λk e=>(kp.still l _ e x.ow).1,x.ls.elim λk e=>kp.off e x.ow,x.all.zero kp.still⟩
 item:=λi c R hi x=>by
  obtain⟨v,g1,g2⟩:=x.all.get (zV hi)
  obtain⟨k,x4⟩:=x.ls
  refine wpAny_pyNext_tuple_item x.it (L1 x4) (ì.trans g1) λh' y1 y2=>⟨v,rfl,?_⟩
  have kk :∀a o,a∉[I]->c.s.heap.get? a=some o->h'.get? a=some o:=λa o ha e=>(y2.2 a (Rk ha)).trans e
  have q:=R.lockAt x.lk (t:=c.s.toks) kk (Â y2.1.symm)
  have ne:l∉[I]:=λz=>x.ow (A3 (x.lk l z).1)
  exact y1.elim λo y=>DO (T:="tuple_iterator") y.1 y.2.1 y.2.2 (by decide) ⟨items[i],zV hi,g2.zero q.1.still,q.2,⟨x.lk,y1,⟨k,kk l _ ne x4⟩,x.ow,x.all.zero q.1.still⟩,kk,Â y2.1.symm⟩
 done:=λc R x=>x.ls.elim λk x4=>EY (wpAny_pyNext_tuple_end hh x.it (L1 x4) (ì.trans (Ā (Â x.all.len))) λh' y1 sz=>
  have kk :∀a o,a∉[I]->c.s.heap.get? a=some o->h'.get? a=some o:=λa o ha e=>y1 a o (Rk ha) e
  ⟨rfl,(R.lockAt x.lk (t:=c.s.toks) kk sz).2,kk,sz⟩)
def Ao(lo:Int)(n:Nat):List AV:=(Ë n).map λ(i:Nat)=>.int (lo+(i:Int))
def Au(lo hi:Int):Prop:=-1000000<=lo/\lo<=1000000/\-1000000<=hi/\hi<=1000000
def AY(lo:Int)(n:Nat):(Ao lo n).length=n:=(z6 ..).trans ó
def B5{lo:Int}{n i:Nat}(h:i<n):(Ao lo n)[i]?=some (.int (lo+(i:Int))):=by
 unfold Ao
 rw[Ð,Θ h]
 rfl
structure qH(hs:æ)(I:É)(lo:Int)(n i:Nat)(G:Gh)(h:æ):Prop where
 lk:HN hs G [I]
 it:IsRangeIter h I (lo+i) ((n:Int)-i) 1
def U4{I:É}{lo:Int}{n:Nat}(hh:X.A.handled=none)(target:Expr):K2 X target I [I] (Ao lo n) (qH X.hs I lo n) where
 frame:=λi G h G' h' x kp=>⟨x.lk.frame kp,kp.lk (x.lk I (z8 ..)).1 _ x.it⟩
 item:=λi c R hi x=>by
  rw[AY]at hi
  refine wpAny_pyNext_range_item x.it (Int.sub_pos_of_lt (Ç.mpr hi)) λh' y1 y2=>⟨_,rfl,?_⟩
  have kk :∀a o,a∉[I]->c.s.heap.get? a=some o->h'.get? a=some o:=λa o ha e=>(y2.2 a (Rk ha)).trans e
  refine DO (s:={c.s with heap:=h',toks:=c.s.toks+1}) (T:="range_iterator") y1 rfl rfl (by decide) ⟨_,B5 hi,beq_self_eq_true (lo+(i:Int)),(R.lockAt x.lk kk (Â y2.1.symm)).2,⟨x.lk,?_⟩,kk,Â y2.1.symm⟩
  rw[Int.natCast_add,<-aK5,<-aM6]
  exact y1
 done:=λc R x=>EY (wpAny_pyNext_range_end hh x.it (by rw[AY,Int.sub_self];exact aM7 0) λh' y1 sz=>
  have kk :∀a o,a∉[I]->c.s.heap.get? a=some o->h'.get? a=some o:=λa o ha e=>y1 a o (Rk ha) e
  ⟨rfl,(R.lockAt x.lk (t:=c.s.toks) kk sz).2,kk,sz⟩)
def Cb(lo:Int)(n:Nat):List AV:=(Ë n).map λ(i:Nat)=>.int (lo-(i:Int))
def Cs(lo:Int)(n:Nat):(Cb lo n).length=n:=(z6 ..).trans ó
def FO{lo:Int}{n i:Nat}(h:i<n):(Cb lo n)[i]?=some (.int (lo-(i:Int))):=by
 unfold Cb
 rw[Ð,Θ h]
 rfl
structure qJ(hs:æ)(I:É)(lo:Int)(n i:Nat)(G:Gh)(h:æ):Prop where
 lk:HN hs G [I]
 it:IsRangeIter h I (lo-i) ((n:Int)-i) (-1)
def X4{I:É}{lo:Int}{n:Nat}(hh:X.A.handled=none)(target:Expr):K2 X target I [I] (Cb lo n) (qJ X.hs I lo n) where
 frame:=λi G h G' h' x kp=>⟨x.lk.frame kp,kp.lk (x.lk I (z8 ..)).1 _ x.it⟩
 item:=λi c R hi x=>by
  rw[Cs]at hi
  refine wpAny_pyNext_range_item x.it (Int.sub_pos_of_lt (Ç.mpr hi)) λh' y1 y2=>⟨_,rfl,?_⟩
  have kk :∀a o,a∉[I]->c.s.heap.get? a=some o->h'.get? a=some o:=λa o ha e=>(y2.2 a (Rk ha)).trans e
  refine DO (s:={c.s with heap:=h',toks:=c.s.toks+1}) (T:="range_iterator") y1 rfl rfl (by decide) ⟨_,FO hi,beq_self_eq_true (lo-(i:Int)),(R.lockAt x.lk kk (Â y2.1.symm)).2,⟨x.lk,?_⟩,kk,Â y2.1.symm⟩
  rw[Int.natCast_add,<-aM6,<-aM6]
  exact y1
 done:=λc R x=>EY (wpAny_pyNext_range_end hh x.it (by rw[Cs,Int.sub_self];exact aM7 0) λh' y1 sz=>
  have kk :∀a o,a∉[I]->c.s.heap.get? a=some o->h'.get? a=some o:=λa o ha e=>y1 a o (Rk ha) e
  ⟨rfl,(R.lockAt x.lk (t:=c.s.toks) kk sz).2,kk,sz⟩)
def B8(vs:List AV):List AV:=vs.zipIdx.map λp=>.tup [.int (p.2:Int),p.1]
def EW{vs:List AV}{i:Nat}{a:AV}(h:vs[i]?=some a):(B8 vs)[i]?=some (.tup [.int (i:Int),a]):=by
 unfold B8
 rw[Ð,List.getElem?_zipIdx,h,ĩ]
 rfl
def DV(vs:List AV):(B8 vs).length=vs.length:=(z6 ..).trans List.length_zipIdx
noncomputable def HW(t:Expr):Bool:=Ù t.ctorIdx 25
def O1{P:Expr->Prop}{t:Expr}(h:HW t=true)(f :∀a b c,P (.Tuple a b c)):P t:=Expr.Tuple.elim (motive_1:=P) t (Å h) f
structure pE(L:Cd)(hs:æ)(e it l:É)(us:List Value)(vs:List AV)(i:Nat)(G:Gh)(h:æ):Prop where
 ls:Lr L hs [e,it] it l us vs i G h
 en :∃old,IsEnum h e it i old
def Vo{e it l:É}{us:List Value}{vs:List AV}(hh:X.A.handled=none)(hne:e≠it){target:Expr}(ht:HW target=true):K2 X target e [e,it] (B8 vs) (pE X.L X.hs e it l us vs) where
 frame:=λi G h G' h' x kp=>⟨x.ls.frame kp,x.en.imp λold q=>kp.lk (x.ls.lk e (z8 ..)).1 _ q⟩
 item:=λi c R hi x=>by
  rw[DV]at hi
  obtain⟨v,g1,g2⟩:=x.ls.item hi
  obtain⟨k,x7⟩:=x.ls.ls
  obtain⟨old,x5⟩:=x.en
  refine wpAny_pyNext_enum_item x5 x.ls.it (AK x7) g1 hne λh' y1 y2 y3 y4 y5=>⟨_,rfl,?_⟩
  refine O1 (P:=λT=>Wp X (letOwnedTupleGo T (.ref e) (.ref c.s.heap.objs.size)) (λ_ s₂=>VB X c [e,it] (B8 vs) i (.ref c.s.heap.objs.size) (pE X.L X.hs e it l us vs (i+1)) s₂) {c.s with heap:=h',toks:=c.s.toks+1}) ht λelts x1 pos=>wpAny_letOwnedTupleGo_enum y1 λh'' z1 z2=>?_
  have kk :∀a o,a∉[e,it]->c.s.heap.get? a=some o->h''.get? a=some o:=λa o a1 ea=>(z2.2 a (Zl a1)).trans (y5 a o (Zl a1) (W7 a1) ea)
  have sz:c.s.heap.objs.size<=h''.objs.size:=z2.1.symm▸y4.symm▸ć _
  have hT:h''.get? c.s.heap.objs.size=some (An [.int i c.s.toks,v] 0):=(z2.2 _ (ń (ğ x5))).trans y3
  have q:=R.lockAt x.ls.lk (t:=c.s.toks+1) kk sz
  exact⟨_,EW (zV hi),⟨_,_,rfl,⟨(0,Option.none),hT⟩,R.gone,_,_,rfl,beq_self_eq_true (i:Int),_,_,rfl,g2.zero q.1.still,rfl⟩,q.2,⟨x.ls.next (y2.imp λo r=>⟨(z2.2 it hne.symm).trans r.1,r.2⟩) kk q.1,v,z1⟩,kk,sz⟩
 done:=λc R x=>by
  have x':=x.ls
  have en:=x.en
  rw[DV]at x' en
  exact x'.ls.elim λk x7=>en.elim λold x5=>EY (wpAny_pyNext_enum_end hh x5 x'.it (AK x7) x'.none λh' y1 sz=>
   have kk :∀a o,a∉[e,it]->c.s.heap.get? a=some o->h'.get? a=some o:=λa o ha e=>y1 a o (W7 ha) e
   ⟨rfl,(R.lockAt x'.lk (t:=c.s.toks) kk sz).2,kk,sz⟩)
def XH{vs us:List AV}{va:Value}{K:List AV->St->Prop}(hh:X.A.handled=none)(e:subAll nn vs=some vs)(h:K vs c.σ)(target:Expr)(R:RS X c)(ra:VR X c (.lst vs) va):Wp X (pyIter va) (λit s'=>Cm X target c K it s') c.s:=by
 cases ra with
 | mk l us hv hp ho hr=>
 subst hv
 obtain⟨k,p⟩:=hp
 refine wpAny_pyIter_list (AK (k:=k.1) p) ?_
 have x:=R.lck {cls:=.type "list_iterator",data:=.fields #[.ref l,.int 0 0]} c.s.toks
 exact⟨c,.refl R,_,[c.s.heap.objs.size],vs,Lr X.L X.hs [c.s.heap.objs.size] c.s.heap.objs.size l us vs,_,rfl,λe=>Wv (X:={X with env:=e}) (l:=l) (us:=us) hh target,λi G s Q st hQ=>wpAny_pyIter_listiter st.it hQ,⟨λb hb=>⟨z9.mp hb▸Gh.put_at,z9.mp hb▸R.size⟩,z8 ..,⟨_,Î _ rfl,rfl,rfl⟩,⟨k.1,Ã _ p⟩,x.kp.off p ho,hr.shut x.kp.still e⟩,λb hb=>Â (z9.mp hb).symm,x,λ_ _ e=>Ã _ e,h⟩
def P8(a:AV):Option (List AV):=(Cz a).bind λp=>SK.rec (some p.2) (some p.2) none p.1
def b8{vs:List AV}{va:Value}{K:List AV->St->Prop}(hh:X.A.handled=none)(e:subAll nn vs=some vs)(h:K vs c.σ)(target:Expr)(R:RS X c)(ra:VR X c (.tup vs) va):Wp X (pyIter va) (λit s'=>Cm X target c K it s') c.s:=by
 cases ra with
 | mk l us hv hp ho hr=>
 subst hv
 obtain⟨k,p⟩:=hp
 refine wpAny_pyIter_tuple (L1 (k:=k.1) p) ?_
 have x:=R.lck {cls:=.type "tuple_iterator",data:=.fields #[.ref l,.int 0 0]} c.s.toks
 exact⟨c,.refl R,_,[c.s.heap.objs.size],vs,qK X.L X.hs c.s.heap.objs.size l us vs,_,rfl,λe=>cT (X:={X with env:=e}) (l:=l) (us:=us) hh target,λi G s Q st hQ=>wpAny_pyIter_tupleiter st.it hQ,⟨λb hb=>⟨z9.mp hb▸Gh.put_at,z9.mp hb▸R.size⟩,⟨_,Î _ rfl,rfl,rfl⟩,⟨k.1,Ã _ p⟩,x.kp.off p ho,hr.shut x.kp.still e⟩,λb hb=>Â (z9.mp hb).symm,x,λ_ _ e=>Ã _ e,h⟩
def ZX{a:AV}{vs:List AV}{va:Value}{K:List AV->St->Prop}(hh:X.A.handled=none)(ea:P8 a=some vs)(e:subAll nn vs=some vs)(h:K vs c.σ)(target:Expr)(R:RS X c)(ra:VR X c a va):Wp X (pyIter va) (λit s'=>Cm X target c K it s') c.s:=by
 obtain⟨⟨k,us⟩,e1,ea⟩:=bind_some ea
 refine FN (P:=λa=>VR X c a va->_) e1 (λra=>?_) ra
 cases k with
 | tup=>cases zR ea;exact b8 hh e h target R ra
 | lst=>cases zR ea;exact XH (us:=[]) hh e h target R ra
 | mat=>exact AA ea
end
section
variable{L:Cd}{G:Gh}{h:æ}{n:Nat}{as:List (Str×AV)}{es:List Ŋ}
def AT.cases{M:List (Str×AV)->List Ŋ->Prop}(m0:M [] [])(m1 :∀x a hsh t v r u,VRel L G h n a v->AT L G h n r u->M r u->M ((x,a)::r) (⟨hsh,.str x t,v⟩::u)):AT L G h n as es->M as es:=
 Ä (motive:=λas=>∀es,AT L G h n as es->M as es) (λes q=>(show es=[]from q)▸m0) (λa r ih es q=>by
  obtain⟨x,a⟩:=a
  obtain⟨hsh,t,v,u,rfl,q1,q2⟩:=q
  exact m1 x a hsh t v r u q1 q2 (ih u q2)) as es
def AT.cons{x:Str}{a:AV}{hsh:Int}{t:Tok}{v:Value}{r:List (Str×AV)}{u:List Ŋ}(q:VRel L G h n a v)(q':AT L G h n r u):AT L G h n ((x,a)::r) (⟨hsh,.str x t,v⟩::u):=⟨hsh,t,v,u,rfl,q,q'⟩
def AT.noRef:AT L G h n as es->es.any (·.refKey)=false:=AT.cases (M:=λ_ es=>es.any (·.refKey)=false) rfl λ_ _ _ _ _ _ _ _ _ ih=>ih
def AT.len:AT L G h n as es->es.length=as.length:=AT.cases (M:=λas es=>es.length=as.length) rfl λ_ _ _ _ _ _ _ _ _ ih=>congrArg Ŝ ih
def AT.look(x:Str)(q:AT L G h n as es) :∀{P:Option AV->Option Ŋ->Prop},P none none->(∀a e,VRel L G h n a e.val->P (some a) (some e))->P (as.lookup x) (es.find? (·.key.isStr x)):=
 AT.cases (M:=λas es=>∀{P:Option AV->Option Ŋ->Prop},P none none->(∀a e,VRel L G h n a e.val->P (some a) (some e))->P (as.lookup x) (es.find? (·.key.isStr x))) (λ{P} p _=>p) (λy a hsh t v r u q _ ih P p f=>by
  rw[AU,List.find?_cons,show(aM1 y t).isStr x=(x==y)from Bool.beq_comm]
  cases x==y with
  | true=>exact f a ⟨hsh,.str y t,v⟩ q
  | false=>exact ih p f) q
def AT.put{y:Str}{a:AV}{v:Value}{hsh:Int}{t:Tok}(hv:VRel L G h n a v)(q:AT L G h n as es):AT L G h n (AP as y a) (putL y hsh (.str y t) v es):=
 AT.cases (M:=λas es=>AT L G h n (AP as y a) (putL y hsh (.str y t) v es)) (AT.cons hv rfl) (λz b hs t' u r l q1 q2 ih=>by
  show AT L G h n (bif z==y then(z,a)::r else(z,b)::AP r y a) (if(aM1 z t').isStr y=true then _ else _)
  rw[show(aM1 z t').isStr y=(z==y)from rfl]
  cases z==y with
  | true=>exact AT.cons hv q2
  | false=>exact AT.cons q1 ih) q
end
noncomputable def HG(a:AV):Bool:=match a with
 | .fn _=>false
 | _=>true
def Ol{L:Cd}{G:Gh}{h:æ}{n:Nat}{a:AV}{v:Value}(e:HG a=true)(q:VRel L G h n a v):handedIn v=true:=by
 have bx :∀{β:Type} {P:É->β->Prop} {R:β->Prop},Ei P G R v->true=true->handedIn v=true:=λq _=>q.casesOn λ_ _ hv _ _ _=>hv.symm▸rfl
 exact AV.casesOn (motive_1:=λa=>VRel L G h n a v->HG a=true->handedIn v=true) a (λq _=>(show v = .none from q).symm▸rfl) (λx q _=>(show v = .bool x from q).symm▸rfl)
  (λk=>AE.casesOn (motive:=λk=>VRel L G h n (.key k) v->true=true->handedIn v=true) k (λi q _=>(BA q).elim λt e=>e.symm▸rfl) λi q _=>(BK q).elim λt e=>e.symm▸rfl)
  (λ_ _=>bx) (λx q _=>q.1.symm▸rfl) (λ_ _ z=>nomatch z) (λx q _=>(show v = .ref x from q).symm▸rfl) (λ_ _=>bx) (λ_=>bx) (λ_=>bx) q e
noncomputable def AO.ins:AO->Option (É×List (Str×AV))
 | .inst C at_=>some (C,at_)
 | _=>none
def AO.ins_eq{o:AO}{q:É×List (Str×AV)}(e:o.ins=some q):o = .inst q.1 q.2:=
 AO.casesOn (motive:=λo=>o.ins=some q->o = .inst q.1 q.2) o (λ_=>AA) (λ_=>AA) (λ_=>AA) (λ_ _ e=>congrArg (λq:É×List (Str×AV)=>AO.inst q.1 q.2) (zR e)) e
def MI(σ:St)(a:AV)(k:Nat->É->List (Str×AV)->Prop):Prop:=A9 (D0 σ a) λp=>A9 p.2.ins λq=>k p.1 q.1 q.2
noncomputable def Ps(K:aG7)(D:É)(x:Str):Bool:=plainGet K D x&&hasDictIn K D&&(findIn K (.ref D) x).any (noGet K)
def Uv(K:aG7)(a:AV)(x:Str)(σ:St)(Q:AV->St->Prop):Prop:=MI σ a λ_ D at_=>EK (Ps K D x) (A9 (at_.lookup x) λv=>EK (HG v) (Q v σ))
noncomputable def Qp(o:Option (Option Value)):Option É:=match o with
 | some (some (.ref f))=>some f
 | _=>none
def bR(K:aG7)(σ:St)(a:AV)(x:Str):Option É:=(D0 σ a).bind λp=>p.2.ins.bind λq=>(Qp (findIn K (.ref q.1) x)).bind λf=>bif (q.2.lookup x).isNone&&(plainGet K q.1 x&&isFn K (.ref f))then some f else none
noncomputable def Pu(K:aG7)(D:É)(x:Str):Bool:=(findIn K (.ref D) "__setattr__" == some (some (.builtin "object.__setattr__")))&&(plainOver K D&&((takerIn K D x==some none)&&hasDictIn K D))
def TH(K:aG7)(a:AV)(x:Str)(b:AV)(σ:St)(Q:St->Prop):Prop:=MI σ a λy D at_=>EK (Pu K D x&&aK2 at_.length 900) (Q (σ.set y (.inst D (AP at_ x b))))
section
variable{X:Cx}{c:Cf}{a b:AV}{va vb:Value}{K:aG7}{Q:AV->St->Prop}
def Gz{k:Nat->É->List (Str×AV)->Prop}{P:Value->Prop}(h:MI c.σ a k)(R:RS X c)(r:VR X c a va)(f :∀y D at_ es e,c.σ.H.lookup y=some (.inst D at_)->c.s.heap.get? (c.G.μ y)=some (instObj D (c.G.δ y))->c.s.heap.get? (c.G.δ y)=some (dictOf es e)->AT X.L c.G c.s.heap c.σ.n at_ es->c.G.tag (c.G.δ y)=some (.dict y)->k y D at_->P (.ref (c.G.μ y))):P va:=by
 refine AD h λp e1 h=>AD h λq e2 h=>?_
 have z:=EJ e1 r
 rw[AO.ins_eq e2]at z
 rw[z.1]
 exact(R.obj _ _ z.2).rel.casesOn λes e q1 q2 q3 q4=>f _ _ _ es e z.2 q1 q2 q3 q4 h
def Xh(hK:K.In X.h₀){x:Str}(h:Uv K a x c.σ Q)(R:RS X c)(ra:VR X c a va):Go X c Q (getAttr va x true):=by
 refine Gz (P:=λva=>Go X c Q (getAttr va x true)) h R ra λy D at_ es k hx o1 o2 o3 o4 h=>?_
 obtain⟨hc,h⟩:=A6 h
 obtain⟨c12,c3⟩:=AN hc
 obtain⟨c1,c2⟩:=AN c12
 refine AD h λv hv h=>?_
 obtain⟨hh,h⟩:=A6 h
 cases ha:findIn K (.ref D) x with
 | none=>rw[ha]at c3;cases c3
 | some attr=>
  rw[ha]at c3
  have fe :∃en,es.find? (·.key.isStr x)=some en/\VR X c v en.val:=o3.look x (P:=λp q=>p=some v->∃en,q=some en/\VR X c v en.val) AA (λa e r z=>⟨e,rfl,zR z▸r⟩) hv
  obtain⟨en,e1,r⟩:=fe
  refine get_value (hK.keeps R.base) ⟨o1,rfl,rfl,o2⟩ (aM8 c1).1 (findObj_own c2 ha c3 (v:=en.val) ?_) (Ol hh r) (.val _ R r h)
  rw[lookIn_dict]
  unfold getL
  rw[e1]
def XT{E:Value->zY->Prop}(hK:K.In X.h₀){x:Str}{f:É}(e:bR K c.σ a x=some f){pl:Sem Bool}{Q:Value×List Value->zY->Prop}(R:RS X c)(ra:VR X c a va)(h :∀t,Q (.ref f,[va]) {c.s with toks:=t}):Wp X (getMethod va x pl) Q c.s:=by
 have hi:MI c.σ a λ_ D at_=>Qp (findIn K (.ref D) x)=some f/\at_.lookup x=none/\plainGet K D x=true/\isFn K (.ref f)=true:=by
  obtain⟨p,e1,e⟩:=bind_some e
  obtain⟨q,e2,e⟩:=bind_some e
  obtain⟨g,e3,e⟩:=bind_some e
  show A9 (D0 c.σ a) _
  rw[e1]
  show A9 p.2.ins _
  rw[e2]
  refine BL e (λhc e=>?_) AA
  cases e
  obtain⟨z1,z2⟩:=AN hc
  obtain⟨z2,z3⟩:=AN z2
  exact⟨e3,Option.isNone_iff_eq_none.mp z1,z2,z3⟩
 refine Gz (P:=λva=>(∀t,Q (.ref f,[va]) {c.s with toks:=t})->Wp X (getMethod va x pl) Q c.s) hi R ra (λy D at_ es k hx o1 o2 o3 o4 h hq=>?_) h
 obtain⟨h1,h2,h3,h4⟩:=h
 have ff:findIn K (.ref D) x=some (some (.ref f)):=by
  unfold Qp at h1
  split at h1
  ·rename_i e;cases h1;exact e
  ·cases h1
 have fe:es.find? (·.key.isStr x)=none:=o3.look x (P:=λp q=>p=none->q=none) (λ_=>rfl) (λa e r z=>AA z.symm) h2
 refine method_fn (od:=some (dictOf es k)) (hK.keeps R.base) ⟨o1,rfl,rfl,o2⟩ (aM8 h3).1 (aM8 h3).2 ff (beq_iff_eq.mp h4) ?_ (hq c.s.toks)
 show(lookIn x (dictOf es k)).map _=_
 rw[lookIn_dict]
 unfold getL
 rw[fe]
 simp only[o3.noRef]
 rfl
end
section
variable{prog:þ}{w:Ì}{A:đ}{C x:É}{s:zY}{K:aG7}{R:aG5->zY->Prop}
def PK{name:Str}{hsh:Int}{k v:Value}(l:List Ŋ):(putL name hsh k v l).length<=l.length+1:=by
 induction l with
 | nil=>exact zX _
 | cons e r ih=>
  unfold putL
  split
  ·exact ć _
  ·exact ý ih
def YL{dx:É}{name:Str}{tk:Tok}{v:Value}{es:List Ŋ}{n:Nat}(X:K.In s.heap)
  (hx:s.heap.get? x=some (instObj C dx)) (D:s.heap.get? dx=some (dictOf es n)) (hp:plainOver K C=true) (ht:takerIn K C name=some none) (hh:hasDictIn K C=true)
  (hr:es.any (·.refKey)=false) (hz:es.length<1000)
  (h :∀h',h'.get? dx=some (dictOf (putL name (aF8 w.params name) (.str name s.toks) v es) (putN name es n))->ÿ dx s.heap h'->R (.ok (.ret .none)) {s with heap:=h',toks:=s.toks+1}) :
  codeAny (model prog w) A (.call (.builtin "object.__setattr__") ⟨[.ref x,.str name tk,v],[]⟩) R s:=by
 have I:InstAt s.heap x (instObj C dx) C (some (dictOf es n)):=⟨hx,rfl,rfl,D⟩
 refine osa_open X I hp ht λb=>?_
 obtain⟨cd,hc,hd'⟩:=any_some hh
 have D':(s.heap.update dx (Obj.putName name (aF8 w.params name) (.str name s.toks) v)).get? dx=some (dictOf (putL name (aF8 w.params name) (.str name s.toks) v es) (putN name es n)):=by
  rw[Ę _ D (by rw[putName_dict];rfl),putName_dict]
 refine zS (zW (zS (zS (aB2 hx (zS ((looks_clsIn X hc).here ?_))))))
 rw[hd']
 refine zW (a:=some dx) (zS (zW (zS ?_)))
 unfold nsSet
 refine zS (zS (aD1 (zW (zS (wpAny_mkText (zS (aB2 D ?_)))))))
 dsimp only[dictOf]
 have c:(!es.toArray.any (·.key.isStr name)&&es.toArray.any (·.refKey))=false:=by
  rw[<-aH0,<-aH0]
  show(!es.any (·.key.isStr name)&&es.any (·.refKey))=false
  rw[hr,aF1]
 rw[aRefKeyMayBeTheName_at,c]
 refine wpAny_updatePart D ?_
 refine zS (wpAny_lookBehind D' (pastItsLine_dict (zP (PK es) (zP hz (by decide)))) ?_)
 exact zW (h _ D' (Ŀ ..))
end
section
variable{X:Cx}{c:Cf}{a b:AV}{va vb:Value}{K:aG7}{Q:St->Prop}
def SO(hK:K.In X.h₀){x:Str}(h:TH K a x b c.σ Q)(R:RS X c)(ra:VR X c a va)(rb:VR X c b vb):Ev X c Q (setAttr va x vb):=by
 refine Gz (P:=λva=>Ev X c Q (setAttr va x vb)) h R ra λy D at_ es k hx o1 o2 o3 o4 h=>?_
 obtain⟨hc,h⟩:=A6 h
 obtain⟨hc,hz⟩:=AN hc
 obtain⟨c1,hc⟩:=AN hc
 obtain⟨c2,hc⟩:=AN hc
 obtain⟨c3,c4⟩:=AN hc
 refine set_plain (od:=some (dictOf es k)) (hK.keeps R.base) ⟨o1,rfl,rfl,o2⟩ (beq_iff_eq.mp c1) (YL (s:={c.s with toks:=c.s.toks+1}) (hK.keeps R.base) o1 o2 c2 (beq_iff_eq.mp c3) c4 o3.noRef (Í (o3.len▸Ŏ hz) (by decide)) λh' d1 d2=>?_)
 have ne:c.G.μ y≠c.G.δ y:=Hc (R.obj y _ hx).tag o4 λq=>nomatch q
 exact .to (b:=()) (R.setInst (o:=.inst D (AP at_ x b)) hx rfl d2 λp=>⟨_,_,(d2.2 _ ne).trans o1,d1,AT.sub p.still (p.hg X.L) (Fk _) (o3.put rb),o4⟩) trivial h
end
end Mine
end
section
open PySem PySem.W PyProof.Rows PySem.Spec PySem.Calls
namespace Mine
abbrev Ob:=É×List (Str×AV)
noncomputable def Ob.ao(o:Ob):AO:=.inst o.1 o.2
def C4(os:List Ob):Prop:=∀(i:Nat) (o:Ob),os[i]?=some o->AH nn o.2=some o.2
structure Ig(G:Gh)(h₀:æ)(s:zY):Prop where
 lo :∀a,G.own a->h₀.objs.size<=a
 lt :∀a,G.own a->a<s.heap.objs.size
 base :∀b o,h₀.get? b=some o->s.heap.get? b=some o
 size:h₀.objs.size<=s.heap.objs.size
structure Kk(L:Cd)(G:Gh)(h:æ)(k i:Nat)(o:Ob):Prop where
 tag:G.tag (G.μ i)=some (.obj i)
 rel:DK L G h k i o.ao
inductive Uh(L:Cd)(G:Gh)(k:Nat)(s:zY)(Q:AV->List Ob->Prop)(v:Value)(s':zY):Prop
 | mk (r:AV) (os':List Ob) (q:Q r os') (shut:r.sub nn=some r) (len:os'.length=k) (shuts:C4 os') (keep :∀b o,s.heap.get? b=some o->¬ G.mt b->s'.heap.get? b=some o) (size:s.heap.objs.size<=s'.heap.objs.size)
  (gens:s'.gens=s.gens) (os:s'.os=s.os) (objs :∀(i:Nat) (o:Ob),os'[i]?=some o->DK L G s'.heap k i o.ao) (rel:VRel L G s'.heap k r v)
def CR(B:Value->zY->Prop)(r:aG5)(s:zY):Prop:=∃v,r = .ok (.ret v)/\B v s
def CR.mono{B B':Value->zY->Prop}(h :∀v s,B v s->B' v s){r:aG5}{s:zY}(x:CR B r s):CR B' r s:=x.imp λv q=>⟨q.1,h _ _ q.2⟩
def DE(d:Nat)(A:đ):Prop:=A.handled=none/\A.depth+d<recursionLimit/\A.units+10*d+40<cLine
abbrev Tr:=List AV->List Ob->(AV->List Ob->Prop)->Prop
def IG(L:Cd)(A:đ)(f:Value)(s:zY):Prop:=∀(Q:Keeper->zY->Prop) E,(∀k,Q k s)->wpAny (model L.prog L.w) A (keeperOf f) Q E s
def BW(L:Cd)(h₀:æ)(d:Nat)(f:Value)(tr:Tr):Prop:=
 ∀{A:đ} {s:zY} {G:Gh} {as:List AV} {os:List Ob} {Q:AV->List Ob->Prop} {vas:List Value},DE d A->Ig G h₀ s->(∀(i:Nat) (o:Ob),os[i]?=some o->Kk L G s.heap os.length i o)->VAll L G s.heap os.length as vas->tr as os Q->
  IG L A f s/\codeAny (model L.prog L.w) A (.call f ⟨vas,[]⟩) (CR (Uh L G os.length s Q)) s
def BW.up{L:Cd}{h₀:æ}{d d':Nat}{f:Value}{tr:Tr}(h:BW L h₀ d f tr)(hd:d<=d'):BW L h₀ d' f tr:=λhA=>h ⟨hA.1,Í (ė hd _) hA.2.1,Í (Ŷ (ė (Nat.mul_le_mul_left 10 hd) _) 40) hA.2.2⟩
noncomputable def FM(a:AV):Option Nat:=match a with
 | .ref x=>some x
 | _=>none
def hasN(x:Nat)(l:List Nat):Bool:=Ä false (λy _ ih=>Ù y x||ih) l
def BV(as:List AV):List Nat:=Ä [] (λa _ ih=>Ö ih (λx=>bif hasN x ih then ih else x::ih) (FM a)) as
def DW(x:Nat)(l:List Nat):Option Nat:=Ä none (λy _ ih=>bif Ù y x then some 0 else ih.map Ŝ) l
def KO(l:List Nat)(x:Nat):Option AV:=(DW x l).map .ref
def PP(H:List (Nat×AO))(l:List Nat):Option (List Ob):=Ä (some []) (λx _ ih=>((H.lookup x).bind AO.ins).bind λo=>ih.map (o :: ·)) l
def NP(l:List Nat):List Ob->List (Nat×AO)->List (Nat×AO):=Ä (λ_ H=>H) (λx _ ih os H=>Ä H (λo t _=>ih t (AP H x o.ao)) os) l
def St.sets(σ:St)(l:List Nat)(os:List Ob):St:=⟨σ.ρ,NP l os σ.H,σ.n,σ.anc⟩
def ID(tr:Tr)(as:List AV)(σ:St)(Q:AV->St->Prop):Prop:=A9 (PP σ.H (BV as)) λos=>C4 os/\A9 (subAll (KO (BV as)) as) λas'=>tr as' os λr os'=>Q r (σ.sets (BV as) os')
def qG(vs:List AV)(r:AV):Prop:=∀(L:Cd) (G G':Gh) (h:æ) (n n':Nat) (a:É) (us:List Value) (v:Value),L.sq h a .lst us->VAll L G' h n' vs us->(∀b,G.own b->G'.own b\/b=a)->VRel L G' h n' r v->VRel L G h n r v
def VQ(tr:Tr)(as:List AV)(σ:St)(Q:AV->St->Prop):Prop:=∃x vs,σ.H.lookup x=some (.list vs)/\subAll nn vs=some vs/\A9 (subAll (λy=>bif Ù y x then some (.lst vs)else none) as) λas'=>tr as' [] λr _=>qG vs r/\Q r σ
def B7(tr:Tr)(as:List AV)(σ:St)(Q:AV->St->Prop):Prop:=ID tr as σ Q\/VQ tr as σ Q
def Fc(l:List Nat):Prop:=∀i j x:Nat,l[i]?=some x->l[j]?=some x->i=j
def SW{y x:Nat}(e:y=x):Ù y x=true:=by
 subst e
 exact Nat.beq_refl y
def MO{x:Nat}{l:List Nat}{i:Nat}(e:l[i]?=some x):hasN x l=true:=
 Ä (motive:=λl=>∀i:Nat,l[i]?=some x->hasN x l=true) (λ_=>AA) (λy r ih i e=>Nat.casesOn (motive:=λi=>(y::r)[i]?=some x->(Ù y x||hasN x r)=true) i (λe=>congrArg (· || hasN x r) (SW (zR e))) (λi e=>(ih i e).symm▸Bool.or_true _) e) l i e
def Nz(as:List AV):Fc (BV as):=by
 refine Ä (motive:=λas=>Fc (BV as)) (λ_ _ _=>AA) (λa r ih=>?_) as
 show Fc (Ö (BV r) (λx=>bif hasN x (BV r)then BV r else x::BV r) (FM a))
 cases FM a with
 | none=>exact ih
 | some x=>
  show Fc (bif hasN x (BV r)then BV r else x::BV r)
  cases hx:hasN x (BV r)with
  | true=>exact ih
  | false=>
   have no :∀{i:Nat} {y:Nat},(BV r)[i]?=some y->x=y->False:=λe z=>ŝ (hx.symm.trans (MO (z▸e)))
   intro i j y e1 e2
   cases i with
   | zero=>cases j with
    | zero=>rfl
    | succ j=>exact(no e2 (zR e1)).elim
   | succ i=>cases j with
    | zero=>exact(no e1 (zR e2)).elim
    | succ j=>exact congrArg Ŝ (ih i j y e1 e2)
def Cw{x:Nat}{l:List Nat} :∀{i:Nat},DW x l=some i->l[i]?=some x:=by
 refine Ä (motive:=λl=>∀{i:Nat},DW x l=some i->l[i]?=some x) AA (λy r ih i e=>?_) l
 refine BL (b:=Ù y x) (x:=some 0) e (λh e=>zR e▸congrArg some (Å h)) λe=>?_
 obtain⟨j,e1,rfl⟩:=map_some e
 exact ih e1
def GT{x:Nat}{l:List Nat}{i:Nat}(u:Fc l)(e:l[i]?=some x):DW x l=some i:=by
 have h :∃j,DW x l=some j:=Ä (motive:=λl=>∀i:Nat,l[i]?=some x->∃j,DW x l=some j) (λ_=>AA) (λy r ih i e=>by
  show∃j,(bif Ù y x then some 0 else(DW x r).map Ŝ)=some j
  cases hb:Ù y x with
  | true=>exact⟨0,rfl⟩
  | false=>cases i with
   | zero=>exact absurd (hb.symm.trans (SW (zR e))) (λz=>nomatch z)
   | succ i=>obtain⟨j,hj⟩:=ih i e;exact⟨j+1,by rw[hj];rfl⟩) l i e
 obtain⟨j,hj⟩:=h
 rw[hj,u i j x e (Cw hj)]
def Nj{H:List (Nat×AO)}{l:List Nat} :∀{os:List Ob},PP H l=some os->os.length=l.length/\∀(i x:Nat),l[i]?=some x->∃o:Ob,os[i]?=some o/\H.lookup x=some o.ao:=by
 refine Ä (motive:=λl=>∀{os:List Ob},PP H l=some os->os.length=l.length/\∀(i x:Nat),l[i]?=some x->∃o:Ob,os[i]?=some o/\H.lookup x=some o.ao) (λ{os} e=>zR e▸⟨rfl,λ_ _=>AA⟩) (λy r ih os e=>?_) l
 obtain⟨o,e1,e⟩:=bind_some e
 obtain⟨t,e2,rfl⟩:=map_some e
 obtain⟨ao,e3,e4⟩:=bind_some e1
 refine⟨congrArg Ŝ (ih e2).1,λi x h=>?_⟩
 cases i with
 | zero=>exact⟨o,rfl,zR h▸e3.trans (congrArg some (AO.ins_eq e4))⟩
 | succ i=>exact(ih e2).2 i x h
def OO{l:List Nat} :∀{os:List Ob} {H:List (Nat×AO)} {y:Nat} {o:AO},Fc l->os.length=l.length->(NP l os H).lookup y=some o->(∃(i:Nat) (b:Ob),l[i]?=some y/\os[i]?=some b/\o=b.ao)\/(∀i:Nat,l[i]?≠some y)/\H.lookup y=some o:=by
 refine Ä (motive:=λl=>∀{os:List Ob} {H:List (Nat×AO)} {y:Nat} {o:AO},Fc l->os.length=l.length->(NP l os H).lookup y=some o->(∃(i:Nat) (b:Ob),l[i]?=some y/\os[i]?=some b/\o=b.ao)\/(∀i:Nat,l[i]?≠some y)/\H.lookup y=some o) (λ{os H y o} _ _ h=>.inr ⟨λ_=>AA,h⟩) (λx r ih os H y o u hl h=>?_) l
 cases os with
 | nil=>cases hl
 | cons b t=>
  refine(ih (os:=t) (H:=AP H x b.ao) (λi j z e1 e2=>Ņ (u (i+1) (j+1) z e1 e2)) (Ņ hl) h).elim (λq=>q.elim λi q=>q.elim λc q=>.inl ⟨i+1,c,q⟩) λq=>?_
  exact C3 q.2 (λe1 e2=>.inl ⟨0,b,congrArg some e1.symm,rfl,e2.symm⟩) λe1 e2=>.inr ⟨λi=>Nat.casesOn (motive:=λi=>(x::r)[i]?≠some y) i (λz=>e1 (zR z).symm) λi=>q.1 i,e2⟩
def U9{α β:Type}(o:Option α)(d:β)(f:α->β):β:=Ö d f o
def Cc{α β:Type}{o:Option α}{a:α}(e:o=some a)(d:β)(f:α->β):U9 o d f=f a:=e▸rfl
def SV(l:List Nat)(p:AQ):AQ:=match p with
 | .obj x=>U9 (DW x l) .lock .obj
 | .dict x=>U9 (DW x l) .lock .dict
 | _=>.lock
def DH(G:Gh)(l:List Nat):Gh:=⟨λa=>(G.tag a).map (SV l),λi=>U9 l[i]? 0 G.μ,λi=>U9 l[i]? 0 G.δ⟩
section
variable{G:Gh}{l:List Nat}{i x:Nat}
def GV(e:l[i]?=some x):(DH G l).μ i=G.μ x:=Cc e 0 G.μ
def Im(e:l[i]?=some x):(DH G l).δ i=G.δ x:=Cc e 0 G.δ
def D3{a:É}:(DH G l).own a↔G.own a:=by
 show(G.tag a).map _≠none↔G.tag a≠none
 cases G.tag a with
 | none=>exact Iff.rfl
 | some p=>exact⟨λ_ z=>(nomatch z),λ_ z=>nomatch z⟩
def QS(u:Fc l)(e:l[i]?=some x){a:É}(t:G.tag a=some (.obj x)):(DH G l).tag a=some (.obj i):=(congrArg (Ñ (SV l)) t).trans (congrArg some (Cc (GT u e) AQ.lock AQ.obj))
def Of(u:Fc l)(e:l[i]?=some x){a:É}(t:G.tag a=some (.dict x)):(DH G l).tag a=some (.dict i):=(congrArg (Ñ (SV l)) t).trans (congrArg some (Cc (GT u e) AQ.lock AQ.dict))
def G5{h:æ}:Cj G h (DH G l) h:=λa o e q=>⟨e,λz=>q (D3.mp z)⟩
def HR{h:æ}:Cj (DH G l) h G h:=λa o e q=>⟨e,λz=>q (D3.mpr z)⟩
def Ko{a:É}{p:AQ}(t:(DH G l).tag a=some p):p = .lock\/∃i x,l[i]?=some x/\(p = .obj i/\G.tag a=some (.obj x)\/p = .dict i/\G.tag a=some (.dict x)):=by
 obtain⟨q,e,rfl⟩:=map_some t
 cases q with
 | obj x=>
  show U9 (DW x l) AQ.lock AQ.obj=_\/_
  cases hp:DW x l with
  | none=>exact .inl rfl
  | some i=>exact .inr ⟨i,x,Cw hp,.inl ⟨Cc hp AQ.lock AQ.obj,e⟩⟩
 | dict x=>
  show U9 (DW x l) AQ.lock AQ.dict=_\/_
  cases hp:DW x l with
  | none=>exact .inl rfl
  | some i=>exact .inr ⟨i,x,Cw hp,.inr ⟨Cc hp AQ.lock AQ.dict,e⟩⟩
 | _=>exact .inl rfl
end
section
variable{X:Cx}{c:Cf}{l:List Nat}{i x k:Nat}{o:Ob}
def QB(R:RS X c)(u:Fc l)(e:l[i]?=some x)(ho:c.σ.H.lookup x=some o.ao)(hs:AH nn o.2=some o.2):Kk X.L (DH c.G l) c.s.heap k i o:=
 ⟨(congrArg _ (GV e)).trans (QS u e (R.obj x _ ho).tag),DK.sub (g:=nn) G5 (λ_ _=>AA) (GV e) (Im e) (λ_=>id) (λt=>⟨λ_=>id,Of u e t⟩) o.ao o.ao (congrArg (Ñ (AO.inst o.1)) hs) (R.obj x _ ho).rel⟩
def L7{h:æ}{n:Nat}{G:Gh}(e:l[i]?=some x)(t:G.tag (G.δ x)=some (.dict x))(hs:AH nn o.2=some o.2)(q:DK X.L (DH G l) h k i o.ao):DK X.L G h n x o.ao:=
 DK.sub (g:=nn) HR (λ_ _=>AA) (GV e).symm (Im e).symm (λ_=>id) (λ_=>⟨λ_=>id,(congrArg _ (Im e)).trans t⟩) o.ao o.ao (congrArg (Ñ (AO.inst o.1)) hs) q
def EO(R:RS X c):X.h₀.objs.size<=c.s.heap.objs.size:=zP (R.ownB _ (A3 R.tloc)) (Û (R.ownLt _ (A3 R.tloc)))
def Pt{d:Nat}{f:Value}{tr:Tr}(hf:BW X.L X.h₀ d f tr){A:đ}(hA:DE d A){as:List AV}{Q:AV->St->Prop}(h:ID tr as c.σ Q){vas:List Value}(R:RS X c)(ra:VA X c as vas) :
  IG X.L A f c.s/\codeAny (model X.L.prog X.L.w) A (.call f ⟨vas,[]⟩) (CR (AX X (VR X) c Q)) c.s:=by
 refine AD h λos e1 h=>AD h.2 λas' e2 ht=>?_
 have hs:=h.1
 obtain⟨hl,hg⟩:=Nj e1
 have u:=Nz as
 generalize BV as=l at hl hg u e2 ht
 have hd :∀{i x},l[i]?=some x->∃o:Ob,os[i]?=some o/\c.σ.H.lookup x=some o.ao/\c.G.tag (c.G.δ x)=some (.dict x)/\c.G.tag (c.G.μ x)=some (.obj x):=λ{i x} e=>(hg i x e).imp λo q=>⟨q.1,q.2,(R.obj x _ q.2).rel.tagd rfl,(R.obj x _ q.2).tag⟩
 have li :∀{i} {o:Ob},os[i]?=some o->∃x,l[i]?=some x:=λ{i o} e=>⟨_,zV (hl▸(zT.mp e).1)⟩
 have D:Ig (DH c.G l) X.h₀ c.s:=⟨λa e=>R.ownB a (D3.mp e),λa e=>R.ownLt a (D3.mp e),R.base,EO R⟩
 have hV:VAll X.L (DH c.G l) c.s.heap os.length as' vas:=VAll.sub G5 (λy w e hy=>by
  obtain⟨j,e3,rfl⟩:=map_some e
  obtain⟨o,h1,_⟩:=hd (Cw e3)
  exact⟨congrArg _ (GV (Cw e3)).symm,(zT.mp h1).1⟩) e2 ra
 obtain⟨c1,c2⟩:=hf hA D (λi o e=>(li e).elim λx ex=>(hd ex).elim λo' q=>QB R u ex (zR (e.symm.trans q.1)▸q.2.1) (hs i o e)) hV ht
 refine⟨c1,ņ c2 λr s'=>CR.mono λv s' hb=>hb.casesOn λr os' hq hrs hol hoc hkeep hsz hg' ho hO hr=>?_⟩
 have x:CX X c ⟨c.G,⟨c.σ.ρ,NP l os' c.σ.H,c.σ.n,c.σ.anc⟩,s'⟩:=R.chgs (S:=λp=>∃i x,l[i]?=some x/\(p = .obj x\/p = .dict x)) (λp q=>q.elim λi q=>q.elim λx q=>⟨x,q.2⟩)
  (λb o e q=>hkeep b o e λz=>z.elim λp z=>(Ko z.1).elim z.2 λw=>w.elim λi w=>w.elim λx w=>w.2.elim (λw'=>q _ w'.2 ⟨i,x,w.1,.inl rfl⟩) λw'=>q _ w'.2 ⟨i,x,w.1,.inr rfl⟩) hsz rfl hg' ho rfl rfl rfl λy o e=>(OO u (hol.trans hl) e).elim
   (λq=>.inl λp=>by
    obtain⟨i,b,q1,q2,rfl⟩:=q
    obtain⟨o,h1,h2,h3,h4⟩:=hd q1
    exact⟨(R.obj y _ h2).lt,h4,L7 q1 h3 (hoc i b q2) (hO i b q2)⟩)
   λq=>.inr ⟨λz=>z.elim λi z=>z.elim λx z=>z.2.elim (λw=>q.1 i (by cases w;exact z.1)) λw=>(nomatch w),λz=>z.elim λi z=>z.elim λx z=>z.2.elim (λw=>(nomatch w)) λw=>q.1 i (by cases w;exact z.1),q.2⟩
 exact .to x (hr.shut HR hrs) hq
noncomputable def EV(G:Gh)(a:É):Gh:=⟨λb=>bif b==a then none else(G.tag b).map λ_=>.lock,G.μ,G.δ⟩
def Q1{G:Gh}{a:É}:¬ (EV G a).own a:=λz=>z (congrArg (cond · none ((G.tag a).map λ_=>AQ.lock)) (beq_self_eq_true a))
def Gc{G:Gh}{a b:É}(z:(EV G a).own b):G.own b:=λe=>z (by
 show(bif b==a then none else(G.tag b).map λ_=>AQ.lock)=none
 rw[e]
 cases b==a<;>rfl)
def Sa{G:Gh}{a b:É}(z:(EV G a).mt b):False:=z.elim λp z=>z.2 (by
 have e:(bif b==a then none else(G.tag b).map λ_=>AQ.lock)=some p:=z.1
 cases hb:b==a with
 | true=>rw[hb]at e;cases e
 | false=>
  rw[hb]at e
  obtain⟨q,_,e⟩:=map_some e
  exact e.symm)
def UL{G:Gh}{a b:É}(z:G.own b):(EV G a).own b\/b=a:=by
 cases hb:b==a with
 | true=>exact .inr (å hb)
 | false=>
  refine .inl λe=>z ?_
  have e:(bif b==a then none else(G.tag b).map λ_=>AQ.lock)=none:=e
  rw[hb]at e
  cases ht:G.tag b with
  | none=>rfl
  | some p=>rw[ht]at e;cases e
def P1{d:Nat}{f:Value}{tr:Tr}(hf:BW X.L X.h₀ d f tr){A:đ}(hA:DE d A){as:List AV}{Q:AV->St->Prop}(h:VQ tr as c.σ Q){vas:List Value}(R:RS X c)(ra:VA X c as vas) :
  IG X.L A f c.s/\codeAny (model X.L.prog X.L.w) A (.call f ⟨vas,[]⟩) (CR (AX X (VR X) c Q)) c.s:=by
 obtain⟨x,vs,hx,hs,h⟩:=h
 refine AD h λas' e2 ht=>?_
 have st:Cj c.G c.s.heap (EV c.G (c.G.μ x)) c.s.heap:=λa o e q=>⟨e,λz=>q (Gc z)⟩
 obtain⟨us,hp,hr⟩:Jj (λus=>X.L.sq c.s.heap (c.G.μ x) .lst us) (VAll X.L c.G c.s.heap c.σ.n vs):=(R.obj x _ hx).rel
 have D:Ig (EV c.G (c.G.μ x)) X.h₀ c.s:=⟨λa e=>R.ownB a (Gc e),λa e=>R.ownLt a (Gc e),R.base,EO R⟩
 have hr0:VAll X.L (EV c.G (c.G.μ x)) c.s.heap 0 vs us:=VAll.shut st hs hr
 have hv:VRel X.L (EV c.G (c.G.μ x)) c.s.heap 0 (.lst vs) (.ref (c.G.μ x)):=⟨c.G.μ x,us,rfl,hp,Q1,hr0⟩
 have hV:VAll X.L (EV c.G (c.G.μ x)) c.s.heap 0 as' vas:=VAll.sub st (λy w e hy=>BL (b:=Ù y x) (x:=some (AV.lst vs)) e (λhb e9=>by
  obtain rfl:=Å hb
  exact zR e9▸hv) AA) e2 ra
 obtain⟨c1,c2⟩:=hf (os:=[]) hA D (λi o=>AA) hV ht
 refine⟨c1,ņ c2 λr s'=>CR.mono λv s' hb=>hb.casesOn λr os' hq hrs hol hoc hkeep hsz hg' ho hO hr=>?_⟩
 have kp :∀b o,c.s.heap.get? b=some o->s'.heap.get? b=some o:=λb o e=>hkeep b o e λz=>Sa z
 have x':CX X c ⟨c.G,c.σ,s'⟩:=R.chgs (S:=λ_=>False) (λp q=>q.elim) (λb o e q=>kp b o e) hsz rfl hg' ho rfl rfl rfl λy o e=>.inr ⟨id,id,e⟩
 exact .to (c':=⟨c.G,c.σ,s'⟩) x' (hq.1 X.L c.G (EV c.G (c.G.μ x)) s'.heap c.σ.n 0 (c.G.μ x) us v ((Ia .lst us).keep (λo e=>kp _ o e) hp) (VAll.shut (λa o e q=>⟨kp a o e,q⟩) hs hr0) (λb z=>UL z) hr) hq.2
def FI{d:Nat}{f:Value}{tr:Tr}(hf:BW X.L X.h₀ d f tr){A:đ}(hA:DE d A){as:List AV}{Q:AV->St->Prop}(h:B7 tr as c.σ Q){vas:List Value}(R:RS X c)(ra:VA X c as vas) :
  IG X.L A f c.s/\codeAny (model X.L.prog X.L.w) A (.call f ⟨vas,[]⟩) (CR (AX X (VR X) c Q)) c.s:=h.elim (λh=>Pt hf hA h R ra) λh=>P1 hf hA h R ra
theorem CR.call{L:Cd}{A:đ}{s:zY}{f:Value}{vas:List Value}{B:Value->zY->Prop}(h:codeAny (model L.prog L.w) A (.call f ⟨vas,[]⟩) (CR B) s):wpAny (model L.prog L.w) A (call f vas []) B (λ_ _=>False) s:=
 Ų (ņ h λr s' x=>x.elim λv x=>x.1▸x.2)
def Vd{d:Nat}{f:Value}{tr:Tr}(hf:BW X.L X.h₀ d f tr)(hA:DE d X.A){as:List AV}{Q:AV->St->Prop}(h:B7 tr as c.σ Q){vas:List Value}(R:RS X c)(ra:VA X c as vas):Ye X c Q f vas:=
 ⟨(FI hf hA h R ra).1,CR.call (FI hf hA h R ra).2⟩
def Uz(D:É)(trI:Tr)(as:List AV)(σ:St)(Q:AV->St->Prop):Prop:=B7 trI (.ref σ.n::as) (σ.new (.inst D [])) λr σ'=>r = .none/\Q (.ref σ.n) σ'
def Jy{A:đ}{d:Nat}{C:É}{rest:List Value}(hA:DE (d+1) A):DE d (A.under (.builtin "type.__call__" ⟨.ref C::rest,[]⟩)):=by
 refine⟨hA.1,?_,?_⟩
 ·show A.depth+1+d<_
  have:=hA.2.1;exists[_,_,_],0x21180aa12181a0a18,this
 ·have e:(aE9 "type.__call__" ⟨.ref C::rest,[]⟩).cUnits<=4:=by
   have h :∀n:Nat,n<=1->1+3*n<=4:=λn hn=>by exists[_],0x48003c18a018008,hn
   unfold aN4.cUnits
   refine h _ ?_
   have e:(aE9 "type.__call__" ⟨.ref C::rest,[]⟩).frames=if(aE9 "type.__call__" ⟨.ref C::rest,[]⟩).isFrame then 1 else 0:=by rfl'
   rw[e]
   split<;>decide
  show A.units+(aE9 "type.__call__" ⟨.ref C::rest,[]⟩).cUnits+10*d+40<_
  have:=hA.2.2;exists[_,_,_,_],0x3000028920ac01aaa130000289182a0ac1aa1848008,e,this
def Cf.addI(c:Cf)(C:É):Cf:=
 ⟨((c.G.put c.s.heap.objs.size (.dict c.σ.n)).put (c.s.heap.push emptyDict).objs.size (.obj c.σ.n)).name c.σ.n (c.s.heap.push emptyDict).objs.size c.s.heap.objs.size,c.σ.new (.inst C []),{c.s with heap:=(c.s.heap.push emptyDict).push (instObj C c.s.heap.objs.size)}⟩
def RS.allocI(R:RS X c)(C:É):CX X c (c.addI C):=by
 have z:=ä c.s.heap emptyDict
 have ne:c.s.heap.objs.size≠(c.s.heap.push emptyDict).objs.size:=z▸ß (Ê _)
 have td:(c.addI C).G.tag c.s.heap.objs.size=some (.dict c.σ.n):=(Gh.put_ne ne).trans Gh.put_at
 exact R.more (λ_ _ e=>Ã _ (Ã _ e)) (zP (Cp _) (Cp _)) (λa l=>(Gh.put_ne (z▸ß (ã l))).trans (Gh.put_ne (ß l))) (IY (n:=0) (IY (n:=0) R.ownLt _) _) (λx hx=>Gh.name_nm x hx) (ć _) rfl rfl rfl rfl
  λx o' e=>C3 e (λhx hw=>.inr λp=>hx▸hw▸⟨Ê _,(congrArg _ Gh.name_mu).trans Gh.put_at,⟨[],0,by
   rw[show(c.addI C).G.μ c.σ.n=_ from Gh.name_mu,show(c.addI C).G.δ c.σ.n=_ from Gh.name_de]
   exact Î _ rfl,(congrArg _ Gh.name_de).trans (Ã _ (Î _ rfl)),rfl,(congrArg _ Gh.name_de).trans td⟩⟩) λ_ e=>.inl e
def Y1{d:Nat}{C fI:É}{trI:Tr}{K:aG7}(hK:K.In X.h₀)(hm:makesIn K C=true)(hi:findIn K (.ref C) "__init__" = some (some (.ref fI)))(hfn:isFn K (.ref fI)=true)
  (hkp:keepIn K (.ref C)=true) (hf:BW X.L X.h₀ d (.ref fI) trI) (hA:DE (d+1) X.A) {as:List AV} {Q:AV->St->Prop} (h:Uz C trI as c.σ Q) {vas:List Value} (R:RS X c) (ra:VA X c as vas):Ye X c Q (.ref C) vas:=by
 have Xs:K.In c.s.heap:=hK.keeps R.base
 refine⟨λQ' E' hq=>?_,?_⟩
 ·unfold keepIn at hkp
  simp only at hkp
  split at hkp
  ·rename_i o1 o2 fd o3 ho
   unfold keeperOf
   exact zS (ţ (Xs _ _ ho) (zW (hq _)))
  ·rename_i o1 o2 cd o3 ho
   unfold keeperOf
   refine zS (ţ (Xs _ _ ho) ?_)
   exact zS (((looks_specialIn Xs (beq_iff_eq.mp hkp)).here (zW (hq _))))
  ·cases hkp
 have x:=R.allocI C
 have e1:(c.addI C).G.μ c.σ.n=c.s.heap.objs.size+1:=Gh.name_mu.trans (ä ..)
 have c2:=(FI (c:=c.addI C) hf (Jy (C:=C) (rest:=vas) hA) h x.R (vas:=.ref (c.s.heap.objs.size+1)::vas) ⟨_,vas,rfl,⟨congrArg _ e1.symm,Ê _⟩,x.pre.va ra⟩).2
 refine CR.call (make_core (makes_of Xs hm) (looks_findIn Xs hi) (λself=>bind_fn Xs self (beq_iff_eq.mp hfn)) (.inl rfl) (ņ c2 λr s' hr=>?_))
 obtain⟨v,rfl,hr⟩:=hr
 cases hr with
 | mk G₂ σ₂ b x₂ r₂ q=>
 obtain⟨rfl,q⟩:=q
 exact⟨r₂,_,rfl,.to (c':=⟨G₂,σ₂,s'⟩) (b:=AV.ref c.σ.n) (x.trans x₂) ⟨congrArg _ (((x₂.pre.nm c.σ.n (Ê _)).1.trans e1).symm),zZ (Ê _) x₂.pre.n⟩ q⟩
end
end Mine
end
section
open PySem PySem.W PyProof.Rows PySem.Spec PySem.Calls PySem.SeqAt
namespace Mine
structure HU(h₀:æ)(C fN:É):Prop extends MatC h₀ C where
 typ :∀M,â M h₀ (isType (.ref C)) true
 len :∀M,â M h₀ (typeLookup (.ref C) "__len__") (some (.builtin "tuple.__len__"))
 lt :∀M,â M h₀ (typeLookup (.ref C) "__lt__") (some (.builtin "tuple.__lt__"))
 base :∀M,â M h₀ (Bind.staticBase (.ref C)) (.type "tuple")
 init :∀M,â M h₀ (typeLookup (.ref C) "__init__") (some (.builtin "object.__init__"))
 obj :∃oc od cd sl,h₀.get? C=some ⟨oc,od,.cls cd,sl⟩/\cd.hasDel=false/\cd.mro.isEmpty=false
 made :∀M,â M h₀ (aG1 (.ref C)) none
 call :∀M,â M h₀ (specialOf (.ref C) "__call__") (some (.builtin "type.__call__"))
 inst :∀M,â M h₀ (isInstance (.ref C) (.type "type")) true
 self :∀M,â M h₀ (isSubtype (.ref C) (.ref C)) true
 top :∀M,â M h₀ (isSubtype (.ref C) (.type "object")) true
section
variable{prog:þ}{w:Ì}{A:đ}{E:Value->zY->Prop}{s:zY}{h₀:æ}{C fN:É}
def LJ{Q:List Value->zY->Prop}(it:É){T:String}{o:Obj}{items:Array Value}{n:Nat}(hT:T = "list"\/T = "tuple")
  (ho:s.heap.get? it=some o) (hc:o.cls = .type T) (hd:o.data = .seq items n) (hsz:items.size<=sizeLine)
  (hQ:Q items.toList {s with heap:=(s.heap.push {cls:=.type "list",data:=.seq ([]:List Value).toArray}).update s.heap.objs.size (Ă (· ++ items))}) :
  wpAny (model prog w) A (collect (.ref it)) Q E s:=by
 unfold collect
 refine zS (wpAny_runValue (aA1 F.entry_proto_collect ?_))
 rw[Ŕ F.plain_proto_collect _]
 refine zS (Ě ?_)
 refine zW ⟨aG6 F.plain_list_iadd _,aA1 F.entry_list_iadd ?_⟩
 rw[Ŕ F.plain_list_iadd _]
 have hS:(s.heap.push {cls:=.type "list",data:=.seq ([]:List Value).toArray}).get? s.heap.objs.size=some {cls:=.type "list",data:=.seq #[] 0}:=Î _ rfl
 have hS₂:=Ę (Ă (· ++ items)) hS rfl
 have last :∀(r:aG5) (s':zY),r = .ok (.ret (.ref s.heap.objs.size))/\s' = {s with heap:=(s.heap.push {cls:=.type "list",data:=.seq ([]:List Value).toArray}).update s.heap.objs.size (Ă (· ++ items))}->
   (match r with | .ok (.ret v)=>wpAny (model prog w) A (match v with
     | ī a=>do
      match(<-load a).data with
       | Data.seq xs _=>pure xs.toList
       | _=>unsupported "internal:collect"
     | _=>unsupported "internal:collect") Q E s' | .ok _=>False | .error e=>E e s'):=by
  rintro r s' ⟨rfl,rfl⟩
  refine zS (ţ hS₂ (zW ?_))
  have e:((#[]:Array Value)++items).toList=items.toList:=by simp
  show Q ((#[]:Array Value)++items).toList _
  rw[e];exact hQ
 have ext:=wpAny_extend_seq (prog:=prog) (w:=w) (hsz:=hsz) (A:=A) (R:=λr s'=>r = .ok (.ret (.ref s.heap.objs.size))/\s' = {s with heap:=(s.heap.push {cls:=.type "list",data:=.seq ([]:List Value).toArray}).update s.heap.objs.size (Ă (· ++ items))})
  (s:={s with heap:=s.heap.push {cls:=.type "list",data:=.seq ([]:List Value).toArray}}) _ it _ 0 hT hS (Ã _ ho) hc hd ⟨rfl,rfl⟩
 refine Ĩ ext (λfin s' h=>?_) (λe s' h=>absurd h.1 (by simp))
 cases fin with
 | done f=>exact last _ _ h
 | again c'=>exact⟨h.1,ņ h.2 λr s'' hr=>last _ _ hr⟩
def WF:builtinKind "tuple.__new__" = some .builtinFn:=by decide +kernel
def Xa:splitId "tuple.__new__" = some ("tuple","__new__"):=by decide +kernel
def Gn:aG1 (.type "tuple")=pure (some "tuple.__new__"):=F.called_tuple.made
def Fw{t:Value}{Q:Unit->zY->Prop}{M:aJ5}(N:HU h₀ C fN)(hk :∀b o,h₀.get? b=some o->s.heap.get? b=some o)(q:Q () s):wpAny M A (checkBuiltinCall "tuple.__new__" ⟨[.ref C,t],[]⟩) Q E s:=by
 obtain⟨hh,g,dd,tt,os⟩:=s
 have l1:=(N.typ M).keeps hk
 have l2:=(N.sub M).keeps hk
 have l3:=(N.base M).keeps hk
 have l4:â M hh (aG1 (.type "tuple")) (some "tuple.__new__"):=aD7 Gn
 unfold checkBuiltinCall
 rw[WF,Xa]
 repeat (first | simp only[aG8,ö,if_false,bne_self_eq_false] | lk)
 exact q
def Nf(args:Args):(aE9 "tuple.__new__" args).quiet=true:=aN4.quiet_builtin _ (by decide +kernel)
def Hf{R:aG5->zY->Prop}{t:É}{us:List Value}{k:Nat}(N:HU h₀ C fN)(hk :∀b o,h₀.get? b=some o->s.heap.get? b=some o)(ht:s.heap.get? t=some (An us k))(hsz:us.length<=1000)
  (hq :∀(h':æ) (dd:Option É),(∀b o,s.heap.get? b=some o->h'.get? b=some o)->s.heap.objs.size<=h'.objs.size->R (.ok (.ret (.ref h'.objs.size))) {s with heap:=h'.push (BG C us (0,dd))}) :
  codeAny (model prog w) A (.call (.builtin "tuple.__new__") ⟨[.ref C,.ref t],[]⟩) R s:=by
 obtain⟨hh,g,dd,tt,os⟩:=s
 refine codeAny_call_builtin_at (Nf _) F.entry_tuple_new (Fw N hk ?_)
 have l1:=(N.typ (model prog w)).keeps hk
 have l2:=(N.sub (model prog w)).keeps hk
 have l3:=(N.base (model prog w)).keeps hk
 have l4:â (model prog w) hh (aG1 (.type "tuple")) (some "tuple.__new__"):=aD7 Gn
 have l5:=(N.init (model prog w)).keeps hk
 unfold á.«tuple.__new__» Bind.madeHere
 have l6:=hk C
 obtain⟨oc,od,cd,sl,c1,c2,c3⟩:=N.obj
 have hC:=hk _ _ c1
 have ht:hh.get? t=some (An us k):=ht
 repeat (first | simp only[aG8,ö,if_false] | with_reducible refine LJ t (.inr rfl) ht rfl rfl (by simp[sizeLine];omega) ?_ | lk)
 have e:(us.toArray.toList.toArray:Array Value)=us.toArray:=by simp
 generalize hh2:(hh.push {cls:=.type "list",data:=.seq ([]:List Value).toArray}).update hh.objs.size (Ă (· ++ us.toArray))=h2
 have k2 :∀b o,hh.get? b=some o->h2.get? b=some o:=λb o e=>by
  rw[<-hh2];exact(ē _ _ (ń (ğ e))).trans (Ã _ e)
 have s2:hh.objs.size<=h2.objs.size:=by rw[<-hh2,Ċ,ä];exact ć _
 have hC2:=k2 _ _ hC
 rw[if_neg (by simp[sizeLine];omega)]
 unfold newObjAsIs classHasDel
 refine zS (wpAny_alloc (zS (zS (ţ (Ã _ (Ã _ hC2)) (zW ?_)))))
 rw[c2]
 refine zW (zW ?_)
 have:=hq (h2.push {cls:=.type "dict",data:=.dict #[]}) (some h2.objs.size) (λb o e=>Ã _ (k2 b o e)) (zP s2 (by rw[ä];exact ć _))
 exact this
def Nv(a b c d:Value):argsOk "object.__init__" ⟨[a,b,c,d],[]⟩:=by unfold argsOk;rfl'
structure YK(K:aG7)(C fN st:É):Prop where
 reads:readsIn K C (.type "type")=true
 new:findCls K (.ref C) (.type "type") "__new__" = some (.get (.builtin "staticmethod.__get__") (.ref st) .none (.ref C))
 sm :∃rest,recIn K st "staticmethod" = some (.ref fN::rest)
def PT{K:aG7}{R:Value->zY->Prop}{a b c:Value}{st:É}(X:K.In s.heap)(N:HU h₀ C fN)(hk :∀b o,h₀.get? b=some o->s.heap.get? b=some o)(Y:YK K C fN st)
  (hq :∀t,codeAny (model prog w) (A.under (.builtin "type.__call__" ⟨.ref C::[a,b,c],[]⟩)) (.call (.ref fN) ⟨[.ref C,a,b,c],[]⟩) (CR λv s'=>R v s'/\(∀b o,h₀.get? b=some o->s'.heap.get? b=some o)/\∃m us k,v = .ref m/\s'.heap.get? m=some (BG C us k)) {s with toks:=t}) :
  codeAny (model prog w) A (.call (.ref C) ⟨[a,b,c],[]⟩) (CR R) s:=by
 obtain⟨hh,g,dd,tt,os⟩:=s
 obtain⟨oc,od,cd,sl,c1,c2,c3⟩:=N.obj
 have hC:=hk _ _ c1
 have call:=(N.call (model prog w)).keeps hk
 have typ:=(N.inst (model prog w)).keeps hk
 have made:=(N.made (model prog w)).keeps hk
 refine aI8 ?_
 show wpAny _ _ (callAny (.ref C) _) _ _ _
 refine nd_load hC ?_
 show wpAny _ _ (callAny.viaDunder (.ref C) _) _ _ _
 unfold callAny.viaDunder
 refine zS (call.at ?_)
 dsimp only
 rw[tc_bind]
 refine zS (zW (zS (zW ?_)))
 refine zW (a:=Fin.again (.call (.builtin "type.__call__") ⟨.ref C::[a,b,c],[]⟩)) (aH5 rfl ?_)
 refine codeAny_call_builtin_at (aN4.quiet_builtin _ (by decide +kernel)) entry_typeCall (aK8 tc_kind tc_split typ (tc_args _ _ _) ?_)
 unfold á.«type.__call__»
 have hm:â (model prog w) hh (mroOf (.ref C)) cd.mro:=((aN9 (part:=none) hC).andThen .now).andThen .now
 have X:K.In hh:=X
 obtain⟨rest,hsm⟩:=Y.sm
 repeat (first | simp only[c3,ö,if_false] | with_reducible refine cls_bind (s:=⟨hh,g,dd,tt,os⟩) X Y.reads Y.new (Ų (sm_get X hsm ?_)) | with_reducible refine Ų (ņ (hq _) λr s' hr=>?_) | lk)
 obtain⟨_,rfl,h1,h2,m,us,k,rfl,h3⟩:=hr
 obtain⟨hh',g',dd',tt',os'⟩:=s'
 have h3:hh'.get? m=some (BG C us k):=h3
 have tm:â (model prog w) hh' (typeOf (.ref m)) (.ref C):=(aN9 h3).andThen .now
 have self:=(N.self (model prog w)).keeps h2
 have init:=(N.init (model prog w)).keeps h2
 have top:=(N.top (model prog w)).keeps h2
 have made':=(N.made (model prog w)).keeps h2
 unfold isInstance callSpecial? specialOf
 repeat (first | simp only[aG8,ö,if_false] | with_reducible refine Ų ?_ | lk)
 have ti:â (model prog w) hh' (isInstance (.ref m) (.type "object")) true:=tm.andThen top
 refine Ħ oi_plain entry_oi (@aK8 (model prog w) _ _ _ "object.__init__" "object" "__init__" (.ref m) [a,b,c] [] _ oi_kind oi_split ti (Nv _ _ _ _) ?_)
 unfold á.«object.__init__»
 repeat (first | simp only[aG8,ö,if_false,bne_self_eq_false] | lk)
 exact⟨_,rfl,h1⟩
end
section
variable{prog:þ}{w:Ì}{A:đ}{E:Value->zY->Prop}{s:zY}
def N5:opaqueClassAbove (.type "tuple")=pure none:=by rfl'
def KV:typeOf (.type "tuple")=pure (.type "type"):=by rfl'
def OG:specialOf (.type "tuple") "__getattribute__" = pure (some (.builtin "type.__getattribute__")):=by
 unfold specialOf
 rw[KV]
 show typeLookup (.type "type") "__getattribute__" = _
 rw[Ą,ç];rfl'
def O4:hookBefore (.type "type")=pure none:=by rfl'
def RD:findCls [] (.type "tuple") (.type "type") "__new__" = some (.val (.builtin "tuple.__new__")):=by rfl'
def XN(h:æ):aG7.In [] h:=λa o e=>by cases e
def Gk{expr:Bool}{Q:Value->zY->Prop}(h:Q (.builtin "tuple.__new__") {s with toks:=s.toks+1}):wpAny (model prog w) A (getAttr (.type "tuple") "__new__" expr) Q E s:=
 cls_open (K:=[]) (mc:=.type "type") (hook:=none) (XN _) (aD7 N5) (aD7 KV) (by rfl') (aD7 O4) (by rfl') RD
  (zW (by show wpAny _ _ (handedOut _) _ _ _;rw[handedOut_of rfl];exact zW h))
def Hx{pl:Sem Bool}{Q:Value×List Value->zY->Prop}(h :∀t,Q (.builtin "tuple.__new__",[]) {s with toks:=t}):wpAny (model prog w) A (getMethod (.type "tuple") "__new__" pl) Q E s:=by
 unfold getMethod
 rw[OG]
 refine zS (zW ?_)
 dsimp only
 rw[if_pos canon_tga]
 exact zS (Ĩ (Gk (Q:=λv s'=>Q (v,[]) s') (h _)) (λ_ _ z=>zW z) λ_ _ z=>z)
end
noncomputable def JZ(a:AV):Option Bi:=match a with
 | .fn b=>some b
 | _=>none
noncomputable def II(a:AV):Option É:=match a with
 | .glo b=>some b
 | _=>none
def GM{P:AV->Prop}{a:AV}{b:Bi}(e:JZ a=some b)(f:P (.fn b)):P a:=
 AV.casesOn (motive_1:=λa=>JZ a=some b->P a) a AA (λ_=>AA) (λ_=>AA) (λ_ _=>AA) (λ_=>AA) (λ_ e=>zR e▸f) (λ_=>AA) (λ_ _=>AA) (λ_=>AA) (λ_=>AA) e
def HK{P:AV->Prop}{a:AV}{b:É}(e:II a=some b)(f:P (.glo b)):P a:=
 AV.casesOn (motive_1:=λa=>II a=some b->P a) a AA (λ_=>AA) (λ_=>AA) (λ_ _=>AA) (λ_=>AA) (λ_=>AA) (λ_ e=>zR e▸f) (λ_ _=>AA) (λ_=>AA) (λ_=>AA) e
def SX(C:É)(as:List AV)(σ:St)(Q:AV->St->Prop):Prop:=Al as λc as=>A9 (II c) λa=>Al as λt as=>nil as (A9 (Ek t) λvs=>EK (Ù a C&&aK2 vs.length 1000) (Q (.mat vs) σ))
def Kl(C:É):Tr:=λas os Q=>∃a b c,as=[.glo C,a,b,c]/\os=[]/\(a.sub nn=some a/\b.sub nn=some b/\c.sub nn=some c)/\Q (.mat [a,b,c]) []
def Mf(as:List AV)(σ:St)(Q:AV->St->Prop):Prop:=Al as λa as=>Al as λb as=>Al as λc as=>nil as ((a.sub nn=some a/\b.sub nn=some b/\c.sub nn=some c)/\Q (.mat [a,b,c]) σ)
def LX{a:AV}(h:a.sub nn=some a):FM a=none:=
 AV.casesOn (motive_1:=λa=>a.sub nn=some a->FM a=none) a (λ_=>rfl) (λ_ _=>rfl) (λ_ _=>rfl) (λ_ _ _=>rfl) (λ_=>AA) (λ_ _=>rfl) (λ_ _=>rfl) (λ_ _ _=>rfl) (λ_ _=>rfl) (λ_ _=>rfl) h
def Nd{as:List AV}:subAll nn as=some as->BV as=[]:=
 Ä (motive:=λas=>subAll nn as=some as->BV as=[]) (λ_=>rfl) (λa r ih e=>by
  obtain⟨a',e1,e⟩:=bind_some e
  obtain⟨r',e2,e⟩:=map_some e
  cases e
  show Ö (BV r) _ (FM a)=[]
  rw[LX e1]
  exact ih e2) as
def P2:KO []=nn:=rfl
section
variable{X:Cx}{c:Cf}{fN st:É}{Q:AV->St->Prop}
def AX.newMat{vs:List AV}{us:List Value}{h':æ}{dd:Option É}{d:Nat}(t:Nat)(R:RS X c)(r:VA X c vs us)(hk :∀b o,c.s.heap.get? b=some o->h'.get? b=some o)(hs:c.s.heap.objs.size<=h'.objs.size)(q:Q (.mat vs) c.σ) :
  AX X (VR X) c Q (.ref h'.objs.size) {c.s with heap:=h'.push (BG X.L.C us (d,dd)),toks:=t}:=by
 have x:=R.grow (h':=h'.push (BG X.L.C us (d,dd))) t (λb o e=>Ã _ (hk b o e)) (zP hs (Cp _))
 exact .to (b:=AV.mat vs) x ⟨_,us,rfl,⟨(d,dd),Î _ rfl⟩,λz=>absurd (R.ownLt _ z) (Đ.mpr hs),x.pre.va r⟩ q
def Th{as:List AV}(N:HU X.h₀ X.L.C fN)(h:SX X.L.C as c.σ Q){vas:List Value}(R:RS X c)(ra:VA X c as vas):Go X c Q (call (.builtin "tuple.__new__") vas []):=
 AL h ra λa as va vas ra rr h=>AD h λb e1 h=>AL h rr λt as vt vas rt rr h=>BD h rr λh=>AD h λvs e2 h=>by
  obtain⟨hc,h⟩:=A6 h
  obtain⟨h1,h2⟩:=AN hc
  have hb:va = .ref b:=HK (P:=λa=>VR X c a va->va = .ref b) e1 id ra
  subst hb
  rw[Å h1]
  exact Dc (P:=λvt=>Go X c Q (call (.builtin "tuple.__new__") [.ref X.L.C,vt] [])) e2 rt λl us k p1 p2=>Ų (Hf N R.base p1 (p2.len▸Ŏ h2) λh' dd hk hs=>.newMat c.s.toks R p2 hk hs h)
def O7{K:aG7}{v:É}{A:đ}{s:zY}(Xs:K.In s.heap)(hkp:keepIn K (.ref v)=true):IG X.L A (.ref v) s:=λQ' E' hq=>by
 unfold keepIn at hkp
 simp only at hkp
 split at hkp
 ·rename_i o1 o2 fd o3 ho
  unfold keeperOf
  exact zS (ţ (Xs _ _ ho) (zW (hq _)))
 ·rename_i o1 o2 cd o3 ho
  unfold keeperOf
  refine zS (ţ (Xs _ _ ho) ?_)
  exact zS (((looks_specialIn Xs (beq_iff_eq.mp hkp)).here (zW (hq _))))
 ·cases hkp
def PH{d:Nat}{K:aG7}(hK:K.In X.h₀)(N:HU X.h₀ X.L.C fN)(Y:YK K X.L.C fN st)(hkp:keepIn K (.ref X.L.C)=true)(hf:BW X.L X.h₀ d (.ref fN) (Kl X.L.C))(hA:DE (d+1) X.A)
  {as:List AV} (h:Mf as c.σ Q) {vas:List Value} (R:RS X c) (ra:VA X c as vas):Ye X c Q (.ref X.L.C) vas:=by
 refine⟨O7 (hK.keeps R.base) hkp,?_⟩
 refine AL h ra λa as va vas r1 ra h=>AL h ra λb as vb vas r2 ra h=>AL h ra λd' as vd vas r3 ra h=>BD h ra λh=>CR.call (PT (hK.keeps R.base) N R.base Y λt=>?_)
 have x:=R.toks t
 have hs:subAll nn [.glo X.L.C,a,b,d']=some [.glo X.L.C,a,b,d']:=Cr rfl (Cr h.1.1 (Cr h.1.2.1 (Cr h.1.2.2 rfl)))
 have w1:B7 (Kl X.L.C) [.glo X.L.C,a,b,d'] c.σ λr σ'=>(∃vs,r = .mat vs)/\Q r σ':=by
  unfold B7 ID
  left
  rw[Nd hs]
  refine⟨λ_ _=>AA,?_⟩
  rw[P2,hs]
  exact⟨a,b,d',rfl,rfl,h.1,⟨_,rfl⟩,h.2⟩
 refine ņ (FI (c:=c.hp c.σ c.s.heap t) hf (Jy (C:=X.L.C) (rest:=[va,vb,vd]) hA) w1 x.R (vas:=[.ref X.L.C,va,vb,vd]) ⟨_,_,rfl,rfl,x.pre.va ⟨va,_,rfl,r1,vb,_,rfl,r2,vd,_,rfl,r3,rfl⟩⟩).2 λr s'=>CR.mono λv s' hp=>?_
 cases hp with
 | mk G' σ' bb y rr q=>
 obtain⟨⟨vs,rfl⟩,q⟩:=q
 exact⟨.to (c':=⟨G',σ',s'⟩) (b:=AV.mat vs) (x.trans y) rr q,y.R.base,rr.casesOn λa' us hv hp _ _=>hp.elim λe he=>⟨a',us,e,hv,he⟩⟩
end
def Bs:Slot "map" "__next__" "map.__next__":=
 aP0 (T:="map") (name:="__next__") (owner:="map") (n:="__next__") (by rw[Ą,ç];rfl') (by decide +kernel) (by decide +kernel) (by decide +kernel) (.inl (by decide +kernel)) (by rw[Ģ];rfl')
def EA:entryFor table "map.__next__" = some á.«map.__next__»:=ž (by rfl')
def E1(a:Value):argsOk "map.__next__" ⟨[a],[]⟩:=by unfold argsOk;rfl'
def GB:typeLookup (.type "map") "__iter__" = pure (some (.builtin "map.__iter__")):=by rw[Ą,ç];rfl'
def NI:mroOf (.type "map")=pure [.type "map",.type "object"]:=by rw[mroOf_type];rfl'
def HB:typeLookup (.type "map") "__new__" = pure (some (.builtin "map.__new__")):=by rw[Ą,ç];rfl'
def Hk:Slot "map" "__init__" "object.__init__":=
 aP0 (T:="map") (name:="__init__") (owner:="object") (n:="__init__") (by rw[Ą,ç];rfl') (by decide +kernel) (by decide +kernel) (by decide +kernel) (.inl (by decide +kernel)) (by rw[Ģ];rfl')
def Lf:TypeCalled "map" "map.__new__" "object.__init__":=
 ⟨by decide +kernel,by decide +kernel,⟨_,_,NI⟩,madeBy_type NI HB (by decide +kernel),by decide +kernel,by rw[Ģ];rfl',Hk⟩
def HC(a b:Value):checkTypeCall "map" ⟨[a,b],[]⟩=pure ():=by rfl'
def Hu(a b:Value):checkBuiltinCall "map.__new__" ⟨[.type "map",a,b],[]⟩=pure ():=by rfl'
def Hj:entryFor table "map.__new__" = some á.«map.__new__»:=ž (by rfl')
def Hh(obj a b:Value):argsOk "object.__init__" ⟨[obj,a,b],[]⟩:=by unfold argsOk;rfl'
def OB:typeLookup (.type "map") "__len__" = pure none:=by rw[Ą,ç];rfl'
def L0:typeLookup (.type "map") "__length_hint__" = pure none:=by rw[Ą,ç];rfl'
noncomputable def Bt(l:É)(i:Nat):Obj:={cls:=.type "list_iterator",data:=.fields #[.ref l,.int i 0]}
noncomputable def Cg(T:É)(f:Value):Obj:={cls:=.type "map",data:=.fields #[.ref T,f]}
def Ui:isSubtype (.type "map") (.type "map")=pure true:=by rw[Ģ];rfl'
section
variable{prog:þ}{w:Ì}{A:đ}{E:Value->zY->Prop}{s:zY}
def Hg(l:É)(us:List Value)(k:Nat)(f:Value) :
  Meets (á.«map.__new__» ⟨[.type "map",f,.ref l],[]⟩)
   (λ_ R s=>s.heap.get? l=some (A1 us k)/\R (.ok (.ret (.ref (s.heap.objs.size+2)))) {s with heap:=((s.heap.push (Bt l 0)).push (An [.ref s.heap.objs.size] 0)).push (Cg (s.heap.objs.size+1) f)}):=
 .of_wp λprog w A R s h=>by
  obtain⟨hp,g,d,tk,os⟩:=s;obtain⟨hl,h⟩:=h
  have f1:=Ui
  have hl:hp.get? l=some (A1 us k):=hl
  unfold á.«map.__new__» á.SmallTypes.newClass á.SmallTypes.iterAll á.SmallTypes.refuseKeywords
  have hI:hp.IsList l us.toArray:=AK hl
  repeat (any_goals (first | assumption | with_reducible refine wpAny_pyIter_list (s:=⟨hp,g,d,tk,os⟩) hI ?_ | wp_step))
  refine⟨_,rfl,?_⟩
  have e1:((hp.push (Bt l 0)).push (An [.ref hp.objs.size] 0)).objs.size=hp.objs.size+2:=by rw[ä,ä]
  have e2:(hp.push (Bt l 0)).objs.size=hp.objs.size+1:=by rw[ä]
  show R (.ok (.ret (.ref ((hp.push (Bt l 0)).push (An [.ref hp.objs.size] 0)).objs.size))) ⟨((hp.push (Bt l 0)).push (An [.ref hp.objs.size] 0)).push (Cg (hp.push (Bt l 0)).objs.size f),g,d,tk,os⟩
  rw[e1,e2]
  exact h
def PL{it l:É}{i:Nat}{us:List Value}{k:Nat}{v:Value}{Q:Value->zY->Prop}(hit:s.heap.get? it=some (Bt l i))(hl:s.heap.get? l=some (A1 us k))(hv:us[i]?=some v)
  (h :∀h',h'.get? it=some (Bt l (i+1))->ÿ it s.heap h'->Q v {s with heap:=h'}):wpAny (model prog w) A (Ġ (.ref it)) Q E s:=by
 have hI:s.heap.IsListIter it l i:=⟨_,hit,rfl,rfl⟩
 unfold Ġ
 refine zS (ċ (name:=zQ "__next__") hI.typeIs aA7 (ă aA7 hI.typeIs entry_listiter_next ?_ (args_listiter_next _)))
 show wpAny _ _ (field (.ref it) 0 >>= _) _ _ s
 refine zS (Ŵ hit rfl (x:=.ref l) rfl ?_)
 show wpAny _ _ (if(ī l==Ē)=true then _ else _) _ _ s
 rw[if_neg (show ¬ ((ī l==Ē)=true)from š)]
 show wpAny _ _ (field (.ref it) 1 >>= _) _ _ s
 refine zS (Ŵ hit rfl (x:=.int i 0) rfl ?_)
 show wpAny _ _ (seqItems? (.ref l) >>= _) _ _ s
 refine zS (ŵ hl rfl ?_)
 simp only[œ,ì,hv]
 refine zS (aF4 hit rfl (by simp) (zW ⟨v,rfl,zW (h _ ?_ (Ŀ ..))⟩))
 exact Ę _ hit rfl
def Sm{it l:É}{i:Nat}{us:List Value}{k:Nat}{Q:Value->zY->Prop}(hh:A.handled=none)(hit:s.heap.get? it=some (Bt l i))(hl:s.heap.get? l=some (A1 us k))(hv:us[i]?=none)
  (h :∀h' x,aM4 it s.heap h'->s.heap.objs.size<=h'.objs.size->({s with heap:=h'}:zY).TypeIs x "StopIteration"->E x {s with heap:=h'}):wpAny (model prog w) A (Ġ (.ref it)) Q E s:=by
 have hI:s.heap.IsListIter it l i:=⟨_,hit,rfl,rfl⟩
 unfold Ġ
 refine zS (ċ (name:=zQ "__next__") hI.typeIs aA7 (ă aA7 hI.typeIs entry_listiter_next ?_ (args_listiter_next _)))
 show wpAny _ _ (field (.ref it) 0 >>= _) _ _ s
 refine zS (Ŵ hit rfl (x:=.ref l) rfl ?_)
 show wpAny _ _ (if(ī l==Ē)=true then _ else _) _ _ s
 rw[if_neg (show ¬ ((ī l==Ē)=true)from š)]
 show wpAny _ _ (field (.ref it) 1 >>= _) _ _ s
 refine zS (Ŵ hit rfl (x:=.int i 0) rfl ?_)
 show wpAny _ _ (seqItems? (.ref l) >>= _) _ _ s
 refine zS (ŵ hl rfl ?_)
 simp only[œ,ì,hv]
 refine zS (aF5 (zS (aF4 hit rfl (by simp) ?_)))
 show wpAny _ _ (newExc (.type "StopIteration") [] >>= _) _ _ _
 refine zS ?_
 simp only[newExc,newTuple]
 refine zS (Ě ?_ (by size_fits))
 refine zS (m:=firstArgMember _ _) (ų (a:=Ē) (by first | rfl | (simp only[firstArgMember];rfl)) ?_)
 refine Ě ?_ (by size_fits)
 simp only[raiseNew]
 refine zS (wpAny_handled ?_)
 rw[show A.in1.handled=none from hh]
 refine zS (zW (wpAny_throw ?_))
 refine h _ _ (((Ŀ ..).extBut.push _).push _) ?_ ⟨_,Î _ rfl,rfl⟩
 rw[ä,ä,Ċ]
 exists[_],0x18180aa00
def Pi{I T it l:É}{i:Nat}{us:List Value}{k:Nat}{f v:Value}{Q:Option Value->zY->Prop}(hI:s.heap.get? I=some (Cg T f))(hT:s.heap.get? T=some (An [.ref it] 0))(hit:s.heap.get? it=some (Bt l i))(hl:s.heap.get? l=some (A1 us k))
  (hne:I≠it) (hv:us[i]?=some v) (hc :∀h',h'.get? it=some (Bt l (i+1))->ÿ it s.heap h'->codeAny (model prog w) A.in1 (.call f ⟨[v],[]⟩) (CR λr s'=>Q (some r) s') {s with heap:=h'}):wpAny (model prog w) A (pyNext (.ref I)) Q E s:=by
 have hTy:s.TypeIs (.ref I) "map":=⟨_,hI,rfl⟩
 unfold pyNext
 refine zS (aG4 (ċ (name:=zQ "__next__") hTy Bs
  (ă Bs hTy EA ?_ (E1 _))))
 obtain⟨hp,g,d,tk,os⟩:=s
 have hI:hp.get? I=some (Cg T f):=hI
 have hT:hp.get? T=some (An [.ref it] 0):=hT
 have hit:hp.get? it=some (Bt l i):=hit
 have hl:hp.get? l=some (A1 us k):=hl
 unfold á.«map.__next__»
 repeat (first | ((with_reducible show wpAny _ _ (Ġ _) _ _ _);refine PL (s:=⟨hp,g,d,tk,os⟩) hit hl hv ?_) | wp_step)
 intro h' x1 x2
 have hI':h'.get? I=some (Cg T f):=(x2.2 I hne).trans hI
 repeat wp_step
 refine ņ (hc h' x1 x2) λr s' hr=>?_
 obtain⟨v,rfl,hr⟩:=hr
 exact zS (aM9 (zW ⟨_,rfl,zW hr⟩))
def UY{I T it l:É}{i:Nat}{us:List Value}{k:Nat}{f:Value}{Q:Option Value->zY->Prop}(hh:A.handled=none)(hI:s.heap.get? I=some (Cg T f))(hT:s.heap.get? T=some (An [.ref it] 0))(hit:s.heap.get? it=some (Bt l i))(hl:s.heap.get? l=some (A1 us k))
  (hv:us[i]?=none) (hq :∀h',aM4 it s.heap h'->s.heap.objs.size<=h'.objs.size->Q none {s with heap:=h'}):wpAny (model prog w) A (pyNext (.ref I)) Q E s:=by
 have hTy:s.TypeIs (.ref I) "map":=⟨_,hI,rfl⟩
 unfold pyNext
 refine zS (aG4 (ċ (name:=zQ "__next__") hTy Bs
  (ă Bs hTy EA ?_ (E1 _))))
 obtain⟨hp,g,d,tk,os⟩:=s
 have hI:hp.get? I=some (Cg T f):=hI
 have hT:hp.get? T=some (An [.ref it] 0):=hT
 have hit:hp.get? it=some (Bt l i):=hit
 have hl:hp.get? l=some (A1 us k):=hl
 unfold á.«map.__next__»
 repeat (first | ((with_reducible show wpAny _ _ (Ġ _) _ _ _);refine Sm (s:=⟨hp,g,d,tk,os⟩) hh hit hl hv ?_) | wp_step)
 intro h' x y1 y2 y3
 exact zS (aD2 (T:="StopIteration") (b:=true) y3 isSubtype_stop (zW (hq h' y1 y2)))
end
def Hb(C:É):Tr:=λas os Q=>∃vs,as=[.glo C,.tup vs]/\vs.length=3/\subAll nn vs=some vs/\os=[]/\Q (.mat vs) []
def Gv(vss:List (List AV)):Prop:=∀(i:Nat) (vs:List AV),vss[i]?=some vs->vs.length=3/\subAll nn vs=some vs
def ES(vss:List (List AV)):List AV:=vss.map .mat
section
variable{L:Cd}{A:đ}{h₀:æ}{d:Nat}{fM:É}{G:Gh}{s₀:zY}{S I T it l mth:É}{us:List Value}{vss:List (List AV)}{k:Nat}
structure XJ(L:Cd)(G:Gh)(s₀:zY)(S it:É)(vss:List (List AV))(i:Nat)(acc:List Value)(s:zY):Prop where
 keep :∀b o,s₀.heap.get? b=some o->b≠it->b≠S->s.heap.get? b=some o
 size:s₀.heap.objs.size<=s.heap.objs.size
 gens:s.gens=s₀.gens
 os:s.os=s₀.os
 list :∃c,s.heap.get? S=some (A1 acc c)
 told:VAll L G s.heap 0 (ES (vss.take i)) acc
def Nq{i:Nat}{vs:List AV}(e:vss[i]?=some vs):ES (vss.take (i+1))=ES (vss.take i)++[.mat vs]:=by
 unfold ES
 rw[ĺ,e,ù]
 rfl
def PG{R:aG5->zY->Prop}(hf:BW L h₀ d (.ref fM) (Hb L.C))(hA:DE d A.in1.in1)(D:Ig G h₀ s₀)(oS:G.own S)(oI:G.own it)(nom :∀a,¬ G.mt a)(hSi:S≠it)(hIi:I≠it)(hTi:T≠it)(hli:l≠it)(hmi:mth≠it)
  (hI:s₀.heap.get? I=some (Cg T (.ref mth))) (hT:s₀.heap.get? T=some (An [.ref it] 0)) (hl:s₀.heap.get? l=some (A1 us k)) (hm:s₀.heap.get? mth=some (methodObj (.ref fM) (.ref L.C)))
  (nS:I≠S/\T≠S/\l≠S/\mth≠S) (ht:Gv vss) (hV:VAll L G s₀.heap 0 (vss.map .tup) us) (hn:vss.length<=1000000) (hR :∀acc s',XJ L G s₀ S it vss vss.length acc s'->R (.ok (.ret .none)) s') (j:Nat) :
  ∀(i:Nat) (acc:List Value) (s:zY),i+j=vss.length->XJ L G s₀ S it vss i acc s->s.heap.get? it=some (Bt l i)->codeAny (model L.prog L.w) A (.builtin "list.extend.loop" ⟨[.ref S,.ref I,.none],[]⟩) R s:=by
 have n1:us.length=vss.length:=hV.len.trans (z6 ..)
 have nI :∀{a},¬ G.own a->a≠it:=λq z=>q (z▸oI)
 have nSS :∀{a},¬ G.own a->a≠S:=λq z=>q (z▸oS)
 refine Ł (motive:=λj=>∀(i:Nat) (acc:List Value) (s:zY),i+j=vss.length->XJ L G s₀ S it vss i acc s->s.heap.get? it=some (Bt l i)->codeAny (model L.prog L.w) A (.builtin "list.extend.loop" ⟨[.ref S,.ref I,.none],[]⟩) R s) (λi acc s hi M hit=>?_) (λj ih i acc s hi M hit=>?_) j
 ·refine aA1 F.entry_extend_loop ?_
  rw[Ŕ Ξ _]
  show wpAny _ A.in1 (pyNext (.ref I) >>= _) _ _ s
  have hi:i=vss.length:=hi
  subst hi
  refine zS (UY hA.1 (M.keep _ _ hI hIi nS.1) (M.keep _ _ hT hTi nS.2.1) hit (M.keep _ _ hl hli nS.2.2.1) (Ā (Â n1)) λh' y1 y2=>?_)
  exact zW (hR acc {s with heap:=h'} ⟨λb o e b1 b2=>y1 b o b1 (M.keep b o e b1 b2),zP M.size y2,M.gens,M.os,M.list.imp λc hc=>y1 _ _ hSi hc,M.told.zero λa o e q=>⟨y1 a o (nI q) e,q⟩⟩)
 ·have hlt:i<vss.length:=hi▸Þ (Ň j)
  have e1:vss[i]?=some vss[i]:=zV hlt
  have h3:=ht i _ e1
  generalize vss[i]=vs at e1 h3
  obtain⟨v,g1,g2⟩:=hV.get ((Ð ..).trans (congrArg (Ñ AV.tup) e1))
  refine aA1 F.entry_extend_loop ?_
  rw[Ŕ Ξ _]
  show wpAny _ A.in1 (pyNext (.ref I) >>= _) _ _ s
  refine zS (Pi (M.keep _ _ hI hIi nS.1) (M.keep _ _ hT hTi nS.2.1) hit (M.keep _ _ hl hli nS.2.2.1) hIi g1 λh' x1 x2=>?_)
  have kk :∀b o,s₀.heap.get? b=some o->b≠it->b≠S->h'.get? b=some o:=λb o e b1 b2=>(x2.2 b b1).trans (M.keep b o e b1 b2)
  have ks:s₀.heap.objs.size<=h'.objs.size:=x2.1.symm▸M.size
  refine method_call (kk _ _ hm hmi nS.2.2.2) ?_
  have D':Ig G h₀ {s with heap:=h'}:=⟨D.lo,λa ha=>zZ (D.lt a ha) ks,λb o e=>kk b o (D.base b o e) (λz=>CP e (z▸D.lo _ oI)) λz=>CP e (z▸D.lo _ oS),zP D.size ks⟩
  refine ņ (hf hA D' (as:=[.glo L.C,.tup vs]) (os:=[]) (Q:=λr _=>r = .mat vs) (vas:=[.ref L.C,v]) (λ_ _=>AA) ⟨_,_,rfl,rfl,v,_,rfl,g2.zero λa o e q=>⟨kk a o e (nI q) (nSS q),q⟩,rfl⟩ ⟨vs,rfl,h3.1,h3.2,rfl,rfl⟩).2 λr s'=>CR.mono λrv s' hb=>?_
  cases hb with
  | mk r os' hq hrs _ _ hkeep hsz hg ho _ hr=>
  subst hq
  obtain⟨c,hc⟩:=M.list
  have hkp :∀b o,h'.get? b=some o->s'.heap.get? b=some o:=λb o e=>hkeep b o e (nom b)
  have hS':=hkp _ _ ((x2.2 S hSi).trans hc)
  have hacc:acc.length<=1000000:=zP (Â (M.told.len.trans ((z6 ..).trans (List.length_take_of_le (Û hlt))))) (Û (zZ hlt hn))
  have hoth :∀b o,b≠S->s'.heap.get? b=some o->(s'.heap.update S (Ă (·.push rv))).get? b=some o:=λb o hb e=>(ē _ _ (aD6 hb)).trans e
  show wpAny _ A.in1 (updateSeq S (·.push rv) >>= _) _ _ _
  refine zS (aE3 hS' rfl (zW ⟨aG6 Ξ _,ih (i+1) (acc++[rv]) _ ((Nat.succ_add_eq_add_succ i j).trans hi) ⟨λb o e b1 b2=>hoth b o b2 (hkp _ _ (kk b o e b1 b2)),?_,hg.trans M.gens,ho.trans M.os,⟨c+1,?_⟩,?_⟩ (hoth _ _ (aD6 hSi) (hkp _ _ x1))⟩) (zP hacc (by decide)) (by rw[Array.size_push];exact ý (zP hacc (by decide))))
  ·show _<=(s'.heap.update S _).objs.size
   rw[Ċ]
   exact zP ks hsz
  ·exact(Ę (Ă (·.push rv)) hS' rfl).trans (by simp[A1,Ă])
  ·rw[Nq e1]
   exact VAll.append (M.told.zero λa o e q=>⟨hoth a o (nSS q) (hkp _ _ ((x2.2 a (nI q)).trans e)),q⟩) ⟨rv,[],rfl,hr.zero λa o e q=>⟨hoth a o (nSS q) e,q⟩,rfl⟩
end
def Dg:Slot "map" "__iter__" "map.__iter__":=
 aP0 (T:="map") (name:="__iter__") (owner:="map") (n:="__iter__") GB (by decide +kernel) (by decide +kernel) (by decide +kernel) (.inl (by decide +kernel)) (by rw[Ģ];rfl')
def H7:entryFor table "map.__iter__" = some á.«dict_keyiterator.__iter__»:=
 entryFor_alias (id':="dict_keyiterator.__iter__") (by rfl') (by first | rfl | decide +kernel | (unfold String.splitOn;simp +decide [String.splitOnAux])) (by decide +kernel) (by rfl')
def Ht(a:Value):argsOk "map.__iter__" ⟨[a],[]⟩:=by unfold argsOk;rfl'
section
variable{prog:þ}{w:Ì}{A:đ}{E:Value->zY->Prop}{s:zY}
def SI{I T:É}{f:Value}{Q:Value->zY->Prop}(hI:s.heap.get? I=some (Cg T f))(h:Q (.ref I) s):wpAny (model prog w) A (pyIter (.ref I)) Q E s:=by
 have hT:s.TypeIs (.ref I) "map":=⟨_,hI,rfl⟩
 refine wpAny_pyIter_slot hT Dg (ă Dg hT H7 ?_ (Ht _))
 show wpAny _ _ (ret (.ref I)) _ _ s
 exact zW ⟨_,rfl,"map",_,hT,Bs.lookup,h⟩
end
section
variable{L:Cd}{A:đ}{E:Value->zY->Prop}{s:zY}{h₀:æ}{d:Nat}{fM:É}{G:Gh}{I T it l mth:É}{us:List Value}{vss:List (List AV)}{k:Nat}
def Jd{Q:Value->zY->Prop}(hf:BW L h₀ d (.ref fM) (Hb L.C))(hA:DE (d+1) A)(D:Ig G h₀ s)(oI:G.own it)(nom :∀a,¬ G.mt a)(hIi:I≠it)(hTi:T≠it)(hli:l≠it)(hmi:mth≠it)
  (hI:s.heap.get? I=some (Cg T (.ref mth))) (hT:s.heap.get? T=some (An [.ref it] 0)) (hit:s.heap.get? it=some (Bt l 0)) (hl:s.heap.get? l=some (A1 us k)) (hm:s.heap.get? mth=some (methodObj (.ref fM) (.ref L.C)))
  (ht:Gv vss) (hV:VAll L G s.heap 0 (vss.map .tup) us) (hn:vss.length<=1000000)
  (hR :∀(acc:List Value) (s':zY),(∀b o,s.heap.get? b=some o->b≠it->s'.heap.get? b=some o)->s.heap.objs.size<=s'.heap.objs.size->s'.gens=s.gens->s'.os=s.os->
   (∃c,s'.heap.get? s.heap.objs.size=some (A1 acc c))->VAll L (G.put s.heap.objs.size .lock) s'.heap 0 (ES vss) acc->Q (.ref s.heap.objs.size) s') :
  wpAny (model L.prog L.w) A (call (.type "list") [.ref I]) Q E s:=by
 refine callType_codes (Q₁:=λobj s₁=>obj = .ref s.heap.objs.size/\s₁ = {s with heap:=s.heap.push {cls:=.type "list",data:=.seq #[]}}) F.called_list (F.typeCall_list_1 _) F.entry_list_init
  (code_list_new _ ⟨rfl,rfl⟩) λobj s₁ h₁=>?_
 obtain⟨rfl,rfl⟩:=h₁
 have hS:(s.heap.push {cls:=.type "list",data:=.seq #[]}).get? s.heap.objs.size=some {cls:=.type "list",data:=.seq #[]}:=Î _ rfl
 refine⟨⟨_,hS,rfl⟩,F.args_list_init_2 _ _,?_⟩
 generalize hSe:s.heap.objs.size=S at hS hR ⊢
 have lt :∀{a o},s.heap.get? a=some o->a≠S:=λ{a o} e=>hSe▸ß (ğ e)
 show wpAny _ A.in1.in1 (do let old<-aB3 (.ref S);á.List.listUpdate (.ref S) (λ_=>#[]);letGo old.toList.reverse;ŭ (.ref S) (.ref I) .none) _ _ _
 refine zS ?_
 unfold aB3
 refine zS (ŵ hS rfl (zW ?_))
 show wpAny _ A.in1.in1 (updateSeq S (λ_=>#[]) >>= λ_=>letGo (#[]:Array Value).toList.reverse >>= λ_=>ŭ (.ref S) (.ref I) .none) _ _ _
 refine zS (aE3 hS rfl ?_)
 have hS₂:=Ę (Ă (λ_=>(#[]:Array Value))) hS rfl
 refine zS (aM9 ?_)
 generalize hp2:(s.heap.push {cls:=.type "list",data:=.seq #[]}).update S (Ă (λ_=>(#[]:Array Value)))=p2 at hS₂
 have k2 :∀b o,s.heap.get? b=some o->p2.get? b=some o:=λb o e=>hp2▸(ē _ _ (aD6 (lt e))).trans (Ã _ e)
 have z2:p2.objs.size=S+1:=by rw[<-hp2,Ċ,ä,hSe]
 unfold ŭ
 have hTy:(⟨p2,s.gens,s.drawn,s.toks,s.os⟩:zY).TypeIs (.ref I) "map":=⟨_,k2 _ _ hI,rfl⟩
 refine zS (aI3 hTy ?_)
 rw[show á.List.listSameRef (.ref S) (.ref I)=false from beq_eq_false_iff_ne.mpr (aD6 (lt hI)),show(false||Ř "map" == Ř "list" || Ř "map" == Ř "tuple")=false by decide]
 rw[if_neg š]
 refine zS (SI (k2 _ _ hI) ?_)
 refine zS (ā ?_)
 unfold á.List.listLengthHint
 refine zS (aE2 hTy OB ?_)
 show wpAny _ A.in1.in1 (specialOf (ī I) (zQ "__length_hint__") >>= _) _ _ _
 refine zS (aE2 hTy L0 ?_)
 refine zW ?_
 show wpAny _ A.in1.in1 (rule "list.extend.makes-room" >>= λ_=>á.List.listTouch (.ref S) >>= λ_=>
  again (.builtin "list.extend.loop" ⟨[.ref S,.ref I,.none],[]⟩)) _ _ _
 refine zS (aF5 ?_)
 refine zS ?_
 show wpAny _ A.in1.in1 (updateSeq S (·.push .none) >>= λ_=>updateSeq S (·.pop)) _ _ _
 refine zS (aE3 hS₂ rfl ?_)
 have hS₃:=Ę (Ă (·.push Ē)) hS₂ rfl
 refine aE3 (hz:=by seq_fits) hS₃ rfl ?_
 have hS₄:=Ę (Ă (·.pop)) hS₃ rfl
 generalize hp4:(p2.update S (Ă (·.push Ē))).update S (Ă (·.pop))=p4 at hS₄
 have k4 :∀b o,s.heap.get? b=some o->p4.get? b=some o:=λb o e=>hp4▸(ē _ _ (aD6 (lt e))).trans ((ē _ _ (aD6 (lt e))).trans (k2 b o e))
 have z4:p4.objs.size=S+1:=by rw[<-hp4,Ċ,Ċ,z2]
 refine zW ⟨aG6 Ξ _,?_⟩
 have D4:Ig (G.put S .lock) h₀ {s with heap:=p4}:=⟨λa ha=>(Gh.put_own ha).elim (λy=>y▸hSe▸D.size) (D.lo a),λa ha=>z4.symm▸(Gh.put_own ha).elim (λy=>y▸Ê _) λy=>ã (hSe▸D.lt a y),λb o e=>k4 _ _ (D.base b o e),z4.symm▸hSe▸ð D.size⟩
 have hA2:DE d A.in1.in1.in1:=⟨hA.1,Í (ć _) hA.2.1,by have:=hA.2.2;show A.units+1+1+1+10*d+40<_;exact id (ql [_,_,_] 0x2000028910ac1818180aaaaa120000289181a0ac0aa18 (by rfl') this)⟩
 have oS:(G.put S .lock).own S:=A3 Gh.put_at
 have oI':(G.put S .lock).own it:=λz=>oI ((Gh.put_ne (lt hit)).symm.trans z)
 have nom' :∀a,¬ (G.put S .lock).mt a:=λa z=>z.elim λp z=>(ł (a=S)).elim (λy=>z.2 (zR ((y▸z.1).symm.trans Gh.put_at))) λy=>nom a ⟨p,(Gh.put_ne y).symm.trans z.1,z.2⟩
 have st:Cj G s.heap (G.put S .lock) p4:=λa o e q=>⟨k4 a o e,λz=>(Gh.put_own z).elim (lt e) q⟩
 refine PG (s₀:={s with heap:=p4}) (A:=A.in1) (S:=S) hf hA2 D4 oS oI' nom' (λz=>lt hit z.symm) hIi hTi hli hmi (k4 _ _ hI) (k4 _ _ hT) (k4 _ _ hl) (k4 _ _ hm) ⟨lt hI,lt hT,lt hl,lt hm⟩ ht (hV.zero st) hn (λacc s' M=>?_) vss.length 0 [] _ (ĩ _) ⟨λb o e _ _=>e,zX _,rfl,rfl,⟨_,hS₄⟩,rfl⟩ (k4 _ _ hit)
 have told:=M.told
 rw[aD3]at told
 exact⟨rfl,hR acc s' (λb o e b1=>M.keep b o (k4 b o e) b1 (lt e)) (zP (z4.symm▸ć _) M.size) M.gens M.os M.list told⟩
end
section
variable{prog:þ}{w:Ì}{A:đ}{E:Value->zY->Prop}{s:zY}{C:É}
def Nn{a b:Int}{t u:Tok}{Q:Value->zY->Prop}(h:Q (.bool (decide (a<b))) s):wpAny (model prog w) A (richCompare .Lt (.int a t) (.int b u)) Q E s:=lt_int h
def W2{l b:É}{x y:Int}{r r':List Value}{n n2:Nat×Option É}{t u:Tok}{Q:aO4->zY->Prop}(hl:s.heap.get? l=some (BG C (.int x t::r) n))(hb:s.heap.get? b=some (BG C (.int y u::r') n2))(hne:(x==y)=false)
  (hs:â (model prog w) s.heap (isSubtype (.ref C) (.type "tuple")) true) (h:Q (.done (.ret (.bool (decide (x<y))))) s):wpAny (model prog w) A (á.«tuple.__lt__» ⟨[.ref l,.ref b],[]⟩) Q E s:=by
 obtain⟨hp,g,d,tk,os⟩:=s
 have hl:hp.get? l=some (BG C (.int x t::r) n):=hl
 have hb:hp.get? b=some (BG C (.int y u::r') n2):=hb
 have tb:â (model prog w) hp (isInstance (.ref b) (.type "tuple")) true:=(show â (model prog w) hp (typeOf (.ref b)) (.ref C)from(aN9 hb).andThen .now).andThen hs
 unfold á.«tuple.__lt__»
 repeat (first | with_reducible refine â.at tb ?_ | ((with_reducible show wpAny _ _ (eqBool _ _) _ _ _);refine wpAny_eqBool_int ?_;simp only[hne]) | ((with_reducible show wpAny _ _ (richCompare aG0.Lt _ _) _ _ _);refine Nn ?_) | lk)
 exact h
end
def L4{C:É}{us vs:List Value}{e:Nat×Option É}{k:Nat}(z:some (BG C us e)=some (seqObj "list" vs.toArray k)):False:=nomatch(congrArg (λo:Option Obj=>o.map Obj.cls) z:some (ī C)=some (Ř "list"))
def Ck{α:Type}(f:Nat->Nat->Bool)(t:aP1 α):α:=aL6 (λa=>a) (λi j _ ih=>ih (f i j)) t
def OA(C:É)(h:æ)(v:Value)(x:Int):Prop:=∃m k t r,v = .ref m/\h.get? m=some (BG C (.int x t::r) k)
section
variable{prog:þ}{w:Ì}{A:đ}{E:Value->zY->Prop}{s:zY}{h₀:æ}{C fN:É}
def YY{x y:Value}{a b:Int}{Q:Bool->zY->Prop}(N:HU h₀ C fN)(hk :∀b o,h₀.get? b=some o->s.heap.get? b=some o)(hu:A.units<cLine)(hx:OA C s.heap x a)(hy:OA C s.heap y b)(hne:(a==b)=false)(h:Q (decide (a<b)) s) :
  wpAny (model prog w) A (keyLt' oneType' x y) Q E s:=by
 obtain⟨m,k,t,r,rfl,hm⟩:=hx
 obtain⟨m',k',u,r',rfl,hm'⟩:=hy
 rw[keyLt'_oneType,oneLt'_eq]
 simp only[if_true]
 refine zS (wpAny_cRoomFor_or (.inr hu) ?_)
 exact zS (IA hm hk (N.lt _) PySem.F.slot_tuple_lt.bind (DD (n:="__lt__") N.toMatC hm hk PySem.F.slot_tuple_lt.plain (by decide +kernel) (by decide +kernel) PySem.F.entry_tuple_lt (PySem.F.args_tuple_lt_2 _ _) (W2 hm hm' hne ((N.sub _).keeps hk) ⟨_,rfl,Œ h⟩)))
end
section
variable{prog:þ}{w:Ì}{A:đ}{E:Value->zY->Prop}{s:zY}{h₀:æ}{C fN m:É}{us:List Value}{k:Nat×Option É}
def U1{Q:Value->zY->Prop}(hc:MatC h₀ C)(hlen :∀M,â M h₀ (typeLookup (.ref C) "__len__") (some (.builtin "tuple.__len__")))(hm:s.heap.get? m=some (BG C us k))(hk :∀b o,h₀.get? b=some o->s.heap.get? b=some o)(hz:us.length<=1000)
  (h :∀t u,Q (.int us.length t) {s with toks:=u}):wpAny (model prog w) A (call (.builtin "len") [.ref m]) Q E s:=by
 refine call_function_tree (by decide +kernel) (by decide +kernel) (ž (b:=á.«len») (by rfl')) (by unfold argsOk;rfl') ?_
 unfold á.«len» callSpecial?
 refine zS (zW ?_)
 refine zS (zS (C6 hm hk (hlen _) ?_))
 dsimp only
 refine ā ?_
 rw[PySem.F.slot_tuple_len.bind]
 refine zS (zW (zS ?_))
 refine DD (n:="__len__") hc hm hk PySem.F.slot_tuple_len.plain (by decide +kernel) (by decide +kernel) PySem.F.entry_tuple_len (PySem.F.args_tuple_len_1 _) ?_
 obtain⟨hp,g,d,tk,os⟩:=s
 have hm:hp.get? m=some (BG C us k):=hm
 unfold á.«tuple.__len__»
 repeat lk
 have e:(us.toArray.size:Int)=us.length:=by simp
 refine⟨_,rfl,zW ?_⟩
 rw[e]
 dsimp only
 refine zS (ā ?_)
 refine ų (a:=(us.length:Int)) rfl ?_
 refine zS (aM9 ?_)
 rw[if_neg (by exists[_],0x800f49),if_neg (by omega)]
 refine zS (wpAny_mkInt (zW ?_))
 exact h _ _
end
def MC(as:List AV)(σ:St)(K:List AV->St->Prop):Prop:=Al as λa as=>A9 (Aw a) λx=>Ä (Au 0 x/\K (Ao 0 (x-0).toNat) σ) (λb r _=>A9 (Aw b) λy=>Ä (Au x y/\K (Ao x (y-x).toNat) σ) (λd r' _=>nil r' (A9 (Aw d) λz=>(z = -1/\Au x y)/\K (Cb x (x-y).toNat) σ)) r) as
def Rm(tg:Expr)(as:List AV)(σ:St)(K:List AV->St->Prop):Prop:=Al as λa as=>nil as (Ö (A9 (KH a) λvs=>HW tg=true/\subAll nn vs=some vs/\K (B8 vs) σ) (λx=>x.cps.size=0/\K [] σ) (Gx a))
section
variable{X:Cx}{c:Cf}{Q:AV->St->Prop}{K:List AV->St->Prop}
def Jg{lo hi:Int}{t u v:Tok}{tk:Nat}(hh:X.A.handled=none)(hn:Au lo hi)(h:K (Ao lo (hi-lo).toNat) c.σ)(target:Expr)(R:RS X c) :
  Wp X (pyIter (.ref c.s.heap.objs.size)) (λit s'=>Cm X target c K it s') {c.s with heap:=c.s.heap.push {cls:=.type "range",data:=.fields #[.int lo t,.int hi u,.int 1 v]},toks:=tk}:=by
 have x:=R.push {cls:=.type "range",data:=.fields #[.int lo t,.int hi u,.int 1 v]} tk
 have hs:Č lo hi 1=((hi-lo).toNat:Int):=by
  unfold Č
  split<;>(try split)<;>omega
 have sm:Φ lo hi 1=true:=by
  unfold Φ
  rw[hs]
  unfold Au at hn
  simp[á.Range.rangeFitsLong]
  omega
 have y:=x.R.lck {cls:=.type "range_iterator",data:=.fields #[rawInt lo,rawInt (Č lo hi 1),rawInt 1]} tk
 refine wpAny_pyIter_range (t:=t) (u:=u) (v:=v) (Î _ rfl) sm ⟨_,x,_,[(c.s.heap.push {cls:=.type "range",data:=.fields #[.int lo t,.int hi u,.int 1 v]}).objs.size],Ao lo (hi-lo).toNat,qH X.hs (c.s.heap.push {cls:=.type "range",data:=.fields #[.int lo t,.int hi u,.int 1 v]}).objs.size lo (hi-lo).toNat,_,rfl,λe=>U4 (X:={X with env:=e}) hh target,λi G s Q st hQ=>wpAny_pyIter_rangeiter st.it hQ,⟨λb hb=>⟨z9.mp hb▸Gh.put_at,z9.mp hb▸x.R.size⟩,?_⟩,λb hb=>Â (z9.mp hb).symm,y,λ_ _ e=>Ã _ e,h⟩
 have e0:lo+((0:Nat):Int)=lo:=ş lo
 have e1:(((hi-lo).toNat:Nat):Int)-((0:Nat):Int)=Č lo hi 1:=hs▸aB4 _
 rw[e0,e1]
 exact Î _ rfl
def X5{lo hi:Int}{t u v:Tok}{tk:Nat}(hh:X.A.handled=none)(hn:Au lo hi)(h:K (Cb lo (lo-hi).toNat) c.σ)(target:Expr)(R:RS X c) :
  Wp X (pyIter (.ref c.s.heap.objs.size)) (λit s'=>Cm X target c K it s') {c.s with heap:=c.s.heap.push {cls:=.type "range",data:=.fields #[.int lo t,.int hi u,.int (-1) v]},toks:=tk}:=by
 have x:=R.push {cls:=.type "range",data:=.fields #[.int lo t,.int hi u,.int (-1) v]} tk
 have hs:Č lo hi (-1)=((lo-hi).toNat:Int):=by
  unfold Č
  rw[if_neg (by decide)]
  split
  ·rw[show -(-1:Int)=1 from rfl,aL7];rename_i u0;exists[_],[_,_],0xf181801bba50801be00f581048,u0,(Ý _)
  ·rename_i u0;exists[_],[_,_],0xf0850801be00f5810498,u0,(Ý _)
 have sm:Φ lo hi (-1)=true:=by
  unfold Φ
  rw[hs]
  unfold Au at hn
  simp[á.Range.rangeFitsLong]
  omega
 have y:=x.R.lck {cls:=.type "range_iterator",data:=.fields #[rawInt lo,rawInt (Č lo hi (-1)),rawInt (-1)]} tk
 refine wpAny_pyIter_range (t:=t) (u:=u) (v:=v) (Î _ rfl) sm ⟨_,x,_,[(c.s.heap.push {cls:=.type "range",data:=.fields #[.int lo t,.int hi u,.int (-1) v]}).objs.size],Cb lo (lo-hi).toNat,qJ X.hs (c.s.heap.push {cls:=.type "range",data:=.fields #[.int lo t,.int hi u,.int (-1) v]}).objs.size lo (lo-hi).toNat,_,rfl,λe=>X4 (X:={X with env:=e}) hh target,λi G s Q st hQ=>wpAny_pyIter_rangeiter st.it hQ,⟨λb hb=>⟨z9.mp hb▸Gh.put_at,z9.mp hb▸x.R.size⟩,?_⟩,λb hb=>Â (z9.mp hb).symm,y,λ_ _ e=>Ã _ e,h⟩
 have e0:lo-((0:Nat):Int)=lo:=aB4 lo
 have e1:(((lo-hi).toNat:Nat):Int)-((0:Nat):Int)=Č lo hi (-1):=hs▸aB4 _
 rw[e0,e1]
 exact Î _ rfl
def UT{as:List AV}(hh:X.A.handled=none)(h:MC as c.σ K)(target:Expr){vas:List Value}(R:RS X c)(ra:VA X c as vas):Wp X (call (.type "range") vas []) (λr s₁=>Wp X (pyIter r) (λit s'=>Cm X target c K it s') s₁) c.s:=
 AL h ra λa as va vas r1 ra h=>AD h λx e1 h=>AM (P:=λva=>Wp X (call (.type "range") (va::vas) []) _ c.s) e1 r1 λt=>by
  cases as with
  | nil=>rw[show vas=[]from ra];exact call_range_1 (Jg hh h.1 h.2 target R)
  | cons b r=>
   obtain⟨vb,vr,rfl,r2,ra⟩:=ra
   refine AD h λy e2 h=>AM (P:=λvb=>Wp X (call (.type "range") (.int x t::vb::vr) []) _ c.s) e2 r2 λu=>?_
   cases r with
   | nil=>rw[show vr=[]from ra];exact call_range_2 (Jg hh h.1 h.2 target R)
   | cons d r=>
    obtain⟨vd,vr,rfl,r3,ra⟩:=ra
    exact BD (P:=λvr=>Wp X (call (.type "range") (.int x t :: .int y u::vd::vr) []) _ c.s) h ra λh=>AD h λz e3 h=>AM (P:=λvd=>Wp X (call (.type "range") [.int x t,.int y u,vd] []) _ c.s) e3 r3 λo=>by
     obtain⟨⟨rfl,hn⟩,h⟩:=h
     exact call_range_3 (by decide) (X5 hh hn h target R) (Or.inl (ň (by decide)))
structure qW(hs:æ)(e it:É)(t:Tok)(i:Nat)(G:Gh)(h:æ):Prop where
 lk:HN hs G [e,it]
 en :∃old,IsEnum h e it ((0:Nat):Int) old
 st:h.IsStrIter it "str_ascii_iterator" ⟨#[]⟩ t 0
def OC{e it:É}{t:Tok}(hh:X.A.handled=none){target:Expr}:K2 X target e [e,it] [] (qW X.hs e it t) where
 frame:=λi G h G' h' y kp=>⟨y.lk.frame kp,y.en.imp λold q=>kp.lk (y.lk e (z8 ..)).1 _ q,y.st.imp λo q=>⟨kp.lk (y.lk it (À _ (z8 ..))).1 o q.1,q.2⟩⟩
 item:=λi c R hi=>absurd hi (ø i)
 done:=λc R y=>y.en.elim λold q=>EY (wpAny_pyNext_enum_endD (Draws.strAscii (A:=X.A.in1) hh it ⟨#[]⟩ t) q y.st λh' y1 sz=>
  have kk :∀a o,a∉[e,it]->c.s.heap.get? a=some o->h'.get? a=some o:=λa o ha e=>y1 a o (W7 ha) e
  ⟨rfl,(R.lockAt y.lk (t:=c.s.toks) kk sz).2,kk,sz⟩)
def XC{as:List AV}{target:Expr}(hh:X.A.handled=none)(h:Rm target as c.σ K){vas:List Value}(R:RS X c)(ra:VA X c as vas):Wp X (call (.type "enumerate") vas []) (λr s₁=>Wp X (pyIter r) (λit s'=>Cm X target c K it s') s₁) c.s:=
 AL h ra λa as va vas r1 ra h=>BD h ra λh=>Az h (λh=>AD h λvs e1 h=>by
  cases EF (P:=λa=>VR X c a va->VR X c (.lst vs) va) e1 id r1 with
  | mk l us hv hp ho hr=>
  subst hv
  obtain⟨k,p⟩:=hp
  refine call_enumerate_1 (n:=k.1) p λh' q1 q2 q3 q4=>aB5 q1 ?_
  have lt :∀{a},a<c.s.heap.objs.size->a≠c.s.heap.objs.size+1:=λl=>ß (ã l)
  have x:CX X c ⟨(c.G.put c.s.heap.objs.size .lock).put (c.s.heap.objs.size+1) .lock,c.σ,{c.s with heap:=h'}⟩:=R.more q4 (q3▸Æ _ 2) (λa l=>(Gh.put_ne (lt l)).trans (Gh.put_ne (ß l)))
   (λa e=>q3.symm▸(Gh.put_own e).elim (λz=>z▸Ê _) λe=>(Gh.put_own e).elim (λz=>z▸ã (Ê _)) λe=>ã (ã (R.ownLt a e))) (λ_ _=>⟨rfl,rfl⟩) (zX _) rfl rfl rfl rfl λ_ _=>.inl
  have mem :∀{P:É->Prop},P (c.s.heap.objs.size+1)->P c.s.heap.objs.size->∀b∈[c.s.heap.objs.size+1,c.s.heap.objs.size],P b:=λp q b hb=>(È.mp hb).elim (λz=>z▸p) λhb=>z9.mp hb▸q
  have lk:HN X.hs ((c.G.put c.s.heap.objs.size .lock).put (c.s.heap.objs.size+1) .lock) [c.s.heap.objs.size+1,c.s.heap.objs.size]:=mem ⟨Gh.put_at,ð R.size⟩ ⟨(Gh.put_ne (ß (Ê _))).trans Gh.put_at,R.size⟩
  exact⟨c,.refl R,_,[c.s.heap.objs.size+1,c.s.heap.objs.size],B8 vs,pE X.L X.hs (c.s.heap.objs.size+1) c.s.heap.objs.size l us vs,_,rfl,λe=>Vo (X:={X with env:=e}) hh (ń (Ê _)) h.1,λi G s Q st hQ=>st.en.elim λo q=>aB5 q hQ,⟨⟨lk,À _ (z8 ..),q2,⟨k.1,q4 _ _ p⟩,x.kp.off p ho,hr.shut x.kp.still h.2.1⟩,_,q1⟩,
   mem (ć _) (zX _),x,q4,h.2.2⟩) λx e1 h=>Dw (P:=λva=>Wp X (call (.type "enumerate") [va] []) _ c.s) e1 r1 λt=>by
  obtain⟨hx,h⟩:=h
  obtain⟨cps⟩:=x
  obtain rfl:=Array.eq_empty_of_size_eq_zero hx
  refine call_enumerate_str λh' q1 q2 q3 q4=>aB5 q1 ?_
  rw[show strIterType ⟨#[]⟩ = "str_ascii_iterator" from by simp[strIterType]]at q2
  have lt :∀{a},a<c.s.heap.objs.size->a≠c.s.heap.objs.size+1:=λl=>ß (ã l)
  have x:CX X c ⟨(c.G.put c.s.heap.objs.size .lock).put (c.s.heap.objs.size+1) .lock,c.σ,{c.s with heap:=h'}⟩:=R.more q4 (q3▸Æ _ 2) (λa l=>(Gh.put_ne (lt l)).trans (Gh.put_ne (ß l)))
   (λa e=>q3.symm▸(Gh.put_own e).elim (λz=>z▸Ê _) λe=>(Gh.put_own e).elim (λz=>z▸ã (Ê _)) λe=>ã (ã (R.ownLt a e))) (λ_ _=>⟨rfl,rfl⟩) (zX _) rfl rfl rfl rfl λ_ _=>.inl
  have mem :∀{P:É->Prop},P (c.s.heap.objs.size+1)->P c.s.heap.objs.size->∀b∈[c.s.heap.objs.size+1,c.s.heap.objs.size],P b:=λp q b hb=>(È.mp hb).elim (λz=>z▸p) λhb=>z9.mp hb▸q
  have lk:HN X.hs ((c.G.put c.s.heap.objs.size .lock).put (c.s.heap.objs.size+1) .lock) [c.s.heap.objs.size+1,c.s.heap.objs.size]:=mem ⟨Gh.put_at,ð R.size⟩ ⟨(Gh.put_ne (ß (Ê _))).trans Gh.put_at,R.size⟩
  exact⟨c,.refl R,_,[c.s.heap.objs.size+1,c.s.heap.objs.size],[],qW X.hs (c.s.heap.objs.size+1) c.s.heap.objs.size t,_,rfl,λe=>OC (X:={X with env:=e}) hh,λi G s Q st hQ=>st.en.elim λo q=>aB5 q hQ,⟨lk,⟨_,q1⟩,q2⟩,
   mem (ć _) (zX _),x,q4,h⟩
def n5(a:AV):Option Int:=(Cz a).bind λp=>SK.rec none none (Ä none (λb _ _=>Aw b) p.2) p.1
theorem VAll.getD{L:Cd}{G:Gh}{h:æ}{n:Nat}{vs:List AV}{us:List Value}(q:VAll L G h n vs us)(i:Nat):VRel L G h n (vs.getD i .none) (us.getD i .none):=by
 rw[Ø,Ø]
 cases e:vs[i]? with
 | none=>rw[Ā (q.len▸ſ.mp e)];exact rfl
 | some a=>obtain⟨v,e1,r⟩:=q.get e;rw[e1];exact r
def VAll.perm{L:Cd}{G:Gh}{h:æ}{n:Nat}{vs:List AV}{us:List Value}(q:VAll L G h n vs us)(p:List Nat):VAll L G h n (p.map λi=>vs.getD i .none) (p.map λi=>us.getD i .none):=Ä rfl (λi r ih=>⟨_,_,rfl,q.getD i,ih⟩) p
def ED(vs:List AV):Option (List Int):=Ä (some []) (λa _ ih=>(Aw a).bind λx=>ih.map (x :: ·)) vs
def IN{vs:List AV} :∀{ns:List Int} {us:List Value},ED vs=some ns->VA X c vs us->∃ps:List (Int×Tok),us=ps.map (λp=>.int p.1 p.2)/\ns=ps.map (·.1):=by
 refine Ä (motive:=λvs=>∀{ns:List Int} {us:List Value},ED vs=some ns->VA X c vs us->∃ps:List (Int×Tok),us=ps.map (λp=>.int p.1 p.2)/\ns=ps.map (·.1)) (λ{ns us} e q=>⟨[],q,(zR e).symm⟩) (λa r ih ns us e q=>?_) vs
 obtain⟨x,e1,e⟩:=bind_some e
 obtain⟨ys,e2,rfl⟩:=map_some e
 obtain⟨v,u,rfl,q1,q2⟩:=q
 obtain⟨ps,rfl,rfl⟩:=ih e2 q2
 exact AM (P:=λv=>∃qs:List (Int×Tok),v::ps.map (λp=>aM0 p.1 p.2)=qs.map (λp=>.int p.1 p.2)/\x::ps.map (·.1)=qs.map (·.1)) e1 q1 λt=>⟨(x,t)::ps,rfl,rfl⟩
def NL(as:List AV)(σ:St)(Q:AV->St->Prop):Prop:=Al as λa as=>nil as (A9 (Ak σ a) λvs=>A9 (ED vs) λns=>Q (.int ns.sum) σ)
def QK{as:List AV}(hh:X.A.handled=none)(h:NL as c.σ Q){vas:List Value}(R:RS X c)(ra:VA X c as vas):Go X c Q (call (.builtin "sum") vas []):=
 AL h ra λa as va vas r1 ra h=>BD h ra λh=>AD h λvs e1 h=>AD h λns e2 h=>Af e1 R r1 λl us k p1 p2=>by
  obtain⟨ps,rfl,rfl⟩:=IN e2 p2
  refine EY (sum_intListG (xs:=ps.toArray) hh (by have q:=AK p1;simpa[intItems]using q) λh' tk t' hk hz=>?_)
  rw[show preSum (numAt ps.toArray) ps.toArray.size=(ps.map (·.1)).sum from(preSum_eq ..).trans (congrArg List.sum (Ţ (Â (z6 ..))))]
  exact .to (b:=AV.int _) (R.grow tk hk hz) (beq_self_eq_true _) h
def M0(as:List AV)(σ:St)(Q:AV->St->Prop):Prop:=Al as λa as=>Al as λb as=>nil as (A9 (Aw a) λx=>A9 (Aw b) λy=>Q (.int (min x y)) σ)
def Va{x y:Int}{t u:Tok}{P:Value->Prop}(h :∀t,P (.int (min x y) t)):P (if y<x then .int y u else .int x t):=by
 have e :∀(i:Int) t,i=min x y->P (.int i t):=λi t e=>e▸h t
 split
 ·exact e _ _ (by rename_i u0;exists[],[_,_],0x1d051048,u0)
 ·exact e _ _ (by rename_i u0;exists[],[_,_],0x1d1510498,u0)
def PV{as:List AV}(hh:X.A.handled=none)(h:M0 as c.σ Q){vas:List Value}(R:RS X c)(ra:VA X c as vas):Go X c Q (call (.builtin "min") vas []):=
 AL h ra λa as va vas r1 ra h=>AL h ra λb as vb vas r2 ra h=>BD h ra λh=>AD h λx e1 h=>AD h λy e2 h=>AM e1 r1 λt=>AM e2 r2 λu=>
  EY (PySem.min_two_ints hh λh' tk hk hz=>Va (P:=λv=>AX X (VR X) c Q v {c.s with heap:=h',toks:=tk}) λt'=>.to (c':=c.hp c.σ h' tk) (b:=AV.int _) (R.grow tk hk hz) (beq_self_eq_true _) h)
def Ly(ns:List Int):Int:=Ä 0 (λa r _=>r.foldl max a) ns
def IC{r:List Int} :∀a:Int,(r.foldl max a=a\/r.foldl max a∈r)/\a<=r.foldl max a/\∀x∈r,x<=r.foldl max a:=by
 induction r with
 | nil=>exact λa=>⟨.inl rfl,aM7 _,λx h=>nomatch h⟩
 | cons b r ih=>
  intro a
  obtain⟨h1,h2,h3⟩:=ih (max a b)
  refine⟨?_,ż (Int.le_max_left ..) h2,λx hx=>(È.mp hx).elim (λe=>by subst e;exact ż (Int.le_max_right ..) h2) (h3 x)⟩
  rcases h1 with h1 | h1
  ·rcases Int.le_total a b with hab | hab
   ·exact .inr (È.mpr (.inl (h1.trans (Int.max_eq_right hab))))
   ·exact .inl (h1.trans (Int.max_eq_left hab))
  ·exact .inr (À _ h1)
def T5{ns:List Int}{m:Int}(hm:m∈ns)(h :∀a∈ns,a<=m):m=Ly ns:=by
 cases ns with
 | nil=>cases hm
 | cons a r=>
  obtain⟨h1,h2,h3⟩:=IC (r:=r) a
  refine Int.le_antisymm ((È.mp hm).elim (λe=>e▸h2) (h3 m)) (h1.elim (λe=>?_) λe=>h _ (À _ e))
  show r.foldl max a<=m
  rw[e];exact h a (z8 ..)
def JV(as:List AV)(σ:St)(Q:AV->St->Prop):Prop:=Al as λa as=>nil as (A9 (Ak σ a) λvs=>A9 (ED vs) λns=>ns≠[]/\Q (.int (Ly ns)) σ)
def QH{as:List AV}(hh:X.A.handled=none)(h:JV as c.σ Q){vas:List Value}(R:RS X c)(ra:VA X c as vas):Go X c Q (call (.builtin "max") vas []):=
 AL h ra λa as va vas r1 ra h=>BD h ra λh=>AD h λvs e1 h=>AD h λns e2 h=>Af e1 R r1 λl us k p1 p2=>by
  obtain⟨ps,rfl,rfl⟩:=IN e2 p2
  have hne:0<ps.length:=Į λz=>h.1 (by rw[ĵ z];rfl)
  refine EY (max_intList (xs:=ps.toArray) hh (by have q:=AK p1;simpa[intItems]using q) hne λv h' tk hv hk hz=>?_)
  obtain⟨t,rfl⟩:=intItems_at hv
  obtain⟨h1,h2⟩:=argBest_gt (numAt ps.toArray) (ps.toArray.size-1)
  have hsz:ps.toArray.size=ps.length:=rfl
  rw[T5 (m:=numAt ps.toArray (argBest (λi j=>decide (numAt ps.toArray i>numAt ps.toArray j)) (ps.toArray.size-1))) (ns:=ps.map (·.1)) (by rw[numAt_eq];exact getD_mem (by rw[z6];exact Í h1 (aK9 hne aD8))) λa ha=>by
   obtain⟨j,hj,rfl⟩:=mem_getD ha
   rw[z6]at hj
   have:=h2 j (by exists[_,_,_],0x180b2012181028,hsz,hj)
   rw[numAt_eq]at this
   exact this]
  exact .to (b:=AV.int _) (R.grow tk hk hz) (beq_self_eq_true _) h.2
def MK(as:List AV)(σ:St)(Q:AV->St->Prop):Prop:=nil as (Q (.ref σ.n) (σ.new (.set [])))
def SZ{as:List AV}(h:MK as c.σ Q){vas:List Value}(R:RS X c)(ra:VA X c as vas):Go X c Q (call (.type "set") vas []):=
 BD h ra λh=>call_set_0 λled=>.to (c':=c.add (.set []) _ c.s.toks) (b:=AV.ref c.σ.n) (R.alloc λp e=>⟨⟨_,#[],0,.fresh 0 0 led,(congrArg _ e).trans (Î _ rfl),⟨rfl,rfl,rfl⟩,rfl,λe he=>(by simp at he),λk=>(by simp),(by decide),by cases led<;>decide,rfl⟩,aJ7⟩) ⟨congrArg _ Gh.name_mu.symm,Ê _⟩ h
def Po(as:List AV)(σ:St)(Q:AV->St->Prop):Prop:=Al as λa as=>nil as (A9 (Cz a) λp=>SK.rec False False (EK (aK2 p.2.length 1000) (Q (.int p.2.length) σ)) p.1)
def Wi{fN:É}{as:List AV}(N:HU X.h₀ X.L.C fN)(h:Po as c.σ Q){vas:List Value}(R:RS X c)(ra:VA X c as vas):Go X c Q (call (.builtin "len") vas []):=
 AL h ra λa as va vas r1 ra h=>BD h ra λh=>AD h λp e h=>by
  obtain⟨k,vs⟩:=p
  cases C7 e r1 with
  | mk l us hv hp _ hr=>
  subst hv
  obtain⟨e',hp⟩:=hp
  cases k with
  | mat=>
   obtain⟨hz,h⟩:=A6 h
   exact U1 N.toMatC N.len hp R.base (hr.len▸Ŏ hz) λt u=>.int _ R (Eq.mpr (congrArg (λn:Nat=>Q (.int n) c.σ) hr.len) h)
  | _=>exact h.elim
end
def Ch{α:Type}(f:Nat->Nat->Bool)(n:Nat)(t:aP1 α):Prop:=aL6 (λ_=>True) (λi j _ ih=>i<n/\j<n/\i≠j/\ih (f i j)) t
def EH{α β:Type}(f:Nat->Nat->Bool)(g:α->aP1 β)(t:aP1 α):Ck f (t.bind g)=Ck f (g (Ck f t)):=aL6 (motive:=λt=>Ck f (t.bind g)=Ck f (g (Ck f t))) (λ_=>rfl) (λi j k ih=>ih (f i j)) t
def D7{α β:Type}(f:Nat->Nat->Bool)(n:Nat)(g:α->aP1 β)(t:aP1 α):Ch f n t->Ch f n (g (Ck f t))->Ch f n (t.bind g):=
 aL6 (motive:=λt=>Ch f n t->Ch f n (g (Ck f t))->Ch f n (t.bind g)) (λ_ _ h=>h) (λi j k ih h h'=>⟨h.1,h.2.1,h.2.2.1,ih (f i j) h.2.2.2 h'⟩) t
def OR{α:Type}{f:Nat->Nat->Bool}{n:Nat}{cmp:Nat->Nat->(Bool->zY->Prop)->zY->Prop}{G:α->zY->Prop}{s:zY}(hc :∀i j,i<n->j<n->i≠j->∀C:Bool->zY->Prop,C (f i j) s->cmp i j C s)(t:aP1 α):Ch f n t->G (Ck f t) s->t.kasWp cmp G s:=
 aL6 (motive:=λt=>Ch f n t->G (Ck f t) s->t.kasWp cmp G s) (λ_ _ h=>h) (λi j k ih hk h=>hc i j hk.1 hk.2.1 hk.2.2.1 _ (ih (f i j) hk.2.2.2 h)) t
structure eH(f:Nat->Nat->Bool)(n:Nat):Prop where
 tot :∀i j,i<n->j<n->i≠j->f i j=false->f j i=true
 asym :∀i j,i<n->j<n->f i j=true->f j i=false
 trans :∀i j k,i<n->j<n->k<n->f i j=true->f j k=true->f i k=true
noncomputable def at_(p:Array Nat)(i:Nat):Nat:=p.getD i 0
def Z3{p:Array Nat}{i x:Nat}(h:p[i]?=some x):at_ p i=x:=by
 unfold at_
 obtain⟨h1,h2⟩:=Array.getElem?_eq_some_iff.mp h
 rw[<-h2]
 simp[h1]
def Ik{p:Array Nat}{i:Nat}(h:i<p.size):p[i]?=some (at_ p i):=by
 unfold at_
 simp[h]
def NE{p q:Array Nat}{i j:Nat}(h:p[i]?=q[j]?):at_ p i=at_ q j:=by
 unfold at_
 rw[Array.getD_eq_getD_getElem?,Array.getD_eq_getD_getElem?,h]
structure Pn(n:Nat)(p:Array Nat):Prop where
 perm:p.toList.Perm (Ë n)
theorem Pn.size{n:Nat}{p:Array Nat}(h:Pn n p):p.size=n:=by have:=h.perm.length_eq;simpa using this
def Pn.lt{n:Nat}{p:Array Nat}(h:Pn n p){i:Nat}(hi:i<n):at_ p i<n:=by
 have hm:at_ p i∈p.toList:=by
  have:=Ik (p:=p) (i:=i) (by rw[h.size];exact hi)
  exact Array.mem_toList_iff.mpr (Array.mem_of_getElem? this)
 simpa using h.perm.mem_iff.mp hm
def Pn.ne{n:Nat}{p:Array Nat}(h:Pn n p){i j:Nat}(hi:i<n)(hj:j<n)(hne:i≠j):at_ p i≠at_ p j:=by
 intro e
 have hnd:p.toList.Nodup:=h.perm.nodup_iff.mpr aH6
 have h1:=Ik (p:=p) (i:=i) (by rw[h.size];exact hi)
 have h2:=Ik (p:=p) (i:=j) (by rw[h.size];exact hj)
 have:i=j:=(aG2 (by rw[Array.length_toList,h.size];exact hi) hnd).mp (by rw[aC8,aC8,h1,h2,e])
 exact hne this
section
variable{f:Nat->Nat->Bool}{n:Nat}(L:eH f n)
def Up(f:Nat->Nat->Bool)(p:Array Nat)(k:Nat):Prop:=∀i j,i<j->j<k->f (at_ p i) (at_ p j)=true
def Dn(f:Nat->Nat->Bool)(p:Array Nat)(k:Nat):Prop:=∀i j,i<j->j<k->f (at_ p j) (at_ p i)=true
include L
theorem Uf{p:Array Nat}(P:Pn n p){m:Nat}(h1:1<=m)(hm:m<n)(U:Up f p m)(h:f (at_ p m) (at_ p (m-1))=false):Up f p (m+1):=by
 have h0:f (at_ p (m-1)) (at_ p m)=true:=L.tot _ _ (P.lt hm) (P.lt (by exists[_,_],0x1180b11018,hm)) (P.ne hm (by exists[_,_],0x1180b11018,hm) (by exists[_],0x180b02901808,h1)) h
 intro i j hij hj
 by_cases e:j=m
 ·subst e
  by_cases e2:i=j-1
  ·subst e2;exact h0
  ·exact L.trans _ _ _ (P.lt (by exists[_,_,_],0x20121181018,hij,hm)) (P.lt (by exists[_,_],0x1180b11018,hm)) (P.lt hm) (U i (j-1) (by exists[_,_],0x181b01181b02981018,hij,e2) (by exists[_,_],0x1181b11018,hij)) h0
 ·exact U i j hij (by exists[_,_],0x10110298181a018,hj,e)
theorem LN{p:Array Nat}(P:Pn n p) :∀(fuel m:Nat),1<=m->m+fuel<=n->Up f p m->Ch f n (kas_asc p fuel m)/\m<=Ck f (kas_asc p fuel m)/\Ck f (kas_asc p fuel m)<=m+fuel/\Up f p (Ck f (kas_asc p fuel m))/\
  (Ck f (kas_asc p fuel m)<m+fuel->f (at_ p (Ck f (kas_asc p fuel m))) (at_ p (Ck f (kas_asc p fuel m)-1))=true)
 | 0,m,h1,h2,U=>⟨trivial,zX _,zX _,U,λh=>absurd h (ò _)⟩
 | fuel+1,m,h1,h2,U=>by
  have hm:m<n:=by exists[_,_,_],0x2012181a0a08,h2
  cases hc:f (at_ p m) (at_ p (m-1))with
  | true=>
   have e:Ck f (kas_asc p (fuel+1) m)=m:=by
    show Ck f (if f (at_ p m) (at_ p (m-1))=true then aB6 m else kas_asc p fuel (m+1))=m
    rw[hc];rfl
   refine⟨⟨P.lt hm,P.lt (by exists[_,_,_],0x2180b12181a0a08,h2),P.ne hm (by exists[_,_,_],0x2180b12181a0a08,h2) (by exists[_],0x180b02901808,h1),?_⟩,?_⟩
   ·show Ch f n (if f (at_ p m) (at_ p (m-1))=true then aB6 m else kas_asc p fuel (m+1))
    rw[hc];trivial
   ·rw[e];exact⟨zX _,by(exists[_,_],0x181a0a00),U,λ_=>hc⟩
  | false=>
   have ih:=LN P fuel (m+1) (by exists[_],0x180a180) (by exists[_,_,_],0x21180aa02181a0a08,h2) (Uf L P h1 hm U hc)
   have e:Ck f (kas_asc p (fuel+1) m)=Ck f (kas_asc p fuel (m+1)):=by
    show Ck f (if f (at_ p m) (at_ p (m-1))=true then aB6 m else kas_asc p fuel (m+1))=_
    rw[hc];rfl
   refine⟨⟨P.lt hm,P.lt (by exists[_,_,_],0x2180b12181a0a08,h2),P.ne hm (by exists[_,_,_],0x2180b12181a0a08,h2) (by exists[_],0x180b02901808,h1),?_⟩,?_⟩
   ·show Ch f n (if f (at_ p m) (at_ p (m-1))=true then aB6 m else kas_asc p fuel (m+1))
    rw[hc];exact ih.1
   ·rw[e];exact⟨by(exists[_,_],0x1001180a08,ih.2.1),by(exists[_,_,_],0x182a1a002181aa008,ih.2.2.1),ih.2.2.2.1,λh=>ih.2.2.2.2 (by exists[_,_,_],0x2181aa01182a1a018,h)⟩
theorem Mi{p:Array Nat}(P:Pn n p) :∀(fuel m:Nat),1<=m->m+fuel<=n->Dn f p m->Ch f n (aB7 fuel p m 0)/\∃r,Ck f (aB7 fuel p m 0)=(p,r,0)/\m<=r/\r<=m+fuel/\Dn f p r
 | 0,m,h1,h2,U=>⟨trivial,m,rfl,zX _,zX _,U⟩
 | fuel+1,m,h1,h2,U=>by
  have hm:m<n:=by exists[_,_,_],0x2012181a0a08,h2
  have red :∀(b:Bool),f (at_ p m) (at_ p (m-1))=b->(Ch f n (if b=true then(if 0>0 then aB7 fuel (kas_rev p (m-(0+1)) m) (m+1) 0 else aB7 fuel p (m+1) 0)else aO0 (at_ p (m-1)) (at_ p m) λd=>if d=true then aB6 (p,m,0)else aB7 fuel p (m+1) (0+1))->Ch f n (aB7 (fuel+1) p m 0))/\
    Ck f (aB7 (fuel+1) p m 0)=Ck f (if b=true then(if 0>0 then aB7 fuel (kas_rev p (m-(0+1)) m) (m+1) 0 else aB7 fuel p (m+1) 0)else aO0 (at_ p (m-1)) (at_ p m) λd=>if d=true then aB6 (p,m,0)else aB7 fuel p (m+1) (0+1)):=by
   intro b hb
   subst hb
   exact⟨λh=>⟨P.lt hm,P.lt (by exists[_,_,_],0x2180b12181a0a08,h2),P.ne hm (by exists[_,_,_],0x2180b12181a0a08,h2) (by exists[_],0x180b02901808,h1),h⟩,rfl⟩
  cases hc:f (at_ p m) (at_ p (m-1))with
  | true=>
   have D':Dn f p (m+1):=by
    intro i j hij hj
    by_cases e:j=m
    ·subst e
     by_cases e2:i=j-1
     ·subst e2;exact hc
     ·exact L.trans _ _ _ (P.lt hm) (P.lt (by exists[_,_,_],0x2180b12181a0a08,h2)) (P.lt (by exists[_,_,_,_],0x3013182a1a081018,hij,h2)) hc (U i (j-1) (by exists[_,_],0x181b01181b02981018,hij,e2) (by exists[_,_],0x1181b11018,hij))
    ·exact U i j hij (by exists[_,_],0x10110298181a018,hj,e)
   obtain⟨i1,r,i2,i3,i4,i5⟩:=Mi P fuel (m+1) (by exists[_],0x180a180) (by exists[_,_,_],0x21180aa02181a0a08,h2) D'
   obtain⟨r1,r2⟩:=red true hc
   refine⟨r1 ?_,r,?_,by(exists[_,_],0x1001180a08,i3),by(exists[_,_,_],0x182a1a002181aa008,i4),i5⟩
   ·simpa using i1
   ·rw[r2];simpa using i2
  | false=>
   have hd:f (at_ p (m-1)) (at_ p m)=true:=L.tot _ _ (P.lt hm) (P.lt (by exists[_,_,_],0x2180b12181a0a08,h2)) (P.ne hm (by exists[_,_,_],0x2180b12181a0a08,h2) (by exists[_],0x180b02901808,h1)) hc
   obtain⟨r1,r2⟩:=red false hc
   refine⟨r1 ?_,m,?_,zX _,by(exists[_,_],0x181a0a00),U⟩
   ·simp only[ö,if_false]
    refine⟨P.lt (by exists[_,_,_],0x2180b12181a0a08,h2),P.lt hm,P.ne (by exists[_,_,_],0x2180b12181a0a08,h2) hm (by exists[_],0x180b2901808,h1),?_⟩
    show Ch f n (if f (at_ p (m-1)) (at_ p m)=true then _ else _)
    rw[hd];trivial
   ·rw[r2]
    simp only[ö,if_false]
    show Ck f (if f (at_ p (m-1)) (at_ p m)=true then _ else _)=_
    rw[hd];rfl
theorem H3{p:Array Nat}(P:Pn n p){k:Nat}(hk:k<n)(U:Up f p k) :∀(fuel l r:Nat),l<=r->r<=k->r-l<=fuel->(∀i,i<l->f (at_ p i) (at_ p k)=true)->(∀i,r<=i->i<k->f (at_ p k) (at_ p i)=true)->
  Ch f n (İ p k fuel l r)/\Ck f (İ p k fuel l r)<=k/\(∀i,i<Ck f (İ p k fuel l r)->f (at_ p i) (at_ p k)=true)/\(∀i,Ck f (İ p k fuel l r)<=i->i<k->f (at_ p k) (at_ p i)=true)
 | 0,l,r,h1,h2,h3,h4,h5=>by
  have:l=r:=by exists[_,_],0x1020801b081008,h1,h3
  subst this
  exact⟨trivial,h2,h4,h5⟩
 | fuel+1,l,r,h1,h2,h3,h4,h5=>by
  by_cases hlr:l≥r
  ·have:l=r:=by exists[_,_],0x10201081008,h1,hlr
   subst this
   have e:İ p k (fuel+1) l l = .ret l:=by
    unfold İ
    rw[if_pos (zX _)]
   rw[e]
   exact⟨trivial,h2,h4,h5⟩
  ·have e:İ p k (fuel+1) l r = .ask (at_ p k) (at_ p ((l+r) / 2)) λc=>if c=true then İ p k fuel l ((l+r) / 2)else İ p k fuel ((l+r) / 2+1) r:=by
    show(if l≥r then _ else _)=_
    rw[if_neg hlr];rfl
   have hmid:(l+r) / 2<r/\l<=(l+r) / 2:=by omega
   cases hc:f (at_ p k) (at_ p ((l+r) / 2))with
   | true=>
    have ih:=H3 P hk U fuel l ((l+r) / 2) hmid.2 (by exists[_,_,_],0x12002181008,h2,hmid.1) (by exists[_,_,_,_],0x213b00318182a10b08,h3,hmid.1) h4 (λi hi hik=>by
     by_cases e2:i=(l+r) / 2
     ·subst e2;exact hc
     ·exact L.trans _ _ _ (P.lt hk) (P.lt (by exists[_,_,_,_],0x131231802081018,hk,h2,hmid.1)) (P.lt (by exists[_,_,_],0x12102181018,hk,hik)) hc (U _ i (by exists[_,_],0x101012981008,hi,e2) hik))
    have e3:Ck f (İ p k (fuel+1) l r)=Ck f (İ p k fuel l ((l+r) / 2)):=by
     rw[e]
     show Ck f (if f (at_ p k) (at_ p ((l+r) / 2))=true then _ else _)=_
     rw[hc];rfl
    rw[e3]
    refine⟨?_,ih.2⟩
    rw[e]
    refine⟨P.lt hk,P.lt (by exists[_,_,_,_],0x131231802081018,hk,h2,hmid.1),P.ne hk (by exists[_,_,_,_],0x131231802081018,hk,h2,hmid.1) (by exists[_,_,_],0x212902181008,h2,hmid.1),?_⟩
    show Ch f n (if f (at_ p k) (at_ p ((l+r) / 2))=true then _ else _)
    rw[hc];exact ih.1
   | false=>
    have hd:f (at_ p ((l+r) / 2)) (at_ p k)=true:=L.tot _ _ (P.lt hk) (P.lt (by exists[_,_,_,_],0x131231802081018,hk,h2,hmid.1)) (P.ne hk (by exists[_,_,_,_],0x131231802081018,hk,h2,hmid.1) (by exists[_,_,_],0x212902181008,h2,hmid.1)) hc
    have ih:=H3 P hk U fuel ((l+r) / 2+1) r (by exists[_,_],0x1180a01018,hmid.1) h2 (by exists[_,_,_,_],0x2183a0b03108182a10b08,h3,hmid.2) (λi hi=>by
     by_cases e2:i=(l+r) / 2
     ·subst e2;exact hd
     ·exact L.trans _ _ _ (P.lt (by exists[_,_,_,_,_],0x141183a418231802081018,hk,h2,hmid.1,hi)) (P.lt (by exists[_,_,_,_],0x131231802081018,hk,h2,hmid.1)) (P.lt hk) (U i _ (by exists[_,_],0x10110298181a018,hi,e2) (by exists[_,_,_],0x12102181008,h2,hmid.1)) hd) h5
    have e3:Ck f (İ p k (fuel+1) l r)=Ck f (İ p k fuel ((l+r) / 2+1) r):=by
     rw[e]
     show Ck f (if f (at_ p k) (at_ p ((l+r) / 2))=true then _ else _)=_
     rw[hc];rfl
    rw[e3]
    refine⟨?_,ih.2⟩
    rw[e]
    refine⟨P.lt hk,P.lt (by exists[_,_,_,_],0x131231802081018,hk,h2,hmid.1),P.ne hk (by exists[_,_,_,_],0x131231802081018,hk,h2,hmid.1) (by exists[_,_,_],0x212902181008,h2,hmid.1),?_⟩
    show Ch f n (if f (at_ p k) (at_ p ((l+r) / 2))=true then _ else _)
    rw[hc];exact ih.1
theorem WD{p:Array Nat}(P:Pn n p){k l:Nat}(hk:k<n)(hl:l<=k)(U:Up f p k)(h1 :∀i,i<l->f (at_ p i) (at_ p k)=true)(h2 :∀i,l<=i->i<k->f (at_ p k) (at_ p i)=true) :
  Pn n (bubble p k (k-l))/\Up f (bubble p k (k-l)) (k+1):=by
 refine⟨⟨(Array.perm_iff_toList_perm.mp (bubble_perm p k (k-l))).trans P.perm⟩,?_⟩
 have g :∀i,(bubble p k (k-l))[i]?=if i=l then p[k]? else if l<i/\i<=k then p[i-1]? else p[i]?:=by
  intro i
  rw[getElem?_bubble (by rw[P.size];exact hk) (k-l) (by exists[_,_],0x10b0) i,show k-(k-l)=l by exists[_,_],0x1b1b21008,hl]
 have a :∀i,at_ (bubble p k (k-l)) i=if i=l then at_ p k else if l<i/\i<=k then at_ p (i-1)else at_ p i:=by
  intro i
  by_cases e1:i=l
  ·rw[if_pos e1];exact NE (by rw[g,if_pos e1])
  ·by_cases e2:l<i/\i<=k
   ·rw[if_neg e1,if_pos e2];exact NE (by rw[g,if_neg e1,if_pos e2])
   ·rw[if_neg e1,if_neg e2];exact NE (by rw[g,if_neg e1,if_neg e2])
 intro i j hij hj
 rw[a,a]
 by_cases e1:i=l
 ·rw[if_pos e1,if_neg (by exists[_,_,_],0x212920281018,hij,e1),if_pos (by exists[_,_,_,_],0x21013163028182a1181018,hij,hj,e1)]
  exact h2 _ (by exists[_,_,_],0x181b2020281018,hij,e1) (by exists[_,_,_],0x2181b1182a1181018,hij,hj)
 ·by_cases e2:j=l
  ·rw[if_pos e2,if_neg e1,if_neg (by exists[_,_,_,_],0x3000216921281018,hij,e2)]
   exact h1 i (by exists[_,_,_],0x20121281018,hij,e2)
  ·rw[if_neg e1,if_neg e2]
   by_cases e3:l<i/\i<=k
   ·rw[if_pos e3,if_pos (by exists[_,_,_,_],0x21013160318182a1181018,hij,hj,e3.1)]
    exact U _ _ (by exists[_,_,_],0x181b180b102181018,hij,e3.1) (by exists[_,_,_],0x2181b1182a1181018,hij,hj)
   ·rw[if_neg e3]
    by_cases e4:l<j/\j<=k
    ·rw[if_pos e4];exact U _ _ (by exists[_,_,_,_],0x181b01200031698302981318182a1181018,hij,hj,e4.1,e1,e3) (by exists[_,_,_],0x2181b1182a1181018,hij,hj)
    ·rw[if_neg e4];exact U _ _ (by exists[_,_],0x1011018,hij) (by exists[_,_,_],0x12112020169802298181a2181008,hl,hj,e2,e4)
theorem QE :∀(fuel k:Nat) (p:Array Nat),k+fuel=n->1<=k->Pn n p->Up f p k->Ch f n (kas_bin fuel p k)/\Pn n (Ck f (kas_bin fuel p k))/\Up f (Ck f (kas_bin fuel p k)) n
 | 0,k,p,h1,h2,P,U=>by
  have:k=n:=by exists[_,_],0x1021080a28,h1
  subst this
  exact⟨trivial,P,U⟩
 | fuel+1,k,p,h1,h2,P,U=>by
  have hk:k<n:=by exists[_,_,_],0x2012181a0a28,h1
  obtain⟨q1,q2,q3,q4⟩:=H3 L P hk U k 0 k (Õ _) (zX _) (by exists[_],0x80b0) (λi hi=>absurd hi (ø _)) (λi hi hik=>absurd hik (by exists[_,_],0x1191008,hi))
  obtain⟨b1,b2⟩:=WD L P hk q2 U q3 q4
  have ih:=QE fuel (k+1) _ (by exists[_,_,_],0x21180aa22181a0a28,h1) (by exists[_],0x180a180) b1 b2
  show Ch f n ((İ p k k 0 k).bind _)/\Pn n (Ck f ((İ p k k 0 k).bind _))/\Up f (Ck f ((İ p k k 0 k).bind _)) n
  rw[EH]
  exact⟨D7 f n _ _ q1 ih.1,ih.2⟩
theorem V7{p:Array Nat}(P:Pn n p){m:Nat}(hm:m<=n)(D:Dn f p m):Pn n (kas_rev p 0 m)/\Up f (kas_rev p 0 m) m:=by
 refine⟨⟨(Array.perm_iff_toList_perm.mp (mirror_perm p 0 m ((m-0) / 2))).trans P.perm⟩,?_⟩
 have a :∀i,i<m->at_ (kas_rev p 0 m) i=at_ p (m-1-i):=by
  intro i hi
  refine NE ?_
  unfold kas_rev
  rw[getElem?_mirror_all (by rw[P.size];exact hm),if_pos ⟨Õ _,hi⟩]
  congr 1;exists[_,_],0x1180bb118008abb2
 intro i j hij hj
 rw[a i (by exists[_,_,_],0x20121181018,hij,hj),a j hj]
 exact D _ _ (by exists[_,_,_],0x182bb1182bb121181018,hij,hj) (by exists[_,_,_],0x12181bb11018,hj)
theorem Tt(h2:2<=n):Ch f n (aB8 n)/\Pn n (Ck f (aB8 n))/\Up f (Ck f (aB8 n)) n:=by
 have P₀:Pn n (Ú (Ë n)):=⟨by simp⟩
 have U₁ :∀(p:Array Nat),Up f p 1:=λp i j h1 h2=>absurd h2 (by exists[_,_],0x181191018,h1)
 have cnt:Ch f n (aO6 n (Ú (Ë n)))/\∃m p,Ck f (aO6 n (Ú (Ë n)))=(m,p)/\1<=m/\m<=n/\Pn n p/\Up f p m:=by
  unfold aO6
  obtain⟨a1,a2,a3,a4,a5⟩:=LN L P₀ (n-1) 1 (zX _) (by exists[_],0x180b18a002808,h2) (U₁ _)
  rw[EH]
  generalize hr:Ck f (kas_asc (Ú (Ë n)) (n-1) 1)=r at a2 a3 a4 a5
  suffices hh:Ch f n (if(r==n)=true then aB6 (r,Ú (Ë n))else if r>1 then aO0 ((Ú (Ë n)).getD 0 0) ((Ú (Ë n)).getD (r-1) 0) λc=>if c=true then aB6 (r,Ú (Ë n))else aF0 r n (kas_rev (Ú (Ë n)) 0 r)else aF0 r n (Ú (Ë n)))/\
    ∃m p,Ck f (if(r==n)=true then aB6 (r,Ú (Ë n))else if r>1 then aO0 ((Ú (Ë n)).getD 0 0) ((Ú (Ë n)).getD (r-1) 0) λc=>if c=true then aB6 (r,Ú (Ë n))else aF0 r n (kas_rev (Ú (Ë n)) 0 r)else aF0 r n (Ú (Ë n)))=(m,p)/\1<=m/\m<=n/\Pn n p/\Up f p m by
   exact⟨D7 f n _ _ a1 (by rw[hr];exact hh.1),hh.2⟩
  by_cases e1:r=n
  ·have:(r==n)=true:=by simp[e1]
   rw[if_pos this]
   exact⟨trivial,r,_,rfl,a2,by(exists[_,_],0x10180b18a10802808,h2,a3),P₀,a4⟩
  ·have:¬ (r==n)=true:=by simp[e1]
   rw[if_neg this]
   by_cases e2:r>1
   ·rw[if_pos e2]
    have hc:f (at_ (Ú (Ë n)) 0) (at_ (Ú (Ë n)) (r-1))=true:=a4 0 (r-1) (by exists[_],0x180b08101818,e2) (by exists[_],0x180b101808,a2)
    refine⟨⟨P₀.lt (by exists[_],0x8102808,h2),P₀.lt (by exists[_,_],0x181b1180b18a10802808,h2,a3),P₀.ne (by exists[_],0x8102808,h2) (by exists[_,_],0x181b1180b18a10802808,h2,a3) (by exists[_],0x180b082901818,e2),?_⟩,r,Ú (Ë n),?_,a2,by(exists[_,_],0x10180b18a10802808,h2,a3),P₀,a4⟩
    ·show Ch f n (if f (at_ (Ú (Ë n)) 0) (at_ (Ú (Ë n)) (r-1))=true then _ else _)
     rw[hc];trivial
    ·show Ck f (if f (at_ (Ú (Ë n)) 0) (at_ (Ú (Ë n)) (r-1))=true then _ else _)=_
     rw[hc];rfl
   ·rw[if_neg e2]
    have er:r=1:=by exists[_],0x180201819801808,a2,e2
    subst er
    have Zv:=a5 (by exists[_],0x180b18a18102808,h2)
    have D2:Dn f (Ú (Ë n)) 2:=λi j hij hj=>by
     have:i=0:=by exists[_,_],0x802281181018,hij,hj
     have:j=1:=by exists[_,_],0x1812281181018,hij,hj
     subst i j
     exact Zv
    obtain⟨d1,m,d2,d3,d4,d5⟩:=Mi L P₀ (n-(1+1)) (1+1) (by exists[],0x1818a180) (by exists[_],0x1818a0b1818aa002808,h2) D2
    obtain⟨v1,v2⟩:=V7 L P₀ (m:=m) (by exists[_,_],0x101818a0b1818aa10802808,h2,d4) d5
    obtain⟨b1,b2,b3,b4,_⟩:=LN L v1 (n-m) m (by exists[_],0x18001818a08,d3) (by exists[_,_],0x10b1a01818a0b1818aa10802808,h2,d4) v2
    unfold aF0
    rw[EH,d2]
    have hz:¬ ((Ú (Ë n),m,0):Array Nat×Nat×Nat).2.2>0:=by simp
    refine⟨D7 f n _ _ d1 ?_,?_⟩
    ·rw[d2,if_neg hz]
     exact D7 f n _ _ b1 trivial
    ·rw[if_neg hz]
     unfold kas_tail3
     rw[EH]
     exact⟨Ck f (kas_asc (kas_rev (Ú (Ë n)) 0 m) (n-m) m),kas_rev (Ú (Ë n)) 0 m,rfl,by(exists[_,_],0x1180100801818a08,d3,b2),by(exists[_,_,_],0x2010b1a2081818a0b1818aa10802808,h2,d4,b3),v1,b4⟩
 obtain⟨c1,m,p,c2,c3,c4,c5,c6⟩:=cnt
 unfold aB8
 rw[EH,c2]
 by_cases e:m<n
 ·rw[if_pos e,show max m 1=m by exists[_],0x180e201808,c3]
  have b:=QE L (n-m) m p (by exists[_,_],0x101b0a21008,c4) c3 c5 c6
  refine⟨D7 f n _ _ c1 ?_,b.2⟩
  rw[c2,if_pos e,show max (m,p).1 1=m by simp;exists[_],0x180e201808,c3]
  exact b.1
 ·have:m=n:=by exists[_,_],0x102101981008,c4,e
  subst this
  rw[if_neg (ò _)]
  refine⟨D7 f m _ _ c1 ?_,c5,c6⟩
  rw[c2,if_neg (ò _)]
  trivial
end
def Lz(prog:þ)(w:Ì)(A:đ)(us:List Value)(xs:List Int)(s:zY):Prop:=2<=us.length->∃κ,(∀Q:SortKind->zY->Prop,Q κ s->∀E,wpAny (model prog w) A (keyKind' us.toArray) Q E s)/\
 ∀i j,i<xs.length->j<xs.length->(xs.getD i 0==xs.getD j 0)=false->∀Q:Bool->zY->Prop,Q (decide (xs.getD i 0<xs.getD j 0)) s->wpAny (model prog w) A (keyLt' κ (us.getD i .none) (us.getD j .none)) Q (λ_ _=>False) s
def DF{α:Type}(l:List α)(d:α):(Ë l.length).map (λi=>l.getD i d)=l:=List.ext_getElem (by rw[z6,ó]) λi h1 h2=>by
 rw[List.getElem_map,List.getElem_range,Ø,zV h2]
 rfl
def MT{xs:List Int}(hn:xs.Nodup){i j:Nat}(hi:i<xs.length)(hj:j<xs.length)(h:i≠j):(xs.getD i 0==xs.getD j 0)=false:=beq_eq_false_iff_ne.mpr λe=>h ((aG2 hi hn).mp (by
 rw[Ø,Ø,zV hi,zV hj]at e
 rw[zV hi,zV hj]
 exact congrArg some e))
def aR{xs:List Int}(hn:xs.Nodup):eH (λi j=>decide (xs.getD i 0<xs.getD j 0)) xs.length:=
 ⟨λi j hi hj h e=>decide_eq_true ((Int.lt_or_gt_of_ne (ne_of_beq_false (MT hn hi hj h))).resolve_left (of_decide_eq_false e)),λi j _ _ e=>decide_eq_false (aF3.mpr (aL3 (of_decide_eq_true e))),λi j k _ _ _ e1 e2=>decide_eq_true (Ż (of_decide_eq_true e1) (of_decide_eq_true e2))⟩
def PN{xs:List Int}(hn:xs.Nodup)(h2:2<=xs.length):Ch (λi j=>decide (xs.getD i 0<xs.getD j 0)) xs.length (aB8 xs.length)/\(Ck (λi j=>decide (xs.getD i 0<xs.getD j 0)) (aB8 xs.length)).toList.Perm (Ë xs.length)/\
  ((Ck (λi j=>decide (xs.getD i 0<xs.getD j 0)) (aB8 xs.length)).toList.map λi=>xs.getD i 0).Pairwise (· < ·):=by
 obtain⟨k1,k2,k3⟩:=Tt (aR hn) h2
 generalize Ck (λi j=>decide (xs.getD i 0<xs.getD j 0)) (aB8 xs.length)=p at k2 k3 ⊢
 refine⟨k1,k2.perm,ŕ.mpr (List.pairwise_iff_getElem.mpr λi j hi hj hij=>?_)⟩
 have g :∀{i} (h:i<p.toList.length),at_ p i=p.toList[i]:=λ{i} h=>Z3 (by rw[<-aC8,zV h])
 have:=of_decide_eq_true (k3 i j hij (by rw[<-k2.size,<-Array.length_toList];exact hj))
 rw[g hi,g hj]at this
 exact this
section
variable{prog:þ}{w:Ì}{A:đ}{E:Value->zY->Prop}{s:zY}
def Kb{a:É}{us:List Value}{xs:List Int}{k:Nat}{P:aO4->zY->Prop}(ha:s.heap.get? a=some (A1 us k))(hl:us.length=xs.length)(Ym:xs.length<64)(hn:xs.Nodup)
  (hK :∀h',(∀b o,b≠a->s.heap.get? b=some o->h'.get? b=some o)->Lz prog w A us xs {s with heap:=h'})
  (h :∀(h':æ) (c:Nat) (p:List Nat),p.Perm (Ë xs.length)->(p.map λi=>xs.getD i 0).Pairwise (· < ·)->h'.get? a=some (A1 (p.map λi=>us.getD i .none) c)->(∀b o,b≠a->s.heap.get? b=some o->h'.get? b=some o)->s.heap.objs.size<=h'.objs.size->P (.done (.ret .none)) {s with heap:=h'}) :
  wpAny (model prog w) A (á.«list.sort» ⟨[.ref a],[]⟩) P E s:=by
 obtain⟨hh,g',d,tk,os⟩:=s
 have ha:hh.get? a=some (seqObj "list" us.toArray k):=ha
 have n1:us.toArray.size<=sizeLine:=zP (Â hl) (zP (Û Ym) (by decide))
 rw[list_sort_plain]
 refine zS (listItems_at ha rfl ?_)
 refine zS (aK7 ha rfl ?_ n1 (Õ _))
 obtain⟨e1,ho1⟩ :∃e1,(hh.update a (Ă λ_=>(#[]:Array Value))).get? a=some (seqObj "list" #[] e1):=⟨_,get?_update_seq ha λ_=>#[]⟩
 refine zS (aN0 ho1 rfl ?_)
 refine zS (wpAny_newTuple ?_ n1)
 refine zS (wpAny_newList ?_ (Õ _))
 refine ā ?_
 generalize hh3:((hh.update a (Ă λ_=>(#[]:Array Value))).push {cls:=.type "tuple",data:=.seq us.toArray.toList.toArray}).push {cls:=.type "list",data:=.seq ([]:List Value).toArray}=h3
 have k3 :∀b o,b≠a->hh.get? b=some o->h3.get? b=some o:=λb o hb e=>hh3▸Ã _ (Ã _ ((ē _ _ (aD6 hb)).trans e))
 have a3:h3.get? a=some (seqObj "list" #[] e1):=hh3▸Ã _ (Ã _ ho1)
 have z3:hh.objs.size<=h3.objs.size:=hh3▸zP (Â (Ċ ..).symm) (zP (Cp _) (Cp _))
 dsimp only
 have fin :∀(p:List Nat),p.Perm (Ë xs.length)->(p.map λi=>xs.getD i 0).Pairwise (· < ·)->∀out,out=Ú (p.map λi=>us.getD i Ē)->P (.done (.ret .none)) ⟨h3.update a (Ă λ_=>out),g',d,tk,os⟩:=λp q1 q2 out e=>by
  subst e
  obtain⟨c,hc⟩ :∃c,(h3.update a (Ă λ_=>Ú (p.map λi=>us.getD i Ē))).get? a=some (seqObj "list" (Ú (p.map λi=>us.getD i Ē)) c):=⟨_,get?_update_seq a3 λ_=>_⟩
  exact h _ c p q1 q2 hc (λb o hb e=>(ē _ _ (aD6 hb)).trans (k3 b o hb e)) (zP z3 (Â (Ċ ..).symm))
 refine(aI0 us.toArray.size 2).elim (λls=>?_) λls=>?_
 ·rw[if_pos ls,if_pos ls]
  refine zS (zW ?_)
  rw[StateT.run_pure]
  refine zS (zW ?_)
  dsimp only
  refine zS (aN0 a3 rfl ?_)
  have e:(arrOf (SortSt.mk' general' (us.toArray.zip us.toArray) #[] 7 none)).map (·.2)=Ú ((Ë xs.length).map λi=>us.getD i Ē):=by
   rw[<-hl,DF]
   show(us.toArray.zip us.toArray).map (·.2)=_
   rw[List.zip_toArray,List.map_toArray]
   exact congrArg Ú (List.map_snd_zip (zX _))
  rw[e]
  refine zS (aK7 a3 rfl ?_ (Õ _) (zP (Â ((z6 ..).trans ó)) (zP (Û Ym) (by decide))))
  simp only[bne_self_eq_false,ö,if_false]
  refine zW (fin (Ë xs.length) (.refl _) (List.pairwise_iff_getElem.mpr λi j hi hj hij=>?_) _ rfl)
  rw[z6,ó,<-hl]at hj
  exact absurd (Í hij hj) (λz=>absurd (zZ z (î ls)) (Đ.mpr (ý (Õ i))))
 ·have ls':¬ us.toArray.size<2:=Đ.mpr ls
  rw[if_neg ls',if_neg ls']
  obtain⟨κ,q1,q2⟩:=hK h3 k3 ls
  obtain⟨s1,s2,s3⟩:=PN hn (hl▸ls)
  refine zS (q1 _ ?_ _)
  refine zS (Ĩ (kat_run (Q:=λst' s'=>s'=⟨h3,g',d,tk,os⟩/\(arrOf st').map (·.2)=Ú ((Ck (λi j=>decide (xs.getD i 0<xs.getD j 0)) (aB8 xs.length)).toList.map λi=>us.getD i Ē)/\failedOf st'=none) (G:=λq s'=>s'=⟨h3,g',d,tk,os⟩/\q=Ck (λi j=>decide (xs.getD i 0<xs.getD j 0)) (aB8 xs.length)) rfl ls (Í (Â hl) Ym) (λq st' s' q1 q2 q3 q4=>⟨q4.1,?_,q3⟩) ?_) (λr s' hr=>?_) λ_ _ e=>e)
  ·rw[kat_snds rfl q2,q4.2]
  ·rw[hl]
   exact OR (λi j hi hj hij C' hC=>q2 i j hi hj (MT hn hi hj hij) _ hC) _ s1 ⟨rfl,rfl⟩
  ·obtain⟨⟨⟩,st'⟩:=r
   obtain⟨rfl,p3,p4⟩:=hr
   refine zS (aN0 a3 rfl ?_)
   rw[p3,p4]
   refine zS (aK7 a3 rfl ?_ (Õ _) (zP (Â ((z6 ..).trans (s2.length_eq.trans ó))) (zP (Û Ym) (by decide))))
   simp only[bne_self_eq_false,ö,if_false]
   exact zW (fin _ s2 s3 _ rfl)
def OS(h:æ)(v:Value)(x:Int):Prop:=∃m k t r,v = .ref m/\h.get? m=some (An (.int x t::r) k)
def OD{h:æ}{us:List Value} :∀{xs:List Int},us.length=xs.length->(∀i,i<xs.length->OS h (us.getD i .none) (xs.getD i 0))->∃fs,KatTups h us fs/\fs.length=us.length/\∀v∈fs,∃x t,v=aM0 x t:=
 Ä (motive:=λus=>∀{xs:List Int},us.length=xs.length->(∀i,i<xs.length->OS h (us.getD i .none) (xs.getD i 0))->∃fs,KatTups h us fs/\fs.length=us.length/\∀v∈fs,∃x t,v=aM0 x t) (λ_ _=>⟨[],.nil,rfl,λv hv=>nomatch hv⟩) (λv r ih xs hl hx=>by
  cases xs with
  | nil=>cases hl
  | cons x xs=>
   obtain⟨fs,q1,q2,q3⟩:=ih (Ņ hl) λi hi=>hx (i+1) (Nat.succ_lt_succ hi)
   obtain⟨m,k,t,l,rfl,hm⟩:=hx 0 (Nat.zero_lt_succ _)
   exact⟨.int x t::fs,.cons hm rfl rfl rfl q1,congrArg Ŝ q2,λv hv=>(È.mp hv).elim (λe=>⟨x,t,e⟩) (q3 v)⟩) us
def Q7{us:List Value}{xs:List Int}(hl:us.length=xs.length)(hx :∀i,i<xs.length->OS s.heap (us.getD i .none) (xs.getD i 0)):Lz prog w A us xs s:=λh2=>by
 obtain⟨fs,q1,q2,q3⟩:=OD hl hx
 refine⟨tuples' (Ř "int" != Ř "tuple"),λQ hQ E=>kat_kind q1 (q2▸zZ (by decide) h2) (λv hv=>?_) rfl hQ,λi j hi hj hne Q hQ=>?_⟩
 ·obtain⟨x,t,rfl⟩:=q3 v hv
  exact .now
 ·obtain⟨m,k,t,r,e,hm⟩:=hx i hi
  obtain⟨m',k',u,r',e',hm'⟩:=hx j hj
  rw[e,e']
  exact kat_lt hm rfl hm' rfl (kat_cons (wpAny_eqBool_int (hne.symm▸kat_no (oneLt_int hQ))))
end
def Yo(a:AV):Option Int:=(Cz a).bind λp=>SK.rec (Ä none (λb _ _=>Aw b) p.2) none none p.1
def IJ(g:AV->Option Int)(vs:List AV):Option (List Int):=Ä (some []) (λa _ ih=>(g a).bind λx=>ih.map (x :: ·)) vs
section
variable{X:Cx}{c:Cf}{Q:AV->St->Prop}
def WK{a:AV}{x:Int}{v:Value}(e:Yo a=some x)(r:VR X c a v):OS c.s.heap v x:=by
 obtain⟨⟨k,vs⟩,e1,e⟩:=bind_some e
 cases C7 e1 r with
 | mk l us hv hp _ hr=>
 cases k with
 | tup=>
  cases vs with
  | nil=>exact AA e
  | cons b vs=>
   obtain⟨w,r',rfl,q1,_⟩:=hr
   obtain⟨k,hp⟩:=hp
   exact AM (P:=λw=>c.s.heap.get? l=some (An (w::r') k.1)->OS c.s.heap v x) e q1 (λt hp=>⟨l,k.1,t,r',hv,hp⟩) hp
 | _=>exact AA e
def Wr{a:AV}{x:Int}{v:Value}(e:n5 a=some x)(r:VR X c a v):OA X.L.C c.s.heap v x:=by
 obtain⟨⟨k,vs⟩,e1,e⟩:=bind_some e
 cases C7 e1 r with
 | mk l us hv hp _ hr=>
 cases k with
 | mat=>
  cases vs with
  | nil=>exact AA e
  | cons b vs=>
   obtain⟨w,r',rfl,q1,_⟩:=hr
   obtain⟨k,hp⟩:=hp
   exact AM (P:=λw=>c.s.heap.get? l=some (BG X.L.C (w::r') k)->OA X.L.C c.s.heap v x) e q1 (λt hp=>⟨l,k,t,r',hv,hp⟩) hp
 | _=>exact AA e
def Kw{g:AV->Option Int}{T:Value->Int->Prop}(hg :∀a x v,g a=some x->VR X c a v->T v x){vs:List AV} :∀{xs:List Int} {us:List Value},IJ g vs=some xs->VA X c vs us->us.length=xs.length/\∀i,i<xs.length->T (us.getD i .none) (xs.getD i 0):=by
 refine Ä (motive:=λvs=>∀{xs:List Int} {us:List Value},IJ g vs=some xs->VA X c vs us->us.length=xs.length/\∀i,i<xs.length->T (us.getD i .none) (xs.getD i 0)) (λ{xs us} e q=>zR e▸(show us=[]from q)▸⟨rfl,λi h=>absurd h (ø i)⟩) (λa r ih xs us e q=>?_) vs
 obtain⟨x,e1,e⟩:=bind_some e
 obtain⟨ys,e2,rfl⟩:=map_some e
 obtain⟨v,u,rfl,q1,q2⟩:=q
 refine⟨congrArg Ŝ (ih e2 q2).1,λi h=>?_⟩
 cases i with
 | zero=>exact hg a x v e1 q1
 | succ i=>exact(ih e2 q2).2 i (aB9 h)
def PS{A:đ}{s:zY}{h₀:æ}{C fN:É}{us:List Value}{xs:List Int}{prog:þ}{w:Ì}(N:HU h₀ C fN)(hk :∀b o,h₀.get? b=some o->s.heap.get? b=some o)(hu:A.units<cLine)(hl:us.length=xs.length)(hx :∀i,i<xs.length->OA C s.heap (us.getD i .none) (xs.getD i 0)):Lz prog w A us xs s:=λh2=>
 ⟨oneType',λQ hQ E=>kas_kind h2 (λv hv=>by
  obtain⟨i,hi⟩:=List.mem_iff_getElem?.mp hv
  obtain⟨m,kk,t,r,f1,f2⟩:=hx i (hl▸(zT.mp hi).1)
  rw[Ø,hi]at f1
  rw[show v = .ref m from f1]
  exact(aN9 f2).andThen .now) rfl (by simp) hQ,λi j hi hj hne Q hQ=>YY N hk hu (hx i hi) (hx j hj) hne hQ⟩
def O0(g:AV->Option Int)(vs:List AV)(K:List AV->Prop):Prop:=∃xs,IJ g vs=some xs/\(xs.length<64/\xs.Nodup)/\∀p:List Nat,p.Perm (Ë xs.length)->(p.map λi=>xs.getD i 0).Pairwise (· < ·)->K (p.map λi=>vs.getD i .none)
def HJ(as:List AV)(σ:St)(Q:AV->St->Prop):Prop:=Al as λa as=>nil as (Fl σ a λx vs=>O0 n5 vs λws=>Q .none (σ.set x (.list ws)))
def Ga(as:List AV)(σ:St)(Q:AV->St->Prop):Prop:=Al as λa as=>nil as (A9 (Ak σ a) λvs=>O0 Yo vs λws=>Q (.lst ws) σ)
def Oo{fN:É}{as:List AV}(N:HU X.h₀ X.L.C fN)(hu:X.A.units+10<cLine)(h:HJ as c.σ Q){vas:List Value}(R:RS X c)(ra:VA X c as vas):Go X c Q (call (.builtin "list.sort") vas []):=
 AL h ra λa as va vas r1 ra h=>BD h ra λh=>Du h R r1 λx vs us n hx p1 p2 hz h=>by
  obtain⟨xs,e,h2,h⟩:=h
  obtain⟨hl,hus⟩:=Kw (T:=OA X.L.C c.s.heap) (λa x v=>Wr) e p2
  have hnew :∀{b o},X.h₀.get? b=some o->b≠c.G.μ x:=λe z=>CP e (z▸R.ownB _ (A3 (R.obj x _ hx).tag))
  refine ă PySem.F.slot_list_sort ⟨_,p1,rfl⟩ PySem.F.entry_list_sort ?_ (PySem.F.args_list_sort_1 _)
  refine Kb p1 hl h2.1 h2.2 (λh' hk=>PS N (λb o e=>hk b o (hnew e) (R.base b o e)) (Í (ė (by decide) _) hu) hl λi hi=>(hus i hi).imp λm q=>q.imp λkk q=>q.imp λt q=>q.imp λr q=>⟨q.1,hk m _ (λz=>L4 ((show c.s.heap.get? m=_ from q.2).symm.trans ((congrArg c.s.heap.get? z).trans p1))) q.2⟩) λh' k p q1 q2 q3 q4 q5=>⟨_,rfl,?_⟩
  exact .to (c':=c.hp (c.σ.set x (.list (p.map λi=>vs.getD i .none))) h' c.s.toks) (b:=AV.none) (R.chgs (S:=λp=>p = .obj x) (λp hp=>⟨x,.inl hp⟩) (λb o e q=>q4 b o (λz=>q _ (z▸(R.obj x _ hx).tag) rfl) e) q5 rfl rfl rfl rfl rfl rfl
   λy o e=>C3 e (λhy hw=>.inl λz=>by
    subst hy;subst hw
    exact⟨(R.obj y _ hx).lt,(R.obj y _ hx).tag,_,⟨(k,none),q3⟩,z.va (p2.perm p)⟩) λhy e=>.inr ⟨λz=>hy (by cases z;rfl),λz=>(nomatch z),e⟩) rfl (h p q1 q2)
def J9{as:List AV}(h:Ga as c.σ Q){vas:List Value}(R:RS X c)(ra:VA X c as vas):Go X c Q (call (.builtin "sorted") vas []):=
 AL h ra λa as va vas r1 ra h=>BD h ra λh=>AD h λvs e1 h=>Af e1 R r1 λl us k p1 p2=>by
  obtain⟨xs,e,h2,h⟩:=h
  obtain⟨hl,hus⟩:=Kw (T:=OS c.s.heap) (λa x v=>WK) e p2
  have hz:us.length<=sizeLine:=zP (Â hl) (zP (Û h2.1) (by decide))
  refine Calls.call_function_entry kind_sorted plain_sorted entry_sorted (args_sorted1 _) ?_
  unfold á.«sorted»
  refine zS (m:=checkCount "sorted" 1 1 _) (zW ?_)
  refine zS (collect_list (AK p1) ?_ hz)
  refine zS (wpAny_newList ?_ hz)
  generalize h1:(c.s.heap.push (seqObj "list" #[] 0)).update c.s.heap.objs.size (Ă (· ++ us.toArray))=H1
  have z1:H1.objs.size=c.s.heap.objs.size+1:=h1▸(Ċ ..).trans (ä ..)
  have k1 :∀b o,c.s.heap.get? b=some o->H1.get? b=some o:=λb o e=>h1▸(ē _ _ (ń (ğ e))).trans (Ã _ e)
  have hoL:(H1.push (A1 us 0)).get? H1.objs.size=some (A1 us 0):=Î _ rfl
  have k2 :∀b o,c.s.heap.get? b=some o->(H1.push (A1 us 0)).get? b=some o:=λb o e=>Ã _ (k1 b o e)
  have ne :∀{b o},c.s.heap.get? b=some o->b≠H1.objs.size:=λe=>ß (zZ (ğ e) (z1▸ć _))
  refine zS (ā (ă slot_list_sort ⟨_,hoL,rfl⟩ entry_list_sort (Kb (s:={c.s with heap:=H1.push (A1 us 0)}) hoL hl h2.1 h2.2 (λh' hk=>Q7 hl λi hi=>(hus i hi).imp λm q=>q.imp λkk q=>q.imp λt q=>q.imp λr q=>⟨q.1,hk m _ (ne q.2) (k2 m _ q.2)⟩) λh' k p q1 q2 q3 q4 q5=>⟨_,rfl,zW ⟨_,rfl,?_⟩⟩) (args_list_sort _)))
  have x:=R.grow (h':=h') c.s.toks (λb o e=>q4 b o (ne e) (k2 b o e)) (zP (zP (z1▸ć _) (Cp _)) q5)
  exact .to (c':=c.hp c.σ h' c.s.toks) (b:=AV.lst (p.map λi=>vs.getD i .none)) x ⟨_,_,rfl,⟨(k,none),q3⟩,λz=>absurd (R.ownLt _ z) (Đ.mpr (z1▸ć _)),x.pre.va (p2.perm p)⟩ (h p q1 q2)
end
end Mine
end
section
open PySem PySem.W PyProof.Rows PySem.Spec PySem.Calls
namespace Mine
structure Pm where
 K:aG7
 C:É
 D:É
 gl:Str->Option AV
 T:É->Option Tr
 init:Option Tr
 new:Bool
 mak:Bool
 frz:Pos->Bool
 wk:Pos->Bool
def LP(v:AV):Option Value:=Ö ((II v).map .ref) (λb=>some b.val) (JZ v)
structure O3(L:Cd)(h₀:æ)(P:Pm)(d:Nat)(fN st fM cm fI:É):Prop where
 hC:P.C=L.C
 K:P.K.In h₀
 N:HU h₀ L.C fN
 Y:YK P.K L.C fN st
 keepC:keepIn P.K (.ref L.C)=true
 sys:sysModules<h₀.objs.size
 glob :∀x v,P.gl x=some v->∃c,LP v=some c/\((∃mg,h₀.Ns mainGlobals mg/\mg x=some c)\/∃mg mb,h₀.Ns mainGlobals mg/\mg x=none/\h₀.Ns builtinsNs mb/\mb x=some c)
 make:findCls P.K (.ref L.C) (.type "type") "_make" = some (.get (.builtin "classmethod.__get__") (.ref cm) .none (.ref L.C))
 cmo :∃rest,recIn P.K cm "classmethod" = some (.ref fM::rest)
 fn :∀f tr,P.T f=some tr->BW L h₀ (d+1) (.ref f) tr
 new:P.new=true->BW L h₀ d (.ref fN) (Kl L.C)
 mkOk:P.mak=true->BW L h₀ d (.ref fM) (Hb L.C)
 init :∀tr,P.init=some tr->makesIn P.K P.D=true/\findIn P.K (.ref P.D) "__init__" = some (some (.ref fI))/\isFn P.K (.ref fI)=true/\keepIn P.K (.ref P.D)=true/\BW L h₀ d (.ref fI) tr
structure He(X:Cx)(P:Pm)(d:Nat)(fN st fM cm fI:É)(sc:Scope):Prop where
 w:O3 X.L X.h₀ P d fN st fM cm fI
 A:DE (d+1) X.A
 glb:X.env.globals=mainGlobals
 bui:X.env.builtins=builtinsNs
 hsc:X.env.scope=sc
 fun_:sc.kind = .function
def Gr(as:List AV):Bool:=Ä false (λa _ _=>(Cz a).any λp=>SK.rec false false true p.1) as
def Lj(C:É)(b:Bi)(as:List AV)(σ:St)(Q:AV->St->Prop):Prop:=match b with
 | .len=>Ĕ (Am .len as σ Q) (Po as σ Q) (Gr as)
 | .sort=>HJ as σ Q
 | .sum=>NL as σ Q
 | .tnew=>SX C as σ Q
 | .set=>MK as σ Q
 | .min=>M0 as σ Q
 | .sorted=>Ga as σ Q
 | .max=>JV as σ Q
 | b=>Am b as σ Q
def Pp(P:Pm)(a:É)(as:List AV)(σ:St)(Q:AV->St->Prop):Prop:=
 Ĕ (Ĕ (A9 (P.T a) λtr=>B7 tr as σ Q) (A9 P.init λtr=>Uz P.D tr as σ Q) (Ù a P.D)) (EK P.new (Mf as σ Q)) (Ù a P.C)
def Di(P:Pm)(v:AV)(as:List AV)(σ:St)(Q:AV->St->Prop):Prop:=
 Ö (Ö (A9 (X0 v) λq=>QU q.1 q.2 as σ Q) (λa=>Pp P a as σ Q) (II v)) (λb=>Lj P.C b as σ Q) (JZ v)
def XQ(K:aG7)(v:AV)(x:Str)(σ:St)(Q:AV->St->Prop):Prop:=Ö (Uv K v x σ Q) (λb=>Q (.bm b v) σ) (eX σ v x)
def LW(v:AV)(x:Str):Bool:=(JZ v).any λb=>Ù b.ctorIdx 12&&x==("__new__":Str)
def SN{b:Bi}(h:Ù b.ctorIdx 12=true):b = .tuple:=Bi.tuple.elim (motive:=λb=>b = .tuple) b (Å h) rfl
def L5(K:aG7)(v:AV)(x:Str)(σ:St):Option (AV×Bool):=Ĕ (J3 ((bR K σ v x).map λf=>(.glo f,true)) ((ZJ σ v x).map λb=>(.fn b,true))) (some (.fn .tnew,false)) (LW v x)
section
variable{X:Cx}{c:Cf}{P:Pm}{d:Nat}{fN st fM cm fI:É}{sc:Scope}{Q:AV->St->Prop}{v:AV}{va:Value}
def Uc{L:Cd}{G:Gh}{h:æ}{n:Nat}{w:Value}(e:LP v=some w):VRel L G h n v w:=
 Az (o:=JZ v) (A:=(II v).map ī=some w) (B:=λb=>some b.val=some w) (by unfold LP at e;cases h:JZ v<;>(rw[h]at e;exact e))
  (λe=>by
   obtain⟨a,e1,rfl⟩:=map_some e
   exact HK (P:=λv=>VRel L G h n v (.ref a)) e1 rfl) λb e1 e=>GM (P:=λv=>VRel L G h n v w) e1 (zR e).symm
def Ef.of{f:Value}{s:zY}(h:IG X.L X.A f s):Ef X f s:=h
variable(F:He X P d fN st fM cm fI sc)(R:RS X c)
include F R
theorem T8{b:Bi}{as:List AV}{vas:List Value}(h:Lj P.C b as c.σ Q)(ra:VA X c as vas):Go X c Q (call b.val vas []):=by
 have hu:X.A.units+10<cLine:=Í (zP (ė (by decide:10<=40) _) (Ŷ (Æ _ _) 40)) F.A.2.2
 have dflt :∀{b},Am b as c.σ Q->Go X c Q (call b.val vas []):=λh=>L9 h R ra
 refine Bi.casesOn (motive:=λb=>Lj P.C b as c.σ Q->Go X c Q (call b.val vas [])) b (λh=>?_) (dflt (b:=.range)) (λh=>SZ h R ra) (dflt (b:=.enumerate)) (λh=>QK F.A.1 h R ra) (dflt (b:=.append)) (dflt (b:=.pop)) (λh=>Oo F.w.N hu h R ra) (dflt (b:=.get)) (dflt (b:=.setdefault)) (dflt (b:=.has)) (λh=>Th F.w.N (F.w.hC▸h) R ra) (dflt (b:=.tuple)) (dflt (b:=.list)) (dflt (b:=.map)) (dflt (b:=.extend)) (dflt (b:=.divmod)) (λh=>PV F.A.1 h R ra) (λh=>J9 h R ra) (dflt (b:=.index)) (λh=>QH F.A.1 h R ra) h
 have h:Ĕ (Am .len as c.σ Q) (Po as c.σ Q) (Gr as):=h
 cases hm:Gr as with
 | true=>rw[hm]at h;exact Wi F.w.N h R ra
 | false=>rw[hm]at h;exact L9 h R ra
theorem Vm{a:É}{as:List AV}{vas:List Value}(h:Pp P a as c.σ Q)(ra:VA X c as vas):Ye X c Q (.ref a) vas:=by
 unfold Pp at h
 cases h1:Ù a P.C with
 | true=>
  rw[h1]at h
  rw[Å h1,F.w.hC]
  exact PH F.w.K F.w.N F.w.Y F.w.keepC (F.w.new (A6 h).1) F.A (A6 h).2 R ra
 | false=>
  rw[h1]at h
  cases h2:Ù a P.D with
  | true=>
   rw[h2]at h
   rw[Å h2]
   exact AD h λtr e h=>have z:=F.w.init tr e;Y1 F.w.K z.1 z.2.1 z.2.2.1 z.2.2.2.1 z.2.2.2.2 F.A h R ra
  | false=>
   rw[h2]at h
   exact AD h λtr e h=>Vd (F.w.fn _ tr e) F.A h R ra
theorem VU{as:List AV}{vas:List Value}(h:Di P v as c.σ Q)(rv:VR X c v va)(ra:VA X c as vas):Ye X c Q va vas:=
 Az h (λh=>Az h (λh=>AD h λq e h=>Y4 h R (Tb (P:=λv=>VR X c v va->VR X c (.bm q.1 q.2) va) e id rv) ra)
  λa e h=>(HK (P:=λv=>VR X c v va->va = .ref a) e id rv)▸Vm F R h ra) λb e h=>(GM (P:=λv=>VR X c v va->va=b.val) e id rv)▸⟨My b,T8 F R h ra⟩
theorem Zk{x:Str}(h:XQ P.K v x c.σ Q)(rv:VR X c v va):Go X c Q (getAttr va x true):=Az h (λh=>Xh F.w.K h R rv) λb e h=>Yb e R rv h
theorem Zw{x:Str}{q:AV×Bool}(e:L5 P.K v x c.σ=some q){pl:Sem Bool}{K:Value×List Value->zY->Prop}(rv:VR X c v va)(h :∀g t,(∀c,VR X c q.1 g)->K (g,bif q.2 then [va]else []) {c.s with toks:=t}):Wp X (getMethod va x pl) K c.s:=by
 unfold L5 at e
 cases ht:LW v x with
 | true=>
  rw[ht]at e
  cases e
  unfold LW at ht
  cases hv:JZ v with
  | none=>rw[hv]at ht;cases ht
  | some b=>
   rw[hv]at ht
   obtain⟨h1,h2⟩:=AN (show(_&&_)=true from ht)
   rw[å h2,(GM (P:=λv=>VR X c v va->va=b.val) hv id rv),SN h1]
   exact Hx λt=>h _ t λ_=>rfl
 | false=>
  rw[ht]at e
  refine Dt e (λe=>?_) λe=>?_
  ·obtain⟨f,e1,rfl⟩:=map_some e
   exact XT (E:=λ_ _=>False) F.w.K e1 R rv λt=>h _ t λ_=>rfl
  ·obtain⟨b,e1,rfl⟩:=map_some e
   exact X3 e1 R rv λt=>h _ t λ_=>rfl
end
end Mine
end
section
open PySem PySem.W PyProof.Rows PySem.Spec PySem.Calls PySem.SeqAt
namespace Mine
def lU(a b:AV)(σ:St)(K:Bool->Prop):Prop:=A9 (BR a) λk=>
 Ö (Ö (A9 (Do σ b) λes=>K (es.lookup k).isSome) (λvs=>A9 (BY vs) λks=>K (decide (k∈ks))) (Ak σ b)) (λvs=>A9 (BY vs) λks=>K (decide (k∈ks))) (Ek b)
def CQ(op:aG0)(a b:AV)(σ:St)(Q:AV->St->Prop):Prop:=
 Ĕ (Ĕ (Nk op a b σ Q) (lU a b σ λr=>Q (.bool (!r)) σ) (Ù op.ctorIdx 9)) (lU a b σ λr=>Q (.bool r) σ) (Ù op.ctorIdx 8)
section
variable{X:Cx}{c:Cf}{a b:AV}{va vb:Value}{Q:AV->St->Prop}
def K0{k:AE}{ks:List AE}{us:List Value}(q:us.length=ks.length/\∀(i:Nat) (k:AE) (v:Value),ks[i]?=some k->us[i]?=some v->At k v=true):us.any (At k)=decide (k∈ks):=by
 rw[aA0,aD0,decide_eq_true_iff]
 refine⟨λ⟨y,hy,e⟩=>?_,λh=>?_⟩
 ·obtain⟨i,hi⟩:=Ĝ hy
  have hki:=zV (q.1▸(zT.mp hi).1:i<ks.length)
  rw[EB e (q.2 i _ y hki hi)]
  exact aH7 _
 ·obtain⟨i,hi⟩:=Ĝ h
  have hu:=zV (q.1.symm▸(zT.mp hi).1:i<us.length)
  exact⟨_,aH7 _,q.2 i k _ hi hu⟩
def iY{r:Bool}{op:aG0}{f:Bool->Bool}(hop :∀{x c':Value},compareOp op x c'=(do return .bool (f (<-contains c' x)))){K:Bool->Prop}{t:Nat}{P:Value->zY->Prop}{x y:Value}{s:zY}
  (h:Wp X (contains y x) (λr s'=>P (.bool (f r)) s') s):Wp X (compareOp op x y) P s:=by
 rw[hop]
 exact Wp.bind (h.mono λr s' q=>Wp.pure q)
def Yx{f:Bool->Bool}{op:aG0}(hop :∀{x c':Value},compareOp op x c'=(do return .bool (f (<-contains c' x))))(h:lU a b c.σ λr=>Q (.bool (f r)) c.σ)(R:RS X c)(ra:VR X c a va)(rb:VR X c b vb):Go X c Q (compareOp op va vb):=by
 refine iY (K:=λ_=>True) (t:=0) (r:=true) hop (AD h λk e0 h=>?_)
 have hk:=B6 e0 ra
 refine Az h (λh=>Az h (λh=>AD h λes e1 h=>Ct e1 R rb λd kvs p1 p2=>?_) λvs e1 h=>AD h λks e2 h=>Af e1 R rb λl us n p1 p2=>?_) λvs e1 h=>AD h λks e2 h=>Dc e1 rb λl us n p1 p2=>?_
 ·refine aE6 p1.1.typeIs slot_dict_contains (ă slot_dict_contains p1.1.typeIs entry_dict_contains ?_ (args_dict_contains _ _))
  show wpAny _ _ (dictGet d va >>= _) _ _ c.s
  refine zS (wpAny_dictGet_of hk p1.1.mapOf ?_)
  have e:(es.lookup k).isSome=(valueAt kvs k).isSome:=p2.look k (P:=λx y=>x.isSome=y.isSome) rfl (λ_ _ _=>rfl)
  rw[e]at h
  cases hv:valueAt kvs k with
  | none=>
   rw[hv]at h
   show wpAny _ _ (á.Dict.pendingKey? d va >>= _) _ _ _
   exact zS (wpAny_pendingKey_other p1.2 (zW ⟨_,rfl,Œ (.to (b:=AV.bool (f false)) (R.toks _) rfl h)⟩))
  | some v=>
   rw[hv]at h
   show wpAny _ _ (ret (.bool true)) _ _ _
   exact zW ⟨_,rfl,Œ (.to (b:=AV.bool (f true)) (R.toks _) rfl h)⟩
 ·have q:=Id e2 p2
  refine aE6 (AK p1).typeIs slot_list_contains (aA4 slot_list_contains (AK p1).typeIs entry_list_contains (args_list_contains _ _) (PySem.SeqAt.list_containsAt l us.toArray n none #[] va (At k)) ⟨p1,Fe q hk,?_⟩)
  rw[List.any_toArray,K0 q]
  exact Œ (.here (b:=AV.bool (f (decide (k∈ks)))) R rfl h)
 ·have q:=Id e2 p2
  have hT:c.s.TypeIs (.ref l) "tuple":=⟨_,p1,rfl⟩
  refine aE6 hT slot_tuple_contains (aA4 slot_tuple_contains hT entry_tuple_contains (args_tuple_contains _ _) (PySem.SeqAt.tuple_containsAt l us.toArray n none #[] va (At k)) ⟨p1,Fe q hk,?_⟩)
  rw[List.any_toArray,K0 q]
  exact Œ (.here (b:=AV.bool (f (decide (k∈ks)))) R rfl h)
def RG{op:aG0}(hM:IQ X.L.C c.s)(hu:X.A.units+10<cLine)(h:CQ op a b c.σ Q)(R:RS X c)(ra:VR X c a va)(rb:VR X c b vb):Go X c Q (compareOp op va vb):=by
 unfold CQ at h
 cases h8:Ù op.ctorIdx 8 with
 | true=>
  rw[h8]at h
  obtain rfl:op = .In:=aG0.In.elim (motive:=λb=>b = .In) op (Å h8) rfl
  exact Yx (f:=id) rfl h R ra rb
 | false=>
  rw[h8]at h
  cases h9:Ù op.ctorIdx 9 with
  | true=>
   rw[h9]at h
   obtain rfl:op = .NotIn:=aG0.NotIn.elim (motive:=λb=>b = .NotIn) op (Å h9) rfl
   exact Yx (f:=not) rfl h R ra rb
  | false=>rw[h9]at h;exact cC hM hu h R ra rb
end
noncomputable def IK(a:AV):Option (List (AE×AV)):=match a with
 | .dct es=>some es
 | _=>none
def Pe{P:AV->Prop}{a:AV}{es:List (AE×AV)}(e:IK a=some es)(f:P (.dct es)):P a:=
 AV.casesOn (motive_1:=λa=>IK a=some es->P a) a AA (λ_=>AA) (λ_=>AA) (λ_ _=>AA) (λ_=>AA) (λ_=>AA) (λ_=>AA) (λ_ _=>AA) (λ_ e=>zR e▸f) (λ_=>AA) e
structure pU(L:Cd)(hs:æ)(I d:É)(kvs:List (AE×Value))(i:Nat)(G:Gh)(h:æ):Prop where
 lk:HN hs G [I]
 it :∃ep,h.IsKeyIter I d i kvs.length ep/\h.DictAt (Bx L.prog L.w) d kvs ep
 ow:¬ G.own d
noncomputable def DB(es:List (AE×AV)):List AV:=es.map λp=>.key p.1
def Ny{X:Cx}{I d:É}{kvs:List (AE×Value)}{es:List (AE×AV)}(hh:X.A.handled=none)(hl:kvs.map (·.1)=es.map (·.1))(target:Expr):K2 X target I [I] (DB es) (pU X.L X.hs I d kvs) where
 frame:=λi G h G' h' x kp=>x.it.elim λep q=>q.2.elim λo w=>w.elim λes' z=>⟨x.lk.frame kp,⟨ep,q.1.imp λo q=>⟨kp.lk (x.lk I (z9.mpr rfl)).1 o q.1,q.2⟩,⟨o,es',(kp.still d o z.1 x.ow).1,z.2⟩⟩,kp.off z.1 x.ow⟩
 item:=λi c R hi x=>by
  obtain⟨ep,q1,q2⟩:=x.it
  have hn:es.length=kvs.length:=by have:=congrArg List.length hl;rw[z6,z6]at this;exact this.symm
  have hi':i<kvs.length:=hn▸(show i<es.length from(z6 ..)▸hi)
  refine wpAny_pyNext_dict_item q1 q2 (zV hi') λkey h' y1 y2 y3=>⟨key,rfl,?_⟩
  have kk :∀a o,a∉[I]->c.s.heap.get? a=some o->h'.get? a=some o:=λa o ha e=>(y3.2 a (Rk ha)).trans e
  have q:=R.lockAt x.lk (t:=c.s.toks) kk (Â y3.1.symm)
  have ne:d∉[I]:=λz=>x.ow (A3 (x.lk d z).1)
  have ek:(DB es)[i]?=some (.key kvs[i].1):=by
   have:=congrArg (λl:List AE=>l[i]?) hl
   simp only[Ð,zV hi',Option.map_some]at this
   show(es.map λp=>AV.key p.1)[i]?=_
   rw[Ð]
   cases h:es[i]? with
   | none=>rw[h]at this;cases this
   | some p=>rw[h]at this;exact congrArg (λk=>some (AV.key k)) (zR this).symm
  exact letGo_keyiter (s':={c.s with heap:=h'}) y2 ⟨_,ek,y1,q.2,⟨x.lk,⟨ep,y2,q2.elim λo w=>w.elim λes' z=>⟨o,es',kk d o ne z.1,z.2⟩⟩,x.ow⟩,kk,Â y3.1.symm⟩
 done:=λc R x=>x.it.elim λep q=>by
  have hn:es.length=kvs.length:=by have:=congrArg List.length hl;rw[z6,z6]at this;exact this.symm
  have q1:=q.1
  rw[show(DB es).length=kvs.length from(z6 ..).trans hn]at q1
  exact EY (wpAny_pyNext_dict_end hh q1 q.2 (Ā (zX _)) λh' y1 sz=>
   have kk :∀a o,a∉[I]->c.s.heap.get? a=some o->h'.get? a=some o:=λa o ha e=>y1 a o (Rk ha) e
   ⟨rfl,(R.lockAt x.lk (t:=c.s.toks) kk sz).2,kk,sz⟩)
def Sv{L:Cd}{G:Gh}{h:æ}{n:Nat}{es:List (AE×AV)} :∀{kvs:List (AE×Value)},VDict L G h n es kvs->kvs.map (·.1)=es.map (·.1):=
 Ä (motive:=λes=>∀{kvs:List (AE×Value)},VDict L G h n es kvs->kvs.map (·.1)=es.map (·.1)) (λ{kvs} q=>by rw[show kvs=[]from q];rfl) (λa r ih kvs q=>by
  obtain⟨v,u,rfl,q1,q2⟩:=q
  exact congrArg (a.1 :: ·) (ih q2)) es
def YT{X:Cx}{c:Cf}{es:List (AE×AV)}{va:Value}{K:List AV->St->Prop}(hh:X.A.handled=none)(h:K (DB es) c.σ)(target:Expr)(R:RS X c)(ra:VR X c (.dct es) va):Wp X (pyIter va) (λit s'=>Cm X target c K it s') c.s:=by
 cases ra with
 | mk d kvs hv hp ho hr=>
 subst hv
 obtain⟨ep,o,es',z⟩:=hp.1.dictAt
 have hl:kvs.map (·.1)=es.map (·.1):=Sv hr
 refine wpAny_pyIter_dict hp.2 ⟨o,es',z⟩ ?_
 have x:=R.lck {cls:=.type "dict_keyiterator",data:=.fields #[.ref d,.int 0 0,.int kvs.length 0,.int ep 0]} c.s.toks
 exact⟨c,.refl R,_,[c.s.heap.objs.size],DB es,pU X.L X.hs c.s.heap.objs.size d kvs,_,rfl,λe=>Ny (X:={X with env:=e}) hh hl target,λi G s Q st hQ=>st.it.elim λep q=>wpAny_pyIter_keyiter q.1 hQ,⟨λb hb=>⟨z9.mp hb▸Gh.put_at,z9.mp hb▸R.size⟩,⟨ep,⟨_,Î _ rfl,rfl,rfl⟩,⟨o,es',Ã _ z.1,z.2⟩⟩,x.kp.off z.1 ho⟩,λb hb=>Â (z9.mp hb).symm,x,λa o e=>Ã _ e,h⟩
def SL(K:aG7)(w:AV)(x:Str)(v:AV)(σ:St)(Q:St->Prop):Prop:=Ĕ (TH K w x v σ Q) (Ö (TH K w x v σ Q) (λ_=>∀a:É,TH K w x (.glo a) σ Q) (FM v)) (x==("opcodes":Str))
def RN{P:AV->Prop}{a:AV}{y:Nat}(e:FM a=some y)(f:P (.ref y)):P a:=
 AV.casesOn (motive_1:=λa=>FM a=some y->P a) a AA (λ_=>AA) (λ_=>AA) (λ_ _=>AA) (λ_ e=>zR e▸f) (λ_=>AA) (λ_=>AA) (λ_ _=>AA) (λ_=>AA) (λ_=>AA) e
def Wx{X:Cx}{c:Cf}{K:aG7}{a b:AV}{va vb:Value}{Q:St->Prop}(hK:K.In X.h₀){x:Str}(h:SL K a x b c.σ Q)(R:RS X c)(ra:VR X c a va)(rb:VR X c b vb):Ev X c Q (setAttr va x vb):=by
 unfold SL at h
 cases hx:x==("opcodes":Str)with
 | false=>rw[hx]at h;exact SO hK h R ra rb
 | true=>
  rw[hx]at h
  exact Az h (λh=>SO hK h R ra rb) λy e h=>SO hK (h (c.G.μ y)) R ra (RN (P:=λb=>VR X c b vb->VR X c (.glo (c.G.μ y)) vb) e (λq=>q.1) rb)
end Mine
end
section
open PySem PySem.W PyProof.Rows PySem.Spec PySem.Calls
namespace Mine
abbrev WE:=Expr->St->(AV->St->Prop)->Prop
abbrev WB:=Expr->St->(Bool->St->Prop)->Prop
abbrev WA:=Expr->AV->St->(St->Prop)->Prop
structure Ws where
 E:WE
 B:WB
 A:WA
def AR{α:Type}(l:List α):Option α:=Ä none (λa r _=>Ä (some a) (λ_ _ _=>none) r) l
def JY{α:Type}{l:List α}{a:α}{P:List α->Prop}(e:AR l=some a)(f:P [a]):P l:=by
 cases l with
 | nil=>exact AA e
 | cons b r=>
  cases r with
  | nil=>exact zR e▸f
  | cons=>exact AA e
def Ft{α:Type}(l:List α):Bool:=Ä true (λ_ _ _=>false) l
def FU{α:Type}{l:List α}{P:List α->Prop}(e:Ft l=true)(f:P []):P l:=by
 cases l with
 | nil=>exact f
 | cons=>cases e
noncomputable def ix(e:Expr)(n:Nat):Bool:=Ù e.ctorIdx n
def Bh(es:List Expr):Bool:=Ä true (λe _ ih=>Ĕ ih false (ix e 22)) es
def PF(e:Expr):Expr×Str×Pos:=Expr.casesOn (motive_1:=λ_=>Expr×Str×Pos) e (λ_ _ _=>(e,("":Str),AB)) (λ_ _ _=>(e,("":Str),AB)) (λ_ _ _ _=>(e,("":Str),AB)) (λ_ _ _=>(e,("":Str),AB)) (λ_ _ _ _=>(e,("":Str),AB)) (λ_ _ _ _=>(e,("":Str),AB)) (λ_ _ _=>(e,("":Str),AB)) (λ_ _ _=>(e,("":Str),AB)) (λ_ _ _ _=>(e,("":Str),AB)) (λ_ _ _ _=>(e,("":Str),AB)) (λ_ _ _ _ _=>(e,("":Str),AB)) (λ_ _ _ _=>(e,("":Str),AB)) (λ_ _=>(e,("":Str),AB)) (λ_ _=>(e,("":Str),AB)) (λ_ _=>(e,("":Str),AB)) (λ_ _ _ _=>(e,("":Str),AB)) (λ_ _ _ _=>(e,("":Str),AB)) (λ_ _ _ _=>(e,("":Str),AB)) (λ_ _=>(e,("":Str),AB)) (λ_ _ _=>(e,("":Str),AB)) (λo a p=>(o,a,p)) (λ_ _ _=>(e,("":Str),AB)) (λ_ _=>(e,("":Str),AB)) (λ_ _=>(e,("":Str),AB)) (λ_ _=>(e,("":Str),AB)) (λ_ _ _=>(e,("":Str),AB)) (λ_ _ _ _=>(e,("":Str),AB))
noncomputable def BC(e:Expr):Str:=Expr.casesOn (motive_1:=λ_=>Str) e (λ_ _ _=>("":Str)) (λ_ _ _=>("":Str)) (λ_ _ _ _=>("":Str)) (λ_ _ _=>("":Str)) (λ_ _ _ _=>("":Str)) (λ_ _ _ _=>("":Str)) (λ_ _ _=>("":Str)) (λ_ _ _=>("":Str)) (λ_ _ _ _=>("":Str)) (λ_ _ _ _=>("":Str)) (λ_ _ _ _ _=>("":Str)) (λ_ _ _ _=>("":Str)) (λ_ _=>("":Str)) (λ_ _=>("":Str)) (λ_ _=>("":Str)) (λ_ _ _ _=>("":Str)) (λ_ _ _ _=>("":Str)) (λ_ _ _ _=>("":Str)) (λ_ _=>("":Str)) (λ_ _ _=>("":Str)) (λ_ _ _=>("":Str)) (λ_ _ _=>("":Str)) (λ_ _=>("":Str)) (λx _=>x) (λ_ _=>("":Str)) (λ_ _ _=>("":Str)) (λ_ _ _ _=>("":Str))
noncomputable def Iy(e:Expr):Option Expr×Option Expr×Option Expr:=Expr.casesOn (motive_1:=λ_=>Option Expr×Option Expr×Option Expr) e (λ_ _ _=>(none,none,none)) (λ_ _ _=>(none,none,none)) (λ_ _ _ _=>(none,none,none)) (λ_ _ _=>(none,none,none)) (λ_ _ _ _=>(none,none,none)) (λ_ _ _ _=>(none,none,none)) (λ_ _ _=>(none,none,none)) (λ_ _ _=>(none,none,none)) (λ_ _ _ _=>(none,none,none)) (λ_ _ _ _=>(none,none,none)) (λ_ _ _ _ _=>(none,none,none)) (λ_ _ _ _=>(none,none,none)) (λ_ _=>(none,none,none)) (λ_ _=>(none,none,none)) (λ_ _=>(none,none,none)) (λ_ _ _ _=>(none,none,none)) (λ_ _ _ _=>(none,none,none)) (λ_ _ _ _=>(none,none,none)) (λ_ _=>(none,none,none)) (λ_ _ _=>(none,none,none)) (λ_ _ _=>(none,none,none)) (λ_ _ _=>(none,none,none)) (λ_ _=>(none,none,none)) (λ_ _=>(none,none,none)) (λ_ _=>(none,none,none)) (λ_ _ _=>(none,none,none)) (λa b c _=>(a,b,c))
def Ai(e:Expr):Expr×List Expr×List aN3×Pos:=Expr.casesOn (motive_1:=λ_=>Expr×List Expr×List aN3×Pos) e (λ_ _ _=>(e,[],[],AB)) (λ_ _ _=>(e,[],[],AB)) (λ_ _ _ _=>(e,[],[],AB)) (λ_ _ _=>(e,[],[],AB)) (λ_ _ _ _=>(e,[],[],AB)) (λ_ _ _ _=>(e,[],[],AB)) (λ_ _ _=>(e,[],[],AB)) (λ_ _ _=>(e,[],[],AB)) (λ_ _ _ _=>(e,[],[],AB)) (λ_ _ _ _=>(e,[],[],AB)) (λ_ _ _ _ _=>(e,[],[],AB)) (λ_ _ _ _=>(e,[],[],AB)) (λ_ _=>(e,[],[],AB)) (λ_ _=>(e,[],[],AB)) (λ_ _=>(e,[],[],AB)) (λ_ _ _ _=>(e,[],[],AB)) (λg as ks p=>(g,as,ks,p)) (λ_ _ _ _=>(e,[],[],AB)) (λ_ _=>(e,[],[],AB)) (λ_ _ _=>(e,[],[],AB)) (λ_ _ _=>(e,[],[],AB)) (λ_ _ _=>(e,[],[],AB)) (λ_ _=>(e,[],[],AB)) (λ_ _=>(e,[],[],AB)) (λ_ _=>(e,[],[],AB)) (λ_ _ _=>(e,[],[],AB)) (λ_ _ _ _=>(e,[],[],AB))
def I9(e:Expr):Bool:=!ix e 16
def Io(c:Const):Option AV:=Const.casesOn (motive:=λ_=>Option AV) c (some .none) (λb=>some (.bool b)) (λi=>some (.int i)) (λ_=>none) (λ_ _=>none) (λx=>some (.str x)) (λ_=>none) none
noncomputable def Ar(x:Str):Bool:=!(x==("__debug__":Str)) && !(x==("__classdict__":Str))
def HQ(P:Pm)(sc:Scope)(x:Str)(σ:St)(Q:AV->St->Prop):Prop:=A9 (sc.names.lookup x) λk=>
 aL8 (A9 (σ.ρ.lookup x) λv=>Q v σ) (A9 (σ.ρ.lookup x) λv=>Q v σ) (A9 (σ.ρ.lookup x) λv=>Q v σ) False (A9 (P.gl x) λv=>Q v σ) k
def Da(sc:Scope)(x:Str):Bool:=(sc.names.lookup x).any λk=>aL8 true true false false false k
def Hm(E:WE)(es:List Expr):St->(List AV->St->Prop)->Prop:=Ä (λσ Q=>Q [] σ) (λe _ ih σ Q=>E e σ λv σ=>ih σ λvs σ=>Q (v::vs) σ) es
def wO(E:WE)(o:Option Expr)(σ:St)(Q:AV->St->Prop):Prop:=Ö (Q .none σ) (λe=>E e σ Q) o
def BI(b:Bool)(A B:Prop):Prop:=Ĕ B A b
def fZ(B:WB)(op:BoolOp)(es:List Expr):St->(Bool->St->Prop)->Prop:=
 BoolOp.rec (Ä (λσ Q=>Q true σ) (λe _ ih σ Q=>B e σ λb σ=>BI b (ih σ Q) (Q false σ)) es) (Ä (λσ Q=>Q false σ) (λe _ ih σ Q=>B e σ λb σ=>BI b (Q true σ) (ih σ Q)) es) op
def gJ(A:WA)(ts:List Expr):List AV->St->(St->Prop)->Prop:=Ä (λvs σ Q=>nil vs (Q σ)) (λt _ ih vs σ Q=>Al vs λv vs=>A t v σ λσ=>ih vs σ Q) ts
def Rw(P:Pm)(sc:Scope)(i:Expr):Option Bi:=bif ix i 16&&ix (Ai i).1 23&&Ft (Ai i).2.2.1&&Bh (Ai i).2.1&&Ar (BC (Ai i).1)then(sc.names.lookup (BC (Ai i).1)).bind λk=>bif Ù k.ctorIdx 4 then(P.gl (BC (Ai i).1)).bind JZ else none else none
def Xd(W:Ws)(i:Expr)(σ:St)(K:List AV->St->Prop):Prop:=W.E i σ λv σ=>Ö (A9 (IK v) λes=>K (DB es) σ) (λvs=>subAll nn vs=some vs/\K vs σ) (P8 v)
def Fs(P:Pm)(sc:Scope)(W:Ws)(t i:Expr)(σ:St)(K:List AV->St->Prop):Prop:=Ö (Xd W i σ K)
 (λb=>Ĕ (Ĕ (Xd W i σ K) (Hm W.E (Ai i).2.1 σ λvs σ=>Rm t vs σ K) (Ù b.ctorIdx 3)) (Hm W.E (Ai i).2.1 σ λvs σ=>MC vs σ K) (Ù b.ctorIdx 1)) (Rw P sc i)
noncomputable def BN(cs sc:Scope):Scope:={cs with names:=cs.names.map λ(n,k)=>if(k == .free&&sc.kind == .function&&sc.names.lookup n==some .cell)then(n,.cell)else(n,k)}
def Ah(cs:Scope):List Str:=Ä [] (λp _ ih=>bif Ù p.2.ctorIdx 2 then p.1::ih else ih) cs.names
def pick(ρ:List (Str×AV))(xs:List Str):List (Str×AV):=Ä [] (λx _ ih=>Ö ih (λv=>(x,v)::ih) (ρ.lookup x)) xs
def F1(τ σ:St)(xs:List Str):Prop:=Ä True (λx _ ih=>τ.ρ.lookup x=σ.ρ.lookup x/\ih) xs
noncomputable def isK(o:Option ō)(n:Nat):Bool:=o.any λk=>Ù k.ctorIdx n
def Iq(sc cs:Scope)(ps:List (Str×ō)):Bool:=Ä true (λp _ ih=>aL8 (isK (cs.names.lookup p.1) 0) false (isK (cs.names.lookup p.1) 2&&(isK (sc.names.lookup p.1) 1||isK (sc.names.lookup p.1) 2)) true true p.2&&ih) ps
def JN(sc cs:Scope)(g:à):Bool:=cs.kind == .function&&Iq sc cs cs.names && !ix g.iter 7&&g.is_async==0
def Ux(B:WB)(ifs:List Expr)(σ:St)(K:Bool->St->Prop):Prop:=Ä (K true σ) (λe r _=>Ä (B e σ K) (λ_ _ _=>False) r) ifs
def DT(W:Ws)(g:à)(rest:St->(St->Prop)->Prop)(v:AV)(τ:St)(K:St->Prop):Prop:=W.A g.target v τ λτ=>Ux W.B g.ifs τ λb τ=>BI b (rest τ K) (K τ)
def QD(P:Pm)(cs:Scope)(W:Ws)(g:à)(em:St->(St->Prop)->Prop)(τ:St)(K:St->Prop):Prop:=EK (!ix g.iter 7&&g.is_async==0)
 (Fs P cs W g.target g.iter τ λitems τ=>∃J:Nat->St->Prop,J 0 τ/\(∀k v τ,items[k]?=some v->J k τ->DT W g em v τ (J (k+1)))/\∀τ,J items.length τ->K τ)
def Ka(P:Pm)(cs:Scope)(W:Ws)(em:St->(St->Prop)->Prop)(gs:List à):St->(St->Prop)->Prop:=Ä em (λg r _=>Ä (QD P cs W g em) (λ_ _ _ _ _=>False) r) gs
def Aj(o:AO)(items:List AV)(tn:AV->St->(St->Prop)->Prop)(xs:List Str)(σ:St)(Q:AV->St->Prop):Prop:=
 ∃J:Nat->St->Prop,J 0 ⟨pick σ.ρ xs,(σ.new o).H,σ.n+1,σ.anc⟩/\(∀k v τ,items[k]?=some v->J k τ->tn v τ (J (k+1)))/\
  ∀τ,J items.length τ->F1 τ σ xs/\Q (.ref σ.n) ⟨σ.ρ,τ.H,τ.n,τ.anc⟩
def PO(P:Pm)(Wc:Scope->Ws)(sc:Scope)(o:AO)(em:Ws->Nat->St->(St->Prop)->Prop)(gens:List à)(cs:Scope)(σ:St)(Q:AV->St->Prop):Prop:=Ä False (λg r _=>EK (JN sc cs g)
 (Fs P sc (Wc sc) g.target g.iter σ λitems σ=>Aj o items (DT (Wc (BN cs sc)) g (Ka P (BN cs sc) (Wc (BN cs sc)) (em (Wc (BN cs sc)) σ.n) r)) (Ah cs) σ Q)) gens
def LC(elt:Expr)(W:Ws)(n:Nat)(τ:St)(K:St->Prop):Prop:=W.E elt τ λu τ=>Am .append [.ref n,u] τ λ_ τ=>K τ
def aJ(kx vx:Expr)(W:Ws)(n:Nat)(τ:St)(K:St->Prop):Prop:=W.E kx τ λa τ=>W.E vx τ λv τ=>DJ τ (.ref n) λx es=>A9 (BR a) λk=>K (τ.set x (.dict (dset es k v)))
def gQ(P:Pm)(Wc:Scope->Ws)(sc:Scope)(elt:Expr)(gens:List à)(cs:Scope)(σ:St)(Q:AV->St->Prop):Prop:=PO P Wc sc (.list []) (LC elt) gens cs σ Q
def gN(P:Pm)(Wc:Scope->Ws)(sc:Scope)(kx vx:Expr)(gens:List à)(cs:Scope)(σ:St)(Q:AV->St->Prop):Prop:=EK (Ù gens.length 1) (PO P Wc sc (.dict []) (aJ kx vx) gens cs σ Q)
def d8(g:Expr)(as:List Expr):Bool:=BC g==("list":Str)&&as.any λa=>BC (Ai a).1==("map":Str)
def Zh(P:Pm)(sc:Scope)(g:Expr)(as:List Expr)(σ:St)(Q:AV->St->Prop):Prop:=∃f1 p1 f2 p2 c p3 p4 x p5 p6,(g = .Name f1 p1/\as=[.Call (.Name f2 p2) [.Attribute (.Name c p3) ("_make":Str) p4,.Name x p5] [] p6])/\
 (Ar f1&&Ar f2&&Ar c&&Ar x&&P.mak)=true/\(sc.names.lookup f1=some .globalImplicit/\sc.names.lookup f2=some .globalImplicit/\sc.names.lookup c=some .globalImplicit)/\(P.gl f1=some (.fn .list)/\P.gl f2=some (.fn .map)/\P.gl c=some (.glo P.C))/\
 HQ P sc x σ λv σ=>∃vss,Ak σ v=some (vss.map .tup)/\Gv vss/\vss.length<=1000000/\Q (.lst (ES vss)) σ
def MU(as:List Expr):Bool:=Bh as&&aK2 as.length 29
def RT(P:Pm)(W:Ws)(q:Expr×Str×Pos)(as:List Expr)(p:Pos)(σ:St)(Q:AV->St->Prop):Prop:=
 EK (I9 q.1&&Ù q.2.2.endLine p.line) (W.E q.1 σ λv σ=>A9 (L5 P.K v q.2.1 σ) λg=>Hm W.E as σ λvs σ=>Di P g.1 (bif g.2 then v::vs else vs) σ Q)
def Lv(P:Pm)(sc:Scope)(W:Ws)(g:Expr)(as:List Expr)(σ:St)(Q:AV->St->Prop):Prop:=
 Ĕ (W.E g σ λv σ=>Hm W.E as σ λvs σ=>Di P v vs σ Q) (Zh P sc g as σ Q) (d8 g as)
def V0(P:Pm)(sc:Scope)(W:Ws)(g:Expr)(as:List Expr)(ks:List aN3)(p:Pos)(σ:St)(Q:AV->St->Prop):Prop:=
 EK (Ft ks&&MU as) (Ĕ (Lv P sc W g as σ Q) (RT P W (PF g) as p σ Q) (ix g 20))
def YD(W:Ws)(o i:Expr)(σ:St)(Q:AV->St->Prop):Prop:=W.E o σ λv σ=>
 Ĕ (W.E i σ λk σ=>Fj v k σ Q) (wO W.E (Iy i).1 σ λa σ=>wO W.E (Iy i).2.1 σ λb σ=>wO W.E (Iy i).2.2 σ λc σ=>UU v a b c σ Q) (ix i 26)
def FD(W:Ws)(l:Expr)(ops:List aG0)(rs:List Expr)(σ:St)(Q:AV->St->Prop):Prop:=A9 (AR ops) λop=>A9 (AR rs) λr=>
 EK (!behindInMarks op r) (W.E l σ λa σ=>W.E r σ λb σ=>CQ op a b σ Q)
def NX(op:aK1):Bool:=aK1.rec false true false false op
def qY(W:Ws)(op:aK1)(x:Expr)(σ:St)(Q:AV->St->Prop):Prop:=W.E x σ λa σ=>Ĕ (dG op a σ Q) (Ca a σ λb σ=>Q (.bool (!b)) σ) (NX op)
def UN(W:Ws)(es:List Expr)(σ:St)(K:List AV->St->Prop):Prop:=EK (Bh es&&aK2 es.length 1000000) (Hm W.E es σ K)
def Qe(P:Pm)(sc:Scope)(Wc:Scope->Ws)(W:Ws):WE:=λe σ Q=>Expr.casesOn (motive_1:=λ_=>Prop) e (λ_ _ _=>False) (λ_ _ _=>False) (λl op r _=>W.E l σ λa σ=>W.E r σ λb σ=>ET op a b σ Q) (λop x _=>qY W op x σ Q) (λ_ _ _ _=>False) (λt b o _=>W.B t σ λc σ=>BI c (W.E b σ Q) (W.E o σ Q)) (λks vs _=>EK (Ft ks&&Ft vs) (Q (.ref σ.n) (σ.new (.dict [])))) (λ_ _ _=>False) (λelt gens cs _=>gQ P Wc sc elt gens cs σ Q) (λ_ _ _ _=>False) (λkx vx gens cs _=>gN P Wc sc kx vx gens cs σ Q) (λ_ _ _ _=>False) (λ_ _=>False) (λ_ _=>False) (λ_ _=>False) (λl ops rs _=>FD W l ops rs σ Q) (λg as ks p=>V0 P sc W g as ks p σ Q) (λ_ _ _ _=>False) (λ_ _=>False) (λc _ _=>A9 (Io c) λv=>Q v σ) (λo a _=>EK (I9 o) (W.E o σ λv σ=>XQ P.K v a σ Q)) (λo i _=>YD W o i σ Q) (λ_ _=>False) (λx _=>EK (Ar x) (HQ P sc x σ Q)) (λes p=>UN W es σ λvs σ=>Ĕ (Q (.ref σ.n) (σ.new (.list vs))) (Q (.lst vs) σ) (P.frz p)) (λes _ _=>UN W es σ λvs σ=>Q (.tup vs) σ) (λ_ _ _ _=>False)
def Qq(W:Ws):WB:=λe σ Q=>Expr.casesOn (motive_1:=λ_=>Prop) e (λop vs _=>fZ W.B op vs σ Q) (λ_ _ _=>False) (λ_ _ _ _=>False) (λop x _=>EK (NX op) (W.B x σ λb σ=>Q (!b) σ)) (λ_ _ _ _=>False) (λ_ _ _ _=>False) (λ_ _ _=>False) (λ_ _ _=>False) (λ_ _ _ _=>False) (λ_ _ _ _=>False) (λ_ _ _ _ _=>False) (λ_ _ _ _=>False) (λ_ _=>False) (λ_ _=>False) (λ_ _=>False) (λl ops rs _=>FD W l ops rs σ λv σ=>Ca v σ Q) (λg as ks p=>W.E (.Call g as ks p) σ λv σ=>Ca v σ Q) (λ_ _ _ _=>False) (λ_ _=>False) (λc k p=>W.E (.Constant c k p) σ λv σ=>Ca v σ Q) (λo a p=>W.E (.Attribute o a p) σ λv σ=>Ca v σ Q) (λ_ _ _=>False) (λ_ _=>False) (λx p=>W.E (.Name x p) σ λv σ=>Ca v σ Q) (λ_ _=>False) (λ_ _ _=>False) (λ_ _ _ _=>False)
def Rr(P:Pm)(sc:Scope)(W:Ws):WA:=λt v σ Q=>Expr.casesOn (motive_1:=λ_=>Prop) t (λ_ _ _=>False) (λ_ _ _=>False) (λ_ _ _ _=>False) (λ_ _ _=>False) (λ_ _ _ _=>False) (λ_ _ _ _=>False) (λ_ _ _=>False) (λ_ _ _=>False) (λ_ _ _ _=>False) (λ_ _ _ _=>False) (λ_ _ _ _ _=>False) (λ_ _ _ _=>False) (λ_ _=>False) (λ_ _=>False) (λ_ _=>False) (λ_ _ _ _=>False) (λ_ _ _ _=>False) (λ_ _ _ _=>False) (λ_ _=>False) (λ_ _ _=>False) (λo a _=>W.E o σ λw σ=>SL P.K w a v σ Q) (λo i _=>W.E o σ λw σ=>W.E i σ λk σ=>TR w k v σ Q) (λ_ _=>False) (λx _=>EK (Da sc x) (Q (σ.put x v))) (λ_ _=>False) (λes _ _=>EK (Bh es) (Ln v es.length σ λvs σ=>gJ W.A es vs σ Q)) (λ_ _ _ _=>False)
noncomputable def F2(P:Pm)(f:Nat):Scope->Ws:=Ł (λ_=>⟨λ_ _ _=>False,λ_ _ _=>False,λ_ _ _ _=>False⟩) (λ_ W sc=>⟨Qe P sc W (W sc),Qq (W sc),Rr P sc (W sc)⟩) f
def ws(P:Pm)(sc:Scope)(f:Nat):Ws:=F2 P f sc
def Dj{b:Bool}(h:(!b)=true):b=false:=Eq.mp (aC0 b) h
def JF{x:Str}(h:Ar x=true):(x==("__debug__":Str))=false:=Dj (AN h).1
def Uk{x:Str}(h:Ar x=true):(x==("__classdict__":Str))=false:=Dj (AN h).2
noncomputable def A8(es:List Expr)(env:Env):List (Bool×Sem Value):=es.map λe=>(false,eval e env)
def IP{e:Expr}{r:List Expr}(h:Bh (e::r)=true):ix e 22=false/\Bh r=true:=by
 have h:Ĕ (Bh r) false (ix e 22)=true:=h
 cases hx:ix e 22 with
 | false=>rw[hx]at h;exact⟨rfl,h⟩
 | true=>rw[hx]at h;cases h
def Bg(env:Env)(es:List Expr):Bh es=true->starEach es env=A8 es env:=
 Ä (motive:=λes=>Bh es=true->starEach es env=A8 es env) (λ_=>rfl) (λe r ih h=>by
  obtain⟨h1,h2⟩:=IP h
  refine Eq.trans ?_ (congrArg (aO7 _) (ih h2))
  clear ih h h2
  cases e<;>first | rfl | cases h1) es
def D6(env:Env)(es:List Expr):Bh es=true->assignEach es env=es.map λe=>(false,assign e env):=
 Ä (motive:=λes=>Bh es=true->assignEach es env=es.map λe=>(false,assign e env)) (λ_=>rfl) (λe r ih h=>by
  obtain⟨h1,h2⟩:=IP h
  refine Eq.trans ?_ (congrArg (aO7 _) (ih h2))
  clear ih h h2
  cases e<;>first | rfl | cases h1) es
def CS(pos:Pos)(es:List Expr)(env:Env):backTo pos (A8 es env)=A8 es env:=(Ĳ ..).trans rfl
def No(es:List Expr)(env:Env):(A8 es env).any (·.1)=false:=Ä rfl (λ_ _ ih=>ih) es
section
variable{X:Cx}{s:zY}
def Ie{α:Type}{p:Prop} [Decidable p] {a b:α} {P:α->Prop} (x:P a) (y:P b):P (if p then a else b):=by
 by_cases h:p
 ·rw[if_pos h];exact x
 ·rw[if_neg h];exact y
def Wp.fin{t:Sem Value}{Q:Value->zY->Prop}(h:Wp X t Q s):Wp X (t >>= λr=>holding [r] point >>= λ_=>Pure.pure r) Q s:=Wp.bind (h.mono λr s₂ h₂=>Wp.bind (Wp.hold (wpAny_point (zW h₂))))
def E3{pos:Pos}{f:Value}{first:List Value}{es:List Expr}{env:Env}{Q:Value->zY->Prop}
  (h:Wp X (spliced (A8 es env)) (λvs s₁=>Ef X f s₁/\Wp X (call f (first++vs) []) Q s₁) s) :
  Wp X (callWith pos f first (A8 es env) []) Q s:=by
 unfold callWith
 have e :∀f,evalArgs f true (A8 es env) []=(do let vs<-spliced (A8 es env);holding (vs++[]) (do return ⟨vs,[]⟩)):=by
  intro f
  unfold evalArgs
  cases es with
  | nil=>rfl
  | cons x r=>
   cases r with
   | nil=>rfl
   | cons y r=>rfl
 rw[e]
 refine Wp.bind (Wp.hold (Wp.bind (h.mono λvs s₁ h₁=>?_)))
 refine Wp.hold (Wp.pure (Wp.bind (Ď ?_)))
 have hs:((A8 es env).any (·.1)||([]:List (Option Str×Sem Value)).any (·.1.isNone))=false:=(congrArg (· || false) (No es env)).trans rfl
 rw[hs]
 refine Wp.bind (h₁.1 _ _ λk=>?_)
 cases k with
 | frame=>exact Ie (P:=λt=>Wp X t Q s₁) (Wp.fin h₁.2) (Wp.fin (wpAny_keep h₁.2))
 | boundFrame=>exact Ie (P:=λt=>Wp X t Q s₁) (Wp.fin h₁.2) (Wp.fin (wpAny_keep h₁.2))
 | machine=>exact Wp.fin h₁.2
 | caller=>exact Wp.fin (wpAny_operating h₁.2)
end
def CZ{o:Expr}{env:Env}(h:I9 o=true)(a:Str)(wh:Sem Value):attributeBase o a env wh=wh:=by
 cases o with
 | Call g as ks p=>cases h
 | _=>rfl
section
variable{X:Cx}{P:Pm}{d:Nat}{fN st fM cm fI:É}{sc:Scope}(F:He X P d fN st fM cm fI sc)
include F
theorem D8(x:Str):X.env.kindOf x=sc.names.lookup x:=congrArg (λs:Scope=>s.names.lookup x) F.hsc
theorem Ea:X.env.scope.kind = .function:=F.hsc▸F.fun_
theorem MF{x:Str}{v:AV}{c:Cf}{Q:Value->zY->Prop}(e:P.gl x=some v)(hx:X.env.kindOf x=some .globalImplicit)(R:RS X c)(hq :∀u,LP v=some u->Q u c.s):Wp X (loadName X.env x) Q c.s:=by
 obtain⟨u,e',hc⟩:=F.w.glob x v e
 rw[loadName_read (Ea F) hx]
 exact hc.elim (λh=>h.elim λmg h=>loadGlobal_global (F.glb▸h.1.keeps R.base) h.2 (hq u e')) λh=>h.elim λmg h=>h.elim λmb h=>loadGlobal_builtin (F.glb▸h.1.keeps R.base) h.2.1 (F.bui▸h.2.2.1.keeps R.base) h.2.2.2 (hq u e')
theorem VK{x:Str}{v:AV}{c:Cf}{P:Prop}(R:RS X c)(e:c.σ.ρ.lookup x=some v)(hc:X.env.kindOf x=some .cell\/X.env.kindOf x=some .free)(f :∀a u,X.env.cells.lookup x=some a->c.s.heap.IsCell a (some u)->VR X c v u->P):P:=by
 cases ha:X.env.cells.lookup x with
 | none=>exact(R.celAll x hc ha).elim
 | some a=>exact(R.cel x a ha).casesOn λu hu r=>(r v e λz=>hc.elim (λq=>nomatch q.symm.trans z) λq=>nomatch q.symm.trans z).elim λu' q=>f a u' ha (q.1▸hu) q.2
theorem IM{x:Str}{σ:St}{Q:AV->St->Prop}(hp:Ar x=true)(h:HQ P sc x σ Q):TV X (loadName X.env x) σ Q:=λG s R=>by
 have hko:=D8 F x
 refine AD h λk e h=>?_
 rw[e]at hko
 cases k with
 | «local»=>exact AD h λv e h=>R.loc.casesOn λm hm r=>(r x v e hko).elim λu q=>wpAny_loadName_local (Ea F) hko hm q.1 (AX.here (c:=⟨G,σ,s⟩) R q.2 h)
 | cell=>exact AD h λv e h=>VK F R e (.inl hko) λa u e1 e2 e3=>wpAny_loadName_cell (Ea F) hko e1 e2 (AX.here (c:=⟨G,σ,s⟩) R e3 h)
 | free=>exact AD h λv e h=>VK F R e (.inr hko) λa u e1 e2 e3=>wpAny_loadName_free (Ea F) hko e1 e2 (AX.here (c:=⟨G,σ,s⟩) R e3 h) (Uk hp)
 | globalExplicit=>exact h.elim
 | globalImplicit=>exact AD h λv e h=>MF F e hko R λu e=>AX.here (c:=⟨G,σ,s⟩) R (Uc e) h
theorem Jn{x:Str}{p:Pos}{σ:St}{Q:AV->St->Prop}(hp:Ar x=true)(h:HQ P sc x σ Q):TV X (eval (.Name x p) X.env) σ Q:=λG s R=>aO1 (IM F hp h G s R) (JF hp)
theorem JA{x:Str}{av:AV}{v:Value}{c:Cf}{Q:St->Prop}(hx:Da sc x=true)(R:RS X c)(hv:VR X c av v)(h:Q (c.σ.put x av)):Ev X c Q (storeName X.env x v):=by
 have hko:=D8 F x
 unfold Da at hx
 cases e:sc.names.lookup x with
 | none=>rw[e]at hx;cases hx
 | some k=>
  rw[e]at hko hx
  cases k with
  | «local»=>exact R.loc.casesOn λm hm r=>wpAny_storeName_local hko hm (λh' hn hb=>.to (c':=c.hp (c.σ.put x av) h' (c.s.toks+1)) (b:=()) (R.storeLocal (t:=c.s.toks+1) hko hv r hn hb) trivial h) ((Ea F).symm▸rfl)
  | cell=>
   cases hc:X.env.cells.lookup x with
   | none=>exact(R.celAll x (.inl hko) hc).elim
   | some a=>exact(R.cel x a hc).casesOn λu hu r=>wpAny_storeName_cell (Ea F) hko hc hu λh' hn hb=>.to (c':=c.hp (c.σ.put x av) h' c.s.toks) (b:=()) (R.storeCell (t:=c.s.toks) (λz=>nomatch hko.symm.trans z) hc hv hn hb) trivial h
  | _=>cases hx
end
structure LD(X:Cx)(W:Ws):Prop where
 E :∀e σ Q,W.E e σ Q->TV X (eval e X.env) σ Q
 B :∀e σ Q,W.B e σ Q->TB X (isTrue e X.env (eval e X.env)) σ Q
 A :∀t v c Q,W.A t v c.σ Q->∀{u},RS X c->VR X c v u->Ev X c Q (assign t X.env u)
 U :∀elt gens cs p u σ Q Q',W.E (.ListComp elt gens cs p) σ Q->(∀c a v,RS X c->VR X c a v->Q a c.σ->Ev X c Q' (u v))->∀G s,RS X ⟨G,σ,s⟩->Ev X ⟨G,σ,s⟩ Q' (evalThenUse (.ListComp elt gens cs p) X.env u)
 V :∀kx vx gens cs p u σ Q Q',W.E (.DictComp kx vx gens cs p) σ Q->(∀c a v,RS X c->VR X c a v->Q a c.σ->Ev X c Q' (u v))->∀G s,RS X ⟨G,σ,s⟩->Ev X ⟨G,σ,s⟩ Q' (evalThenUse (.DictComp kx vx gens cs p) X.env u)
def Om(l u t:Option Expr)(p:Pos)(env:Env):eval (.Slice l u t p) env=(do
  let l<-valueOrNone (evalOpt l env)
  let u<-holding [l] (valueOrNone (evalOpt u env))
  let s<-holding [l,u] (valueOrNone (evalOpt t env))
  newFields "slice" [l,u,s]):=rfl
def Jh{op:aK1}(h:NX op=true):op = .Not:=by
 cases op<;>first | rfl | cases h
section
variable{X:Cx}{W:Ws}(S:LD X W)
include S
theorem IT(es:List Expr) :∀{σ:St} {Q:List AV->St->Prop},Hm W.E es σ Q->TL X (spliced (A8 es X.env)) σ λvs σ=>vs.length=es.length/\Q vs σ:=
 Ä (motive:=λes=>∀{σ:St} {Q:List AV->St->Prop},Hm W.E es σ Q->TL X (spliced (A8 es X.env)) σ λvs σ=>vs.length=es.length/\Q vs σ) (λ{σ Q} h G s R=>zW (AX.here (c:=⟨G,σ,s⟩) (b:=([]:List AV)) R rfl ⟨rfl,h⟩))
  (λe r ih σ Q h G s R=>by
   show Wp X (do
    let v<-eval e X.env
    let here<-pure [v]
    return here++(<-holding here (spliced (A8 r X.env)))) _ _
   exact Wp.bind ((S.E e σ _ h).go (c:=⟨G,σ,s⟩) R λv c₁ vv h₁ x₁ r₁=>Wp.bind (Wp.pure (Wp.bind (Wp.hold ((ih h₁).go x₁.R λvs c₂ vvs h₂ x₂ r₂=>Wp.pure (.to (b:=v::vs) (x₁.trans x₂) ⟨vv,vvs,rfl,x₂.pre.v r₁,r₂⟩ ⟨congrArg Ŝ h₂.1,h₂.2⟩))))))) es
theorem Vj(o:Option Expr){σ:St}{Q:AV->St->Prop}(h:wO W.E o σ Q):TV X (valueOrNone (evalOpt o X.env)) σ Q:=by
 cases o with
 | none=>exact λG s R=>zW (AX.here (c:=⟨G,σ,s⟩) (b:=AV.none) R rfl h)
 | some e=>exact S.E e σ Q h
theorem ZU{op:BoolOp}(es:List Expr) :∀{σ:St} {Q:Bool->St->Prop},fZ W.B op es σ Q->TB X (allTrue op es X.env) σ Q:=by
 cases op with
 | And=>
  exact Ä (motive:=λes=>∀{σ:St} {Q:Bool->St->Prop},fZ W.B .And es σ Q->TB X (allTrue .And es X.env) σ Q) (λ{σ Q} h G s R=>zW (AX.here (c:=⟨G,σ,s⟩) (b:=true) R rfl h))
   (λe r ih σ Q h G s R=>wpAny_allTrue_And_cons ((S.B e σ _ h).go (c:=⟨G,σ,s⟩) R λb c₁ vb h₁ x₁ r₁=>by
    cases r₁
    cases b with
    | true=>exact AX.up (ih h₁ _ _ x₁.R) x₁
    | false=>exact .to (b:=false) x₁ rfl h₁)) es
 | Or=>
  exact Ä (motive:=λes=>∀{σ:St} {Q:Bool->St->Prop},fZ W.B .Or es σ Q->TB X (allTrue .Or es X.env) σ Q) (λ{σ Q} h G s R=>zW (AX.here (c:=⟨G,σ,s⟩) (b:=false) R rfl h))
   (λe r ih σ Q h G s R=>wpAny_allTrue_Or_cons ((S.B e σ _ h).go (c:=⟨G,σ,s⟩) R λb c₁ vb h₁ x₁ r₁=>by
    cases r₁
    cases b with
    | true=>exact .to (b:=true) x₁ rfl h₁
    | false=>exact AX.up (ih h₁ _ _ x₁.R) x₁)) es
theorem dC{ts:List Expr} :∀{vs:List AV} {c:Cf} {Q:St->Prop} {us:List Value},gJ W.A ts vs c.σ Q->RS X c->VA X c vs us->Ev X c Q (assignInOrder (ts.map λt=>assign t X.env) us):=
 Ä (motive:=λts=>∀{vs:List AV} {c:Cf} {Q:St->Prop} {us:List Value},gJ W.A ts vs c.σ Q->RS X c->VA X c vs us->Ev X c Q (assignInOrder (ts.map λt=>assign t X.env) us)) (λ{vs c Q us} h R q=>BD (P:=λus=>Ev X c Q (assignInOrder [] us)) h q λh=>Wp.pure (AX.here (b:=()) R trivial h))
  (λt ts ih vs c Q us h R q=>AL (P:=λus=>Ev X c Q (assignInOrder ((t::ts).map λt=>assign t X.env) us)) h q λa r v vr r1 r2 h=>by
   show Wp X (do holding vr (assign t X.env v);assignInOrder (ts.map λt=>assign t X.env) vr) _ _
   exact Wp.bind (Wp.hold (Wp.mono (S.A t a c _ h R r1) λ_ s₁ q=>q.casesOn λG₁ σ₁ _ x₁ _ q₁=>AX.up (ih (c:=⟨G₁,σ₁,s₁⟩) q₁ x₁.R (x₁.pre.va r2)) x₁))) ts
end
def H5{n:Nat}(h:aK2 n 1000000=true):AC n:=Ŏ h
def Ls{i:Expr}(h:ix i 26=false) :∀o k,subscripted i false o k=operate [o,k] (getItem o k):=by
 cases i with
 | Slice=>cases h
 | _=>exact λ_ _=>rfl
def EZ{g:Expr}(h:ix g 20=false)(es:List Expr)(p:Pos)(env:Env):eval (.Call g es [] p) env=(do callWith p (<-eval g env) [] (backTo p (starEach es env)) (backToKw p (keywordEach [] env))):=by
 cases g with
 | Attribute=>cases h
 | _=>rfl
section
variable{X:Cx}{P:Pm}{d:Nat}{fN st fM cm fI:É}{sc:Scope}{W:Ws}(F:He X P d fN st fM cm fI sc)(S:LD X W){σ:St}{Q:AV->St->Prop}
include S
theorem Qd{es:List Expr}{k:Nat}{p:Pos}(h:UN W es σ λvs σ=>Q (.tup vs) σ):TV X (eval (.Tuple es k p) X.env) σ Q:=λG s R=>by
 obtain⟨h1,h⟩:=A6 h
 refine wpAny_Tuple ?_
 rw[Bg _ _ (AN h1).1,CS]
 exact(IT S es h).go (c:=⟨G,σ,s⟩) R λvs c₁ us h₁ x₁ r₁=>⟨(H5 (AN h1).2).line (r₁.len.trans h₁.1),(AX.newTup _ 0 x₁.R r₁ h₁.2).lift x₁⟩
theorem Tc{es:List Expr}{p:Pos}(h:UN W es σ λvs σ=>Ĕ (Q (.ref σ.n) (σ.new (.list vs))) (Q (.lst vs) σ) (P.frz p)):TV X (eval (.List es p) X.env) σ Q:=λG s R=>by
 obtain⟨h1,h⟩:=A6 h
 refine wpAny_List_spliced ?_
 rw[Bg _ _ (AN h1).1,CS]
 refine(IT S es h).go (c:=⟨G,σ,s⟩) R λvs c₁ us h₁ x₁ r₁=>⟨(H5 (AN h1).2).line (r₁.len.trans h₁.1),?_⟩
 have h₂:=h₁.2
 cases hz:P.frz p with
 | true=>rw[hz]at h₂;exact(AX.newLst _ 0 x₁.R r₁ h₂).lift x₁
 | false=>rw[hz]at h₂;exact(AX.newList _ 0 x₁.R r₁ h₂).lift x₁
theorem Px{t b o:Expr}{p:Pos}(h:W.B t σ λc σ=>BI c (W.E b σ Q) (W.E o σ Q)):TV X (eval (.IfExp t b o p) X.env) σ Q:=λG s R=>
 wpAny_IfExp ((S.B t σ _ h).go (c:=⟨G,σ,s⟩) R λc c₁ vc h₁ x₁ r₁=>by
  cases r₁
  cases c with
  | true=>exact AX.up (S.E b _ _ h₁ _ _ x₁.R) x₁
  | false=>exact AX.up (S.E o _ _ h₁ _ _ x₁.R) x₁)
theorem Ve{o i:Expr}{p:Pos}(h:YD W o i σ Q):TV X (eval (.Subscript o i p) X.env) σ Q:=λG s R=>by
 cases hi:ix i 26 with
 | false=>
  exact Subscript_ ((S.E o σ _ h).go (c:=⟨G,σ,s⟩) R λa c₁ va h₁ x₁ r₁=>by
   rw[hi]at h₁
   exact(S.E i _ _ h₁).go x₁.R λb c₂ vb h₂ x₂ r₂=>AX.up (Zi h₂ (Ls hi) x₂.R (x₂.pre.v r₁) r₂) (x₁.trans x₂))
 | true=>
  refine Expr.Slice.elim (motive_1:=λi=>YD W o i σ Q->Go X ⟨G,σ,s⟩ Q (eval (.Subscript o i p) X.env)) i (Å hi) (λlo up st q h=>?_) h
  show Wp X _ _ _
  rw[eval_Subscript,Om]
  exact Wp.bind ((S.E o σ _ h).go (c:=⟨G,σ,s⟩) R λa c₁ va h₁ x₁ r₁=>Wp.bind (Wp.hold (Wp.bind ((Vj S lo h₁).go x₁.R λb c₂ vb h₂ x₂ r₂=>Wp.bind (Wp.hold ((Vj S up h₂).go x₂.R λd c₃ vd h₃ x₃ r₃=>Wp.bind (Wp.hold ((Vj S st h₃).go x₃.R λe c₄ ve h₄ x₄ r₄=>
   have x24:=x₂.trans (x₃.trans x₄)
   Wp.mono (dN h₄ x₄.R (x24.pre.v r₁) ((x₃.trans x₄).pre.v r₂) (x₄.pre.v r₃) r₄) λi s₅ h₅=>Wp.bind (Ď (AX.up h₅ (x₁.trans x24)))))))))))
include F
theorem L2{l:Expr}{ops:List aG0}{rs:List Expr}{p:Pos}(h:FD W l ops rs σ Q):TV X (eval (.Compare l ops rs p) X.env) σ Q:=λG s R=>
 AD h λop e1 h=>AD h λr e2 h=>JY (P:=λops=>Go X ⟨G,σ,s⟩ Q (eval (.Compare l ops rs p) X.env)) e1 (JY (P:=λrs=>Go X ⟨G,σ,s⟩ Q (eval (.Compare l [op] rs p) X.env)) e2
  (wpAny_Compare1 ((S.E l σ _ (A6 h).2).go (c:=⟨G,σ,s⟩) R λa c₁ va h₁ x₁ r₁=>(S.E r _ _ h₁).go x₁.R λb c₂ vb h₂ x₂ r₂=>
   AX.up (RG (Ke F.w.N.toMatC x₂.R.base) (Í (zP (ė (by decide:10<=40) _) (Ŷ (Æ _ _) 40)) F.A.2.2) h₂ x₂.R (x₂.pre.v r₁) r₂) (x₁.trans x₂)) (Dj (A6 h).1)))
theorem Zf{op:aK1}{x:Expr}{p:Pos}(h:qY W op x σ Q):TV X (eval (.UnaryOp op x p) X.env) σ Q:=λG s R=>
 wpAny_UnaryOp ((S.E x σ _ h).go (c:=⟨G,σ,s⟩) R λa c₁ va h₁ x₁ r₁=>by
  cases hn:NX op with
  | true=>
   rw[hn]at h₁
   rw[Jh hn]
   exact not_of (Wp.mono (Pg h₁ x₁.R r₁) λb s₂ q=>q.casesOn λG₂ σ₂ c y e q=>.to (c':=⟨G₂,σ₂,s₂⟩) (b:=.bool (!c)) (x₁.trans y) (by cases e;rfl) q)
  | false=>rw[hn]at h₁;exact AX.up (bZ h₁ x₁.R r₁) x₁)
end
def OI(es:List Expr)(env:Env):(A8 es env).all (!·.1)=true:=Ä rfl (λ_ _ ih=>ih) es
def MG{es:List Expr}{env:Env}{n:Nat}(h:aK2 n 29=true):methodCallForm n (A8 es env) []=true:=
 ê.mpr ⟨ê.mpr ⟨OI es env,rfl⟩,decide_eq_true (Nat.lt_succ_of_le (Ŏ h))⟩
def Fb{few:Bool}{o:Expr}{env:Env}{ap p:Pos}(h:Ù ap.endLine p.line=true):methodCallPos few o env ap p=pure p:=by
 unfold methodCallPos
 exact if_pos ((congrArg (λz=>(!few||z)=true) (show(ap.endLine==p.line)=true from(Å h)▸beq_self_eq_true _)).mpr (Bool.or_true _))
section
variable{X:Cx}{P:Pm}{d:Nat}{fN st fM cm fI:É}{sc:Scope}{W:Ws}(F:He X P d fN st fM cm fI sc)(S:LD X W){σ:St}{Q:AV->St->Prop}
include F
theorem PU{k0:Const}{k:Nat}{p:Pos}(h:A9 (Io k0) λv=>Q v σ):TV X (eval (.Constant k0 k p) X.env) σ Q:=λG s R=>
 Const.casesOn (motive:=λk0=>A9 (Io k0) (λv=>Q v σ)->Go X ⟨G,σ,s⟩ Q (eval (.Constant k0 k p) X.env)) k0
  (λh=>wpAny_Constant_none (AX.here (c:=⟨G,σ,s⟩) (b:=AV.none) R rfl h)) (λb h=>wpAny_Constant_bool (AX.here (c:=⟨G,σ,s⟩) (b:=AV.bool b) R rfl h)) (λi h=>wpAny_Constant_int (.int _ R h)) (λ_=>z7) (λ_ _=>z7)
  (λy h=>wpAny_Constant_str (.to (b:=AV.str y) (R.toks (s.toks+1)) (beq_self_eq_true y) h)) (λ_=>z7) z7 h
theorem Ty{ks:List (Option Expr)}{vs:List Expr}{p:Pos}(h:EK (Ft ks&&Ft vs) (Q (.ref σ.n) (σ.new (.dict [])))):TV X (eval (.Dict ks vs p) X.env) σ Q:=λG s R=>by
 obtain⟨h1,h⟩:=A6 h
 obtain⟨h1,h2⟩:=AN h1
 exact FU (P:=λks=>Go X ⟨G,σ,s⟩ Q (eval (.Dict ks vs p) X.env)) h1 (FU (P:=λvs=>Go X ⟨G,σ,s⟩ Q (eval (.Dict [] vs p) X.env)) h2 (wpAny_Dict_empty
  (.to (c':=Cf.add ⟨G,σ,s⟩ (.dict []) _ s.toks) (b:=AV.ref σ.n) (R.alloc λq e=>⟨[],e▸⟨æ.DictOf.new s.heap,beq_eq_false_iff_ne.mpr λz=>absurd F.w.sys (Đ.mpr (z▸EO R))⟩,rfl⟩) ⟨congrArg _ Gh.name_mu.symm,Ê _⟩ h)))
include S
theorem UV{o:Expr}{a:Str}{p:Pos}(h:EK (I9 o) (W.E o σ λv σ=>XQ P.K v a σ Q)):TV X (eval (.Attribute o a p) X.env) σ Q:=λG s R=>by
 obtain⟨h1,h⟩:=A6 h
 rw[arm_eval_Attribute,CZ h1]
 exact Wp.bind ((S.E o σ _ h).go (c:=⟨G,σ,s⟩) R λv c₁ vv h₁ x₁ r₁=>Wp.bind (Ď (Wp.bind (Wp.hold (Wp.mono (AX.up (Zk F x₁.R h₁ r₁) x₁) λr s₂ h₂=>Wp.bind (wpAny_letTemporaryGo (zW h₂)))))))
theorem TY{o:Expr}{m:Str}{ap p:Pos}{es:List Expr}(hf:MU es=true)(h:RT P W (o,m,ap) es p σ Q):TV X (eval (.Call (.Attribute o m ap) es [] p) X.env) σ Q:=λG s R=>by
 obtain⟨h1,h⟩:=A6 h
 rw[arm_eval_Call,CZ (AN h1).1,Bg _ _ (AN hf).1,CS]
 refine Wp.bind ((S.E o σ _ h).go (c:=⟨G,σ,s⟩) R λv c₁ vv h₁ x₁ r₁=>Wp.bind (Ď ?_))
 unfold methodCall
 rw[show backToKw p (keywordEach [] X.env)=[]from rfl,show methodCallForm (es.length+([]:List aN3).length) (A8 es X.env) []=true from MG (AN hf).2,Fb (AN h1).2]
 refine AD h₁ λg e h₁=>Wp.bind (Wp.hold (Zw F x₁.R e r₁ λgv t rg=>Wp.bind (Wp.pure ?_)))
 have y:=x₁.R.toks t
 refine E3 (TG.go (c:=⟨c₁.G,c₁.σ,{c₁.s with toks:=t}⟩) (IT S es h₁) y.R λvs c₂ vvs h₂ x₂ r₂=>?_)
 have x:=VU (v:=g.1) (vas:=(bif g.2 then [vv]else [])++vvs) F x₂.R h₂.2 (rg c₂) (by
  cases g.2 with
  | true=>exact⟨vv,vvs,rfl,(y.trans x₂).pre.v r₁,r₂⟩
  | false=>exact r₂)
 exact⟨x.1,AX.up x.2 (x₁.trans (y.trans x₂))⟩
theorem P6{g:Expr}{es:List Expr}{p:Pos}{K:Value->zY->Prop}{J:AV->List AV->St->Prop}(hg:ix g 20=false)(hs:Bh es=true){G:Gh}{s:zY}(R:RS X ⟨G,σ,s⟩)(h:W.E g σ λv σ=>Hm W.E es σ λvs σ=>J v vs σ)
  (hk :∀v vs vv vvs c,CX X ⟨G,σ,s⟩ c->VR X c v vv->VA X c vs vvs->J v vs c.σ->Ef X vv c.s/\Wp X (call vv vvs []) K c.s):Wp X (eval (.Call g es [] p) X.env) K s:=by
 rw[EZ hg,Bg _ _ hs,CS]
 exact Wp.bind ((S.E g σ _ h).go (c:=⟨G,σ,s⟩) R λv c₁ vv h₁ x₁ r₁=>E3 ((IT S es h₁).go x₁.R λvs c₂ vvs h₂ x₂ r₂=>hk v vs vv vvs c₂ (x₁.trans x₂) (x₂.pre.v r₁) r₂ h₂.2))
theorem T1(hLM :∀{g as p σ Q},Zh P sc g as σ Q->TV X (eval (.Call g as [] p) X.env) σ Q){g:Expr}{es:List Expr}{ks:List aN3}{p:Pos}(h:V0 P sc W g es ks p σ Q):TV X (eval (.Call g es ks p) X.env) σ Q:=by
 obtain⟨h1,h⟩:=A6 h
 refine FU (P:=λks=>TV X (eval (.Call g es ks p) X.env) σ Q) (AN h1).1 ?_
 cases hg:ix g 20 with
 | true=>
  rw[hg]at h
  exact Expr.Attribute.elim (motive_1:=λg=>RT P W (PF g) es p σ Q->TV X (eval (.Call g es [] p) X.env) σ Q) g (Å hg) (λo m ap h=>TY F S (AN h1).2 h) h
 | false=>
  rw[hg]at h
  have h:Lv P sc W g es σ Q:=h
  unfold Lv at h
  cases hl:d8 g es with
  | true=>rw[hl]at h;exact hLM h
  | false=>
   rw[hl]at h
   exact λG s R=>P6 F S hg (AN (AN h1).2).1 R h λv vs vv vvs c x rv ra j=>have z:=VU F x.R j rv ra;⟨z.1,AX.up z.2 x⟩
end
end Mine
end
section
open PySem PySem.W PyProof.Rows PySem.Spec PySem.Calls PySem.SeqAt
namespace Mine
def MS{G:Gh}{a b:É}{p:AQ}(h:G.own a):(G.put b p).own a:=(ł (a=b)).elim (λe=>e▸A3 Gh.put_at) λe=>(congrArg (·≠none) (Gh.put_ne e)).mpr h
def Gv.all{vss:List (List AV)}:Gv vss->subAll nn (vss.map .tup)=some (vss.map .tup)/\subAll nn (ES vss)=some (ES vss):=
 Ä (motive:=λvss=>Gv vss->subAll nn (vss.map .tup)=some (vss.map .tup)/\subAll nn (ES vss)=some (ES vss)) (λ_=>⟨rfl,rfl⟩) (λvs r ih h=>by
  have q:=ih λi ws e=>h (i+1) ws e
  have z:=(h 0 vs rfl).2
  have AR :∀k,AV.sub nn (.seq k vs)=some (.seq k vs):=λk=>(congrArg (Ñ (AV.seq k)) z).trans rfl
  have two :∀{k} {l:List AV},subAll nn l=some l->subAll nn (.seq k vs::l)=some (.seq k vs::l):=λ{k l} e=>by
   show((AV.sub nn (.seq k vs)).bind λa=>(subAll nn l).map (a :: ·))=_
   rw[AR,e];rfl
  exact⟨two q.1,two q.2⟩) vss
section
variable{X:Cx}{s:zY}
def WP{e:Expr}{r:List Expr}{Q:List Value->zY->Prop}(h:Wp X (eval e X.env) (λv s₁=>Wp X (spliced (A8 r X.env)) (λvs s₂=>Q (v::vs) s₂) s₁) s):Wp X (spliced (A8 (e::r) X.env)) Q s:=by
 show Wp X (do
  let v<-eval e X.env
  let here<-pure [v]
  return here++(<-holding here (spliced (A8 r X.env)))) _ _
 exact Wp.bind (h.mono λv s₁ h₁=>Wp.bind (Wp.pure (Wp.bind (Wp.hold (h₁.mono λvs s₂ h₂=>Wp.pure h₂)))))
end
section
variable{X:Cx}{P:Pm}{d:Nat}{fN st fM cm fI:É}{sc:Scope}{W:Ws}(F:He X P d fN st fM cm fI sc){c:Cf}
include F
theorem Ms{f:Str}{b:Bi}{pf p:Pos}{es:List Expr}{K:Value->zY->Prop}(hp:Ar f=true)(hx:sc.names.lookup f=some .globalImplicit)(hg:P.gl f=some (.fn b))(hs:Bh es=true)(R:RS X c)
  (h:Wp X (spliced (A8 es X.env)) (λvs s₁=>Wp X (call b.val vs []) K s₁) c.s):Wp X (eval (.Call (.Name f pf) es [] p) X.env) K c.s:=by
 rw[EZ rfl,Bg _ _ hs,CS]
 exact Wp.bind (aO1 (MF F hg ((D8 F f).trans hx) R λu e=>E3 (h.mono λvs s₁ h₁=>zR e▸⟨My b,h₁⟩)) (JF hp))
theorem O5{expr:Bool}{Q:Value->zY->Prop}(R:RS X c)(h:Q (.ref c.s.heap.objs.size) {c.s with heap:=c.s.heap.push (methodObj (.ref fM) (.ref X.L.C)),toks:=c.s.toks+1}):Wp X (getAttr (.ref X.L.C) "_make" expr) Q c.s:=by
 obtain⟨rest,hr⟩:=F.w.cmo
 refine cls_bind (F.w.K.keeps R.base) F.w.Y.reads F.w.make (Ų (cm_get (F.w.K.keeps R.base) hr ?_))
 show wpAny _ _ (handedOut _) _ _ _
 rw[handedOut_of rfl]
 exact zW h
theorem ZQ{g:Expr}{as:List Expr}{p:Pos}{σ:St}{Q:AV->St->Prop}(h:Zh P sc g as σ Q):TV X (eval (.Call g as [] p) X.env) σ Q:=λG s R=>by
 obtain⟨f1,p1,f2,p2,c,p3,p4,x,p5,p6,⟨rfl,rfl⟩,hp,⟨k1,k2,k3⟩,⟨g1,g2,g3⟩,h⟩:=h
 obtain⟨hp,hm⟩:=AN hp
 obtain⟨hp,n4⟩:=AN hp
 obtain⟨hp,n3⟩:=AN hp
 refine Ms F (c:=⟨G,σ,s⟩) (AN hp).1 k1 g1 rfl R (WP (Ms F (c:=⟨G,σ,s⟩) (AN hp).2 k2 g2 rfl R (WP ?_)))
 rw[arm_eval_Attribute,CZ rfl]
 refine Wp.bind (aO1 (MF F (c:=⟨G,σ,s⟩) g3 ((D8 F c).trans k3) R λu e=>Wp.bind (Ď (Wp.bind (Wp.hold ?_)))) (JF n3))
 rw[<-zR e,F.w.hC]
 refine O5 F R (Wp.bind (wpAny_letTemporaryGo (zW ?_)))
 have x1:=R.push (methodObj (.ref fM) (.ref X.L.C)) (s.toks+1)
 refine WP ((Jn F n4 h).go (c:=Cf.hp ⟨G,σ,s⟩ σ (s.heap.push (methodObj (.ref fM) (.ref X.L.C))) (s.toks+1)) x1.R λv c₂ vv h₂ x₂ r₂=>zW ?_)
 obtain⟨vss,hl,ht,hn,hq⟩:=h₂
 have hmth:c₂.s.heap.get? s.heap.objs.size=some (methodObj (.ref fM) (.ref X.L.C)):=(x₂.kp.still _ _ (Î _ rfl) R.gone).1
 have hml:s.heap.objs.size<c₂.s.heap.objs.size:=zZ (zZ (Ê _) (Â (ä ..).symm)) x₂.kp.size
 have R2:=x₂.R
 have up:=x1.trans x₂
 clear x₂ x1 R
 generalize hN:s.heap.objs.size=mth at hmth hml
 refine Af (P:=λvv=>Wp X (call (.type "map") [.ref mth,vv] []) _ c₂.s) hl R2 r₂ λl us k l1 l2=>?_
 refine callType_new Lf (by decide) (HC _ _) (Hu _ _) (λobj=>Hh obj _ _) Hj (Hg l us k _) ⟨l1,?_⟩
 generalize hh2:((c₂.s.heap.push (Bt l 0)).push (An [.ref c₂.s.heap.objs.size] 0)).push (Cg (c₂.s.heap.objs.size+1) (.ref mth))=h2
 have y1:(c₂.s.heap.push (Bt l 0)).objs.size=c₂.s.heap.objs.size+1:=ä ..
 have y2:((c₂.s.heap.push (Bt l 0)).push (An [.ref c₂.s.heap.objs.size] 0)).objs.size=c₂.s.heap.objs.size+2:=(ä ..).trans (congrArg Ŝ y1)
 have z2:h2.objs.size=c₂.s.heap.objs.size+3:=hh2▸(ä ..).trans (congrArg Ŝ y2)
 have k2 :∀b o,c₂.s.heap.get? b=some o->h2.get? b=some o:=λb o e=>hh2▸Ã _ (Ã _ (Ã _ e))
 have hit:h2.get? c₂.s.heap.objs.size=some (Bt l 0):=hh2▸Ã _ (Ã _ (Î _ rfl))
 have hT:h2.get? (c₂.s.heap.objs.size+1)=some (An [.ref c₂.s.heap.objs.size] 0):=hh2▸Ã _ (y1▸Î _ rfl)
 have hI:h2.get? (c₂.s.heap.objs.size+2)=some (Cg (c₂.s.heap.objs.size+1) (.ref mth)):=hh2▸y2▸Î _ rfl
 refine⟨⟨_,hI,rfl⟩,zW ?_⟩
 have lt :∀{a o},c₂.s.heap.get? a=some o->a≠c₂.s.heap.objs.size:=λ{a o} e=>ß (ğ e)
 have ow :∀{a},((DH c₂.G []).put c₂.s.heap.objs.size .lock).own a->a=c₂.s.heap.objs.size\/c₂.G.own a:=λ{a} e=>(Gh.put_own e).imp id D3.mp
 have D:Ig ((DH c₂.G []).put c₂.s.heap.objs.size .lock) X.h₀ {c₂.s with heap:=h2}:=⟨λa e=>(ow e).elim (λz=>z▸EO R2) (R2.ownB a),λa e=>z2.symm▸(ow e).elim (λz=>z▸Þ (by decide)) (λe=>zZ (R2.ownLt a e) (Æ _ 3)),λb o e=>k2 _ _ (R2.base b o e),z2.symm▸zP (EO R2) (Æ _ 3)⟩
 have nom :∀a,¬ ((DH c₂.G []).put c₂.s.heap.objs.size .lock).mt a:=λa z=>z.elim λp z=>(ł (a=c₂.s.heap.objs.size)).elim (λy=>z.2 (zR ((y▸z.1).symm.trans Gh.put_at))) λy=>(Ko ((Gh.put_ne y).symm.trans z.1)).elim z.2 λz=>z.elim λi z=>z.elim λx z=>nomatch z.1
 have tall:=Gv.all ht
 refine Jd (s:={c₂.s with heap:=h2}) (I:=c₂.s.heap.objs.size+2) (T:=c₂.s.heap.objs.size+1) (it:=c₂.s.heap.objs.size) (l:=l) (mth:=mth) (F.w.mkOk hm) F.A D (A3 Gh.put_at) nom (ń (Þ (by decide))) (ń (Ê _)) (lt l1) (lt hmth) hI hT hit (k2 _ _ l1) (k2 _ _ hmth) ht
  (l2.shut (λa o e q=>⟨k2 _ _ e,λz=>(ow z).elim (lt e) q⟩) tall.1) hn λacc s' q1 q2 q3 q4 q5 q6=>?_
 have kk :∀b o,c₂.s.heap.get? b=some o->s'.heap.get? b=some o:=λb o e=>q1 b o (k2 _ _ e) (lt e)
 have ks:c₂.s.heap.objs.size<=s'.heap.objs.size:=zP (z2.symm▸Æ _ 3) q2
 have x3:CX X c₂ ⟨c₂.G,c₂.σ,s'⟩:=R2.more kk ks (λ_ _=>rfl) (λa e=>zZ (R2.ownLt a e) ks) (λ_ _=>⟨rfl,rfl⟩) (zX _) q3 q4 rfl rfl λ_ _=>.inl
 refine .to (c':=⟨c₂.G,c₂.σ,s'⟩) (b:=.lst (ES vss)) (up.trans x3) ⟨_,acc,rfl,q5.elim λcc e=>⟨(cc,none),e⟩,λz=>absurd (R2.ownLt _ z) (Đ.mpr (z2.symm▸Æ _ 3)),?_⟩ hq
 exact q6.shut (λa o e q=>⟨e,λz=>q (MS (MS (D3.mpr z)))⟩) tall.2
end
def Ro(cl:List (Str×É))(a:É)(p:AQ):AQ:=AQ.rec .lock .lock (λy=>bif cl.lookup y==some a then .cell y else .lock) (λx=>.obj x) (λx=>.dict x) p
def Gh.cmp(G:Gh)(C:É)(cl:List (Str×É)):Gh:=⟨λa=>bif a==C then some .loc else(G.tag a).map (Ro cl a),G.μ,G.δ⟩
def Hz(o:Option AQ)(p:AQ):Option AQ:=AQ.rec (some .loc) o (λy=>some (.cell y)) (λ_=>o) (λ_=>o) p
def Gh.unc(G' G:Gh)(C:É):Gh:=⟨λa=>bif a==C then some .lock else Ö (G'.tag a) (Hz (G'.tag a)) (G.tag a),G'.μ,G'.δ⟩
section
variable{G G':Gh}{C a:É}{cl:List (Str×É)}{p:AQ}
def Xx:(G.cmp C cl).tag C=some .loc:=congrArg (cond · (some AQ.loc) ((G.tag C).map (Ro cl C))) (beq_self_eq_true C)
def La(h:a≠C):(G.cmp C cl).tag a=(G.tag a).map (Ro cl a):=congrArg (cond · (some AQ.loc) ((G.tag a).map (Ro cl a))) (beq_eq_false_iff_ne.mpr h)
def Ds(h:a≠C)(e:G.tag a=some p):(G.cmp C cl).tag a=some (Ro cl a p):=(La h).trans (congrArg _ e)
def JM(h:(G.cmp C cl).own a):a=C\/G.own a:=(ł (a=C)).imp id λn z=>h ((La n).trans (congrArg _ z))
def Qn(h:(G.cmp C cl).mt a):a=C\/G.mt a:=(ł (a=C)).imp id λn=>h.elim λq e=>by
 obtain⟨r,e1,e2⟩:=map_some ((La n).symm.trans e.1)
 exact⟨r,e1,λz=>e.2 (by subst z;exact e2.symm)⟩
def RV(h:a≠C):(G'.unc G C).tag a=Ö (G'.tag a) (Hz (G'.tag a)) (G.tag a):=congrArg (cond · (some AQ.lock) (Ö (motive:=λ_=>Option AQ) (G'.tag a) (Hz (G'.tag a)) (G.tag a))) (beq_eq_false_iff_ne.mpr h)
def F4(h:a≠C)(e:G.tag a=some p):(G'.unc G C).tag a=Hz (G'.tag a) p:=(RV h).trans (congrArg (λo=>Ö (motive:=λ_=>Option AQ) (G'.tag a) (Hz (G'.tag a)) o) e)
def LZ(h:a≠C)(e:G.tag a=none):(G'.unc G C).tag a=G'.tag a:=(RV h).trans (congrArg (λo=>Ö (motive:=λ_=>Option AQ) (G'.tag a) (Hz (G'.tag a)) o) e)
end
def F5.en{X:Cx}{c:Cf}{x:Nat}{o:AO}(e:Env)(q:F5 X c x o):F5 {X with env:=e} c x o:=⟨q.lt,q.tag,q.rel⟩
section
variable{X:Cx}{c:Cf}{cl:List (Str×É)}{env':Env}
def RS.enter{h':æ}{t:Nat}{ρc:List (Str×AV)}(R:RS X c)(hC:env'.locals=c.s.heap.objs.size)(hcl':env'.cells=cl)(hns:h'.Ns c.s.heap.objs.size (λ_=>none))(kk :∀a o,c.s.heap.get? a=some o->h'.get? a=some o)(sz:c.s.heap.objs.size<h'.objs.size)
  (hcl :∀x a,cl.lookup x=some a->X.env.cells.lookup x=some a) (hcap :∀x,env'.kindOf x=some .cell\/env'.kindOf x=some .free->cl.lookup x=none->False)
  (hρ :∀x av,ρc.lookup x=some av->c.σ.ρ.lookup x=some av/\X.env.kindOf x≠some .local/\env'.kindOf x≠some .local) :
  RS {X with env:=env'} ⟨c.G.cmp c.s.heap.objs.size cl,⟨ρc,c.σ.H,c.σ.n,c.σ.anc⟩,{c.s with heap:=h',toks:=t}⟩/\Kp c.G c.s.heap (c.G.cmp c.s.heap.objs.size cl) h'/\Dr c ⟨c.G.cmp c.s.heap.objs.size cl,⟨ρc,c.σ.H,c.σ.n,c.σ.anc⟩,{c.s with heap:=h',toks:=t}⟩:=by
 have ne :∀{a p},c.G.tag a=some p->a≠c.s.heap.objs.size:=λe=>ß (R.ownLt _ (A3 e))
 have kp:Kp c.G c.s.heap (c.G.cmp c.s.heap.objs.size cl) h':=⟨λa o e _=>kk a o e,λa h=>(JM h).elim (λz=>.inr (Â z.symm)) .inl,λa h=>(Qn h).elim (λz=>.inr (Â z.symm)) .inl,Û sz,λa h=>Ds (ne h) h⟩
 have p:Dr c ⟨c.G.cmp c.s.heap.objs.size cl,⟨ρc,c.σ.H,c.σ.n,c.σ.anc⟩,{c.s with heap:=h',toks:=t}⟩:=⟨kp.still,λ_ _=>⟨rfl,rfl⟩,zX _⟩
 exact⟨{
  base:=λb o e=>kk _ _ (R.base b o e)
  keep:=λb o e q=>kk _ _ (R.keep b o e q)
  size:=zP R.size kp.size
  mutHs:=λa h=>(Qn h).elim (λz=>.inr (z▸R.size)) (R.mutHs a)
  ownB:=λa h=>(JM h).elim (λz=>z▸Û (Í (R.ownB _ (A3 R.tloc)) (R.ownLt _ (A3 R.tloc)))) (R.ownB a)
  ownLt:=λa h=>(JM h).elim (λz=>z▸sz) λh=>ő (R.ownLt a h) sz
  gens:=R.gens
  os:=R.os
  loc:=⟨λ_=>none,hC.symm▸hns,λx av e k=>absurd k (hρ x av e).2.2⟩
  cel:=λx a e=>(R.cel x a (hcl x a (hcl'▸e))).casesOn λv hv r=>⟨v,hv.imp λo q=>⟨kk _ _ q.1,q.2⟩,λav e1 _=>(r av (hρ x av e1).1 (hρ x av e1).2.1).imp λu q=>⟨q.1,p.v q.2⟩⟩
  celAll:=λx h e=>hcap x h (hcl'▸e)
  tloc:=hC.symm▸Xx
  tcel:=λx a e=>by
   have e:cl.lookup x=some a:=hcl'▸e
   have ht:=R.tcel x a (hcl x a e)
   refine(Ds (ne ht) ht).trans (congrArg some ?_)
   show(bif cl.lookup x==some a then AQ.cell x else .lock)=_
   rw[e,beq_self_eq_true]
   rfl
  obj:=λx o e=>have q:=R.obj x o e;(p.obj (X:=X) (Ds (ne q.tag) q.tag) (λo=>kk _ o) (λz=>⟨λo=>kk _ o,Ds (ne z) z⟩) q).en env'
  anc:=R.anc},kp,p⟩
def RS.leave{h':æ}{t:Nat}{cb ci:Cf}(Rb:RS X cb)(R:RS X c)(kG:Kp cb.G cb.s.heap c.G c.s.heap)(Rc:RS {X with env:=env'} ci)(k:Kp cb.G cb.s.heap ci.G ci.s.heap)
  (hlk :∀a,(c.G.cmp c.s.heap.objs.size cl).tag a=some .lock->ci.G.tag a=some .lock) (hkeep :∀a o,cb.s.heap.get? a=some o->(c.G.cmp c.s.heap.objs.size cl).tag a=some .lock->ci.s.heap.get? a=some o) (hC:env'.locals=c.s.heap.objs.size) (hcl':env'.cells=cl)
  (m:Nm cb.σ.n cb.G ci.G) (hn:cb.σ.n<=ci.σ.n) (hρ :∀x a,cl.lookup x=some a->∀av,cb.σ.ρ.lookup x=some av->X.env.kindOf x≠some .local->ci.σ.ρ.lookup x=some av/\env'.kindOf x≠some .local) (hsb:ÿ c.s.heap.objs.size ci.s.heap h') :
  CX X cb ⟨ci.G.unc c.G c.s.heap.objs.size,⟨cb.σ.ρ,ci.σ.H,ci.σ.n,ci.σ.anc⟩,{ci.s with heap:=h',toks:=t}⟩:=by
 have neC :∀{a p},c.G.tag a=some p->a≠c.s.heap.objs.size:=λe=>ß (R.ownLt _ (A3 e))
 have tC:ci.G.tag c.s.heap.objs.size=some .loc:=hC▸Rc.tloc
 have nCb :∀{a o},cb.s.heap.get? a=some o->a≠c.s.heap.objs.size:=λe=>ß (zZ (ğ e) kG.size)
 have kC :∀{a o},a≠c.s.heap.objs.size->ci.s.heap.get? a=some o->h'.get? a=some o:=λha e=>hsb.extBut _ _ ha e
 have tl :∀{a},c.G.tag a=some .loc->ci.G.tag a=some .lock:=λe=>hlk _ (Ds (neC e) e)
 have tc0 :∀{a y},c.G.tag a=some (.cell y)->(cl.lookup y==some a)=false->(c.G.cmp c.s.heap.objs.size cl).tag a=some .lock:=λ{a y} e hc=>(Ds (neC e) e).trans (congrArg (λb:Bool=>some (bif b then AQ.cell y else .lock)) hc)
 have tc :∀{a y},c.G.tag a=some (.cell y)->ci.G.tag a=some .lock\/ci.G.tag a=some (.cell y):=λ{a y} e=>by
  cases hc:cl.lookup y==some a with
  | true=>exact .inr (Rc.tcel y a (hcl'▸å hc))
  | false=>exact .inl (hlk a (tc0 e hc))
 have own_of :∀{a},(ci.G.unc c.G c.s.heap.objs.size).own a->ci.G.own a:=λ{a} h=>(ł (a=c.s.heap.objs.size)).elim (λz=>z▸A3 tC) λn=>by
  cases e:c.G.tag a with
  | none=>exact λz=>h ((LZ n e).trans z)
  | some p=>
   cases p with
   | loc=>exact A3 (tl e)
   | cell y=>exact(tc e).elim A3 A3
   | _=>exact λz=>h ((F4 n e).trans z)
 have mt_of :∀{a},(ci.G.unc c.G c.s.heap.objs.size).mt a->c.G.mt a\/ci.G.mt a:=λ{a} h=>(ł (a=c.s.heap.objs.size)).elim (λz=>.inr (z▸EG tC λz=>nomatch z)) λn=>by
  cases e:c.G.tag a with
  | none=>exact .inr (h.imp λp q=>⟨(LZ n e).symm.trans q.1,q.2⟩)
  | some p=>
   cases p with
   | loc=>exact .inl (EG e λz=>nomatch z)
   | cell y=>exact .inl (EG e λz=>nomatch z)
   | _=>exact .inr (h.imp λp q=>⟨(F4 n e).symm.trans q.1,q.2⟩)
 have kp:Kp cb.G cb.s.heap (ci.G.unc c.G c.s.heap.objs.size) h':=⟨λa o e q=>kC (nCb e) (k.keep a o e q),λa h=>k.own a (own_of h),λa h=>(mt_of h).elim (kG.mt a) (k.mt a),hsb.1.symm▸k.size,λa h=>have h0:=kG.lock a h;(F4 (neC h0) h0).trans (hlk a (Ds (neC h0) h0))⟩
 have p:Dr cb ⟨ci.G.unc c.G c.s.heap.objs.size,⟨cb.σ.ρ,ci.σ.H,ci.σ.n,ci.σ.anc⟩,{ci.s with heap:=h',toks:=t}⟩:=⟨kp.still,m,hn⟩
 have pi:Dr ci ⟨ci.G.unc c.G c.s.heap.objs.size,⟨cb.σ.ρ,ci.σ.H,ci.σ.n,ci.σ.anc⟩,{ci.s with heap:=h',toks:=t}⟩:=⟨λa o e q=>⟨kC (λz=>q (z▸A3 tC)) e,λz=>q (own_of z)⟩,λ_ _=>⟨rfl,rfl⟩,zX _⟩
 have lk :∀{a},(c.G.cmp c.s.heap.objs.size cl).tag a=some .lock->∀o,cb.s.heap.get? a=some o->h'.get? a=some o:=λh o e=>kC (nCb e) (hkeep _ o e h)
 have kt :∀{a q},ci.G.tag a=some q->q≠.lock->¬ Kj q->(ci.G.unc c.G c.s.heap.objs.size).tag a=some q:=λ{a q} e h1 h2=>by
  have n:a≠c.s.heap.objs.size:=λz=>h2 (.inl (zR (e.symm.trans (z▸tC))))
  cases e':c.G.tag a with
  | none=>exact(LZ n e').trans e
  | some p=>
   cases p with
   | loc=>exact absurd (zR (e.symm.trans (tl e'))) h1
   | cell y=>exact(tc e').elim (λz=>absurd (zR (e.symm.trans z)) h1) λz=>absurd (.inr ⟨y,zR (e.symm.trans z)⟩) h2
   | _=>exact(F4 n e').trans e
 have nz :∀{a q},ci.G.tag a=some q->¬ Kj q->a≠c.s.heap.objs.size:=λe h z=>h (.inl (zR (e.symm.trans (z▸tC))))
 exact⟨kp,p,{
  base:=λb o e=>kC (λz=>absurd (Rc.ownB _ (A3 tC)) (ŷ.mpr (z▸ğ e))) (Rc.base b o e)
  keep:=λb o e q=>kC (λz=>absurd R.size (ŷ.mpr (z▸ğ e))) (Rc.keep b o e q)
  size:=hsb.1.symm▸Rc.size
  mutHs:=λa h=>(mt_of h).elim (R.mutHs a) (Rc.mutHs a)
  ownB:=λa h=>Rc.ownB a (own_of h)
  ownLt:=λa h=>hsb.1.symm▸Rc.ownLt a (own_of h)
  gens:=Rc.gens
  os:=Rc.os
  loc:=p.loc rfl (lk (Ds (neC R.tloc) R.tloc)) Rb.loc
  cel:=λx a e=>by
   have ht:=R.tcel x a e
   cases hc:cl.lookup x==some a with
   | true=>
    have e':=å hc
    exact(Rc.cel x a (hcl'▸e')).casesOn λv hv r=>⟨v,hv.imp λo q=>⟨kC (neC ht) q.1,q.2⟩,λav e1 e2=>have q:=hρ x a e' av e1 e2;(r av q.1 q.2).imp λu q=>⟨q.1,pi.v q.2⟩⟩
   | false=>exact p.cel rfl (lk (tc0 ht hc)) (Rb.cel x a e)
  celAll:=R.celAll
  tloc:=F4 (neC R.tloc) R.tloc
  tcel:=λx a e=>have ht:=R.tcel x a e;F4 (neC ht) ht
  obj:=λx o e=>have q:F5 X ci x o:=(Rc.obj x o e).en X.env;pi.obj (kt q.tag (λz=>nomatch z) Ec) (λo=>kC (nz q.tag Ec)) (λz=>⟨λo=>kC (nz z EE),kt z (λz=>nomatch z) EE⟩) q
  anc:=Rc.anc}⟩
end
noncomputable def LU(ifs:List Expr)(env:Env):Sem Bool:=forIn ifs true λc r=>if r=true then do let ok<-isTrue c env (eval c env);pure (Ľ ok)else pure (Ľ r)
def Bu(tg:Expr)(ifs:List Expr)(ip:Pos)(it:Value)(env:Env)(body:Sem Fin)(c:aN4):Sem Fin:=standAt ip >>= λ_=>pyNext it >>= λr=>match r with
 | none=>pure (.done .next)
 | some v=>letOwnedTupleGo tg it v >>= λ_=>assign tg env v >>= λ_=>LU ifs env >>= λok=>if ok=true then body else again c
section
variable{elt kx vx tg iter:Expr}{ifs:List Expr}{sc:Scope}{p:Pos}{it acc:Value}{D:É}{env:Env}{g:à}
noncomputable def N9(elt:Expr)(env:Env)(acc:Value):Sem Unit:=do let _<-call (.builtin "list.append") [acc,<-eval elt env]
noncomputable def Ue(kx vx:Expr)(env:Env)(D:É):Sem Unit:=do
 let kv<-eval kx env
 let vv<-holding [kv] (eval vx env)
 standAt {kx.pos with endLine:=vx.pos.endLine,endCol:=vx.pos.endCol}
 holding [kv,vv] (dictSet D kv vv)
noncomputable def NF(e:Expr)(g:à)(d:Nat)(env:Env)(acc:Value)(k:Sem Fin):Sem Fin:=do
 let x<-eval g.iter env
 standAt g.iter.pos
 let x<-if g.is_async != 0 then foldedIterable g.iter x else foldedSetIterable g.iter env x
 let _<-runOwn (.compStart e d (<-holding [x] (if g.is_async != 0 then asyncIter x else pyIter x)) acc env) env
 k
def OF:compTurn (.ListComp elt [⟨tg,iter,ifs,0⟩] sc p) 0 it acc env=Bu tg ifs iter.pos it env (N9 elt env acc >>= λ_=>again (.compLoop (.ListComp elt [⟨tg,iter,ifs,0⟩] sc p) 0 it acc env)) (.compLoop (.ListComp elt [⟨tg,iter,ifs,0⟩] sc p) 0 it acc env):=rfl
def Nb:compTurn (.DictComp kx vx [⟨tg,iter,ifs,0⟩] sc p) 0 it (.ref D) env=Bu tg ifs iter.pos it env (Ue kx vx env D >>= λ_=>again (.compLoop (.DictComp kx vx [⟨tg,iter,ifs,0⟩] sc p) 0 it (.ref D) env)) (.compLoop (.DictComp kx vx [⟨tg,iter,ifs,0⟩] sc p) 0 it (.ref D) env):=rfl
def R7{g2:à}{r:List à}:compTurn (.ListComp elt (⟨tg,iter,ifs,0⟩::g2::r) sc p) 0 it acc env=Bu tg ifs iter.pos it env (NF (.ListComp elt (⟨tg,iter,ifs,0⟩::g2::r) sc p) g2 1 env acc (again (.compLoop (.ListComp elt (⟨tg,iter,ifs,0⟩::g2::r) sc p) 0 it acc env))) (.compLoop (.ListComp elt (⟨tg,iter,ifs,0⟩::g2::r) sc p) 0 it acc env):=rfl
def Ta:compTurn (.ListComp elt [g,⟨tg,iter,ifs,0⟩] sc p) 1 it acc env=Bu tg ifs iter.pos it env (N9 elt env acc >>= λ_=>again (.compLoop (.ListComp elt [g,⟨tg,iter,ifs,0⟩] sc p) 1 it acc env)) (.compLoop (.ListComp elt [g,⟨tg,iter,ifs,0⟩] sc p) 1 it acc env):=rfl
variable{prog:þ}{w:Ì}
def Ph:(model prog w).den (.compLoop (.ListComp elt [⟨tg,iter,ifs,0⟩] sc p) 0 it acc env)=(Bu tg ifs iter.pos it env (N9 elt env acc >>= λ_=>again (.compLoop (.ListComp elt [⟨tg,iter,ifs,0⟩] sc p) 0 it acc env)) (.compLoop (.ListComp elt [⟨tg,iter,ifs,0⟩] sc p) 0 it acc env)).onRaise (λx=>do noteFrame x env;theTreesLotGoes x):=by rw[<-OF];rfl
def Qh:(model prog w).den (.compLoop (.DictComp kx vx [⟨tg,iter,ifs,0⟩] sc p) 0 it (.ref D) env)=(Bu tg ifs iter.pos it env (Ue kx vx env D >>= λ_=>again (.compLoop (.DictComp kx vx [⟨tg,iter,ifs,0⟩] sc p) 0 it (.ref D) env)) (.compLoop (.DictComp kx vx [⟨tg,iter,ifs,0⟩] sc p) 0 it (.ref D) env)).onRaise (λx=>do noteFrame x env;theTreesLotGoes x):=by rw[<-Nb];rfl
def UM{g2:à}{r:List à}:(model prog w).den (.compLoop (.ListComp elt (⟨tg,iter,ifs,0⟩::g2::r) sc p) 0 it acc env)=(Bu tg ifs iter.pos it env (NF (.ListComp elt (⟨tg,iter,ifs,0⟩::g2::r) sc p) g2 1 env acc (again (.compLoop (.ListComp elt (⟨tg,iter,ifs,0⟩::g2::r) sc p) 0 it acc env))) (.compLoop (.ListComp elt (⟨tg,iter,ifs,0⟩::g2::r) sc p) 0 it acc env)).onRaise (λx=>do noteFrame x env;theTreesLotGoes x):=by rw[<-R7];rfl
def V3:(model prog w).den (.compLoop (.ListComp elt [g,⟨tg,iter,ifs,0⟩] sc p) 1 it acc env)=(Bu tg ifs iter.pos it env (N9 elt env acc >>= λ_=>again (.compLoop (.ListComp elt [g,⟨tg,iter,ifs,0⟩] sc p) 1 it acc env)) (.compLoop (.ListComp elt [g,⟨tg,iter,ifs,0⟩] sc p) 1 it acc env)).onRaise (λx=>do noteFrame x env;theTreesLotGoes x):=by rw[<-Ta];rfl
end
section
variable{X:Cx}{R:aG5->zY->Prop}{s:zY}
def G7{tg:Expr}{ifs:List Expr}{ip:Pos}{it:Value}{env:Env}{body:Sem Fin}{c:aN4}(hq:c.quiet=true)(hu:X.A.under c=X.A)
  (hd:(model X.L.prog X.L.w).den c=(Bu tg ifs ip it env body c).onRaise (λx=>do noteFrame x env;theTreesLotGoes x)) (I:Nat->zY->Prop)
  (turn :∀n s,I n s->Wp X (pyNext it) (λr s₁=>Ö (R (.ok .next) s₁) (λv=>Wp X (letOwnedTupleGo tg it v) (λ_ s₁=>Wp X (assign tg env v) (λ_ s₂=>Wp X (LU ifs env) (λok s₃=>
     Ĕ (∃m,m<n/\I m s₃) (Wp X body (λfin s₅=>fin = .again c/\∃m,m<n/\I m s₅) s₃) ok) s₂) s₁) s₁) r) s)
  (n:Nat) (h:I n s):codeAny (model X.L.prog X.L.w) X.A c R s:=by
 refine codeAny_loop hq I (λn s hI=>?_) n h
 rw[hu,hd]
 refine wpAny_noted ?_
 refine zS (Ď (zS ((turn n s hI).any λr s₁ h₁=>?_)))
 cases r with
 | none=>exact zW h₁
 | some v=>exact zS (Wp.any h₁ λ_ s₁' h₁'=>zS (Wp.any h₁' λ_ s₂ h₂=>zS (Wp.any h₂ λok s₃ h₃=>by
   cases ok with
   | false=>exact zW ⟨rfl,h₃⟩
   | true=>exact Wp.any h₃ λfin s₅ h₅=>by obtain⟨rfl,h₅⟩:=h₅;exact⟨rfl,h₅⟩)))
end
def US{env:Env}(names:List (Str×ō)) :∀(acc:List (Str×É)),(∀p∈names,p.2 = .free->∃c,env.cells.lookup p.1=some c)->
  ∃cl:List (Str×É),(forIn names acc λ(x:Str×ō) (r:List (Str×É))=>(match x with | (name,kind)=>if(kind==é)=true then do let a<-cellOf env name;pure (Ľ ((name,a)::r))else pure (Ľ r):Sem _))=pure cl/\
   (∀x c,cl.lookup x=some c->acc.lookup x=some c\/(x,é)∈names/\env.cells.lookup x=some c)/\∀x,(x,é)∈names\/acc.lookup x≠none->cl.lookup x≠none:=
 Ä (motive:=λnames=>∀(acc:List (Str×É)),(∀p∈names,p.2 = .free->∃c,env.cells.lookup p.1=some c)->
  ∃cl:List (Str×É),(forIn names acc λ(x:Str×ō) (r:List (Str×É))=>(match x with | (name,kind)=>if(kind==é)=true then do let a<-cellOf env name;pure (Ľ ((name,a)::r))else pure (Ľ r):Sem _))=pure cl/\
   (∀x c,cl.lookup x=some c->acc.lookup x=some c\/(x,é)∈names/\env.cells.lookup x=some c)/\∀x,(x,é)∈names\/acc.lookup x≠none->cl.lookup x≠none)
  (λacc _=>⟨acc,rfl,λx c e=>.inl e,λx h=>h.elim (λz=>nomatch z) id⟩) (λp r ih acc h=>by
   obtain⟨n,k⟩:=p
   rw[List.forIn_cons]
   have step :∀acc',(∀x c,acc'.lookup x=some c->acc.lookup x=some c\/(x,é)∈(n,k)::r/\env.cells.lookup x=some c)->(∀x,x=n/\k = .free\/acc.lookup x≠none->acc'.lookup x≠none)->∀{t:Sem (List (Str×É))},(t=forIn r acc' λ(x:Str×ō) (r:List (Str×É))=>(match x with | (name,kind)=>if(kind==é)=true then do let a<-cellOf env name;pure (Ľ ((name,a)::r))else pure (Ľ r):Sem _))->∃cl:List (Str×É),t=pure cl/\(∀x c,cl.lookup x=some c->acc.lookup x=some c\/(x,é)∈(n,k)::r/\env.cells.lookup x=some c)/\∀x,(x,é)∈(n,k)::r\/acc.lookup x≠none->cl.lookup x≠none:=λacc' h1 h2 t ht=>
    (ih acc' λp hp=>h p (À _ hp)).imp λcl q=>⟨ht.trans q.1,λx c e=>(q.2.1 x c e).elim (h1 x c) λz=>.inr ⟨À _ z.1,z.2⟩,λx z=>q.2.2 x (z.elim (λz=>(È.mp z).elim (λe=>.inr (h2 x (.inl (by cases e;exact⟨rfl,rfl⟩)))) .inl) λz=>.inr (h2 x (.inr z)))⟩
   cases hk:k==é with
   | false=>exact step acc (λx c=>.inl) (λx z=>z.elim (λz=>absurd (beq_iff_eq.mpr z.2) (Bool.eq_false_iff.mp hk)) id) (by dsimp only;rw[hk];rfl)
   | true=>
    have hk':=å hk
    obtain⟨c,hc⟩:=h (n,k) (z8 ..) hk'
    have e1 :∀x,aJ8 x ((n,c)::acc)=bif x==n then some c else acc.lookup x:=λx=>AU x (n,c) acc
    refine step ((n,c)::acc) (λx c' e=>?_) (λx z=>?_) (by dsimp only;rw[hk,if_pos rfl];unfold cellOf;rw[hc];rfl)
    ·rw[e1]at e
     cases hx:x==n with
     | true=>rw[hx]at e;exact .inr ⟨by rw[å hx,hk'];exact z8 ..,by rw[å hx];exact hc.trans e⟩
     | false=>rw[hx]at e;exact .inl e
    ·rw[e1]
     cases hx:x==n with
     | true=>exact λz=>nomatch z
     | false=>exact z.elim (λz=>absurd z.1 (ne_of_beq_false hx)) id) names
def Um{env:Env}{cs:Scope}(h :∀p∈cs.names,p.2 = .free->∃c,env.cells.lookup p.1=some c) :∃cl:List (Str×É),closureFor cs env=pure cl/\(∀x c,cl.lookup x=some c->(x,é)∈cs.names/\env.cells.lookup x=some c)/\∀x,(x,é)∈cs.names->cl.lookup x≠none:=
 (US cs.names [] h).imp λcl q=>⟨(congrArg (λt:Sem (List (Str×É))=>t >>= λr=>pure r) q.1).trans rfl,λx c e=>(q.2.1 x c e).elim (λz=>nomatch z) id,λx z=>q.2.2 x (.inl z)⟩
def Jl{α:Type}{b:Bool}{o:Option α}{a:α}(e:(bif b then o else none)=some a):b=true/\o=some a:=by
 cases b with
 | true=>exact⟨rfl,e⟩
 | false=>exact AA e
section
variable{X:Cx}{P:Pm}{d:Nat}{fN st fM cm fI:É}{sc:Scope}{W:Ws}(F:He X P d fN st fM cm fI sc)(S:LD X W)
def IX{i:Expr}{b:Bi}(e:Rw P sc i=some b){R:Expr->List Expr->Prop}(f :∀x px as p,Ar x=true->Bh as=true->sc.names.lookup x=some .globalImplicit->P.gl x=some (.fn b)->R (.Call (.Name x px) as [] p) as):R i (Ai i).2.1:=by
 obtain⟨hc,e⟩:=Jl e
 obtain⟨hc,h5⟩:=AN hc
 obtain⟨hc,h4⟩:=AN hc
 obtain⟨hc,h3⟩:=AN hc
 obtain⟨h1,h2⟩:=AN hc
 obtain⟨k,e1,e⟩:=bind_some e
 obtain⟨e2,e⟩:=Jl e
 obtain⟨v,e3,e4⟩:=bind_some e
 have e5:P.gl (BC (Ai i).1)=some (.fn b):=GM (P:=λv=>P.gl (BC (Ai i).1)=some v->P.gl (BC (Ai i).1)=some (.fn b)) e4 id e3
 have e6:sc.names.lookup (BC (Ai i).1)=some .globalImplicit:=ō.globalImplicit.elim (motive:=λk=>sc.names.lookup (BC (Ai i).1)=some k->sc.names.lookup (BC (Ai i).1)=some .globalImplicit) k (Å e2) id e1
 clear e1 e2 e3 e4 e hc
 refine Expr.Call.elim (motive_1:=λi=>ix (Ai i).1 23=true->Ft (Ai i).2.2.1=true->Bh (Ai i).2.1=true->Ar (BC (Ai i).1)=true->P.gl (BC (Ai i).1)=some (.fn b)->sc.names.lookup (BC (Ai i).1)=some .globalImplicit->R i (Ai i).2.1) i (Å h1) (λg as ks p h2 h3 h4 h5 e5 e6=>?_) h2 h3 h4 h5 e5 e6
 refine FU (P:=λks=>R (.Call g as ks p) as) h3 ?_
 exact Expr.Name.elim (motive_1:=λg=>Ar (BC g)=true->P.gl (BC g)=some (.fn b)->sc.names.lookup (BC g)=some .globalImplicit->R (.Call g as [] p) as) g (Å h2) (λx px h5 e5 e6=>f x px as p h5 h4 e6 e5) h5 e5 e6
include F S
theorem I1{t i:Expr}{σ:St}{K:List AV->St->Prop}(h:Fs P sc W t i σ K){G:Gh}{s:zY}(R:RS X ⟨G,σ,s⟩):Wp X (eval i X.env) (λv s₁=>Wp X (pyIter v) (λiv s₂=>Cm X t ⟨G,σ,s⟩ K iv s₂) s₁) s:=by
 have plain:Xd W i σ K->Wp X (eval i X.env) (λv s₁=>Wp X (pyIter v) (λiv s₂=>Cm X t ⟨G,σ,s⟩ K iv s₂) s₁) s:=λh=>(S.E i σ _ h).go (c:=⟨G,σ,s⟩) R λv c₁ vv h₁ x₁ r₁=>
  Az h₁ (λh₁=>AD h₁ λes e h=>(YT F.A.1 h t x₁.R (Pe (P:=λv=>VR X c₁ v vv->VR X c₁ (.dct es) vv) e id r₁)).mono λ_ _ q=>q.up x₁) λvs e h=>(ZX F.A.1 e h.1 h.2 t x₁.R r₁).mono λ_ _ q=>q.up x₁
 refine Az h plain λb e h=>?_
 cases h1:Ù b.ctorIdx 1 with
 | true=>
  rw[h1]at h
  obtain rfl:b = .range:=Bi.range.elim (motive:=λb=>b = .range) b (Å h1) rfl
  exact IX e (R:=λi as=>Hm W.E as σ (λvs σ=>MC vs σ K)->Wp X (eval i X.env) (λv s₁=>Wp X (pyIter v) (λiv s₂=>Cm X t ⟨G,σ,s⟩ K iv s₂) s₁) s) (λx px as p n1 n2 n3 n4 h=>Ms F (c:=⟨G,σ,s⟩) n1 n3 n4 n2 R ((IT S as h).go (c:=⟨G,σ,s⟩) R λvs c₁ us h₁ x₁ r₁=>(UT F.A.1 h₁.2 t x₁.R r₁).mono λ_ _ q=>q.mono λ_ _ q=>q.up x₁)) h
 | false=>
  rw[h1]at h
  cases h3:Ù b.ctorIdx 3 with
  | true=>
   rw[h3]at h
   obtain rfl:b = .enumerate:=Bi.enumerate.elim (motive:=λb=>b = .enumerate) b (Å h3) rfl
   exact IX e (R:=λi as=>Hm W.E as σ (λvs σ=>Rm t vs σ K)->Wp X (eval i X.env) (λv s₁=>Wp X (pyIter v) (λiv s₂=>Cm X t ⟨G,σ,s⟩ K iv s₂) s₁) s) (λx px as p n1 n2 n3 n4 h=>Ms F (c:=⟨G,σ,s⟩) n1 n3 n4 n2 R ((IT S as h).go (c:=⟨G,σ,s⟩) R λvs c₁ us h₁ x₁ r₁=>(XC F.A.1 h₁.2 x₁.R r₁).mono λ_ _ q=>q.mono λ_ _ q=>q.up x₁)) h
  | false=>rw[h3]at h;exact plain h
end
def Mk{k k':ō}:Ù k.ctorIdx k'.ctorIdx=true->k=k':=by
 cases k<;>cases k'<;>first | exact λ_=>rfl | exact λh=>nomatch h
def Ip{o:Option ō}(k':ō)(h:isK o k'.ctorIdx=true):o=some k':=by
 cases o with
 | none=>cases h
 | some k=>exact congrArg some (Mk h)
def HO{α:Type}{x:Str}{k:α}{l:List (Str×α)}:l.lookup x=some k->(x,k)∈l:=
 Ä (motive:=λl=>l.lookup x=some k->(x,k)∈l) AA (λp r ih e=>by
  rw[AU]at e
  cases h:x==p.1 with
  | true=>rw[h]at e;rw[å h,<-zR e];exact z8 ..
  | false=>rw[h]at e;exact À _ (ih e)) l
def Oz{sc cs:Scope}{ps:List (Str×ō)}:Iq sc cs ps=true->∀p∈ps,p.2≠.cell/\(p.2 = .local->cs.names.lookup p.1=some .local)/\(p.2 = .free->cs.names.lookup p.1=some .free/\(sc.names.lookup p.1=some .cell\/sc.names.lookup p.1=some .free)):=
 Ä (motive:=λps=>Iq sc cs ps=true->∀p∈ps,p.2≠.cell/\(p.2 = .local->cs.names.lookup p.1=some .local)/\(p.2 = .free->cs.names.lookup p.1=some .free/\(sc.names.lookup p.1=some .cell\/sc.names.lookup p.1=some .free)))
  (λ_ p hp=>nomatch hp) (λp r ih h q hq=>(È.mp hq).elim (λz=>by
   subst z
   have h:=(AN h).1
   obtain⟨n,k⟩:=q
   cases k with
   | «local»=>exact⟨λz=>(nomatch z),λ_=>Ip .local h,λz=>nomatch z⟩
   | cell=>cases h
   | free=>exact⟨λz=>(nomatch z),λz=>(nomatch z),λ_=>⟨Ip .free (AN h).1,(aE7.mp (AN h).2).imp (Ip .cell) (Ip .free)⟩⟩
   | _=>exact⟨λz=>(nomatch z),λz=>(nomatch z),λz=>nomatch z⟩) λz=>ih (AN h).2 q z) ps
def Eb{sc:Scope}{names:List (Str×ō)}{x:Str}{k:ō}:(names.map λ(n,k)=>if(k==é&&sc.kind == .function&&sc.names.lookup n==some .cell)then(n,Ū)else(n,k)).lookup x=some k->names.lookup x=some k\/k = .cell/\names.lookup x=some .free:=
 Ä (motive:=λnames=>(names.map λ(n,k)=>if(k==é&&sc.kind == .function&&sc.names.lookup n==some .cell)then(n,Ū)else(n,k)).lookup x=some k->names.lookup x=some k\/k = .cell/\names.lookup x=some .free) .inl (λp r ih e=>by
  obtain⟨n,j⟩:=p
  rw[Ć]at e
  have go :∀j',(j'=j\/j' = .cell/\j = .free)->((n,j')::(r.map λ(n,k)=>if(k==é&&sc.kind == .function&&sc.names.lookup n==some .cell)then(n,Ū)else(n,k))).lookup x=some k->aJ8 x ((n,j)::r)=some k\/k = .cell/\aJ8 x ((n,j)::r)=some .free:=λj' hj e=>by
   rw[AU]at e
   rw[AU]
   cases h:x==n with
   | true=>
    rw[h]at e
    have e:some j'=some k:=e
    exact hj.imp (λz=>congrArg some (z.symm.trans (zR e))) λz=>⟨(zR e).symm.trans z.1,congrArg some z.2⟩
   | false=>rw[h]at e;exact ih e
  cases hc:(j==é&&sc.kind == .function&&sc.names.lookup n==some .cell)with
  | true=>exact go .cell (.inr ⟨rfl,å (AN (AN hc).1).1⟩) (by dsimp only at e;rw[hc]at e;exact e)
  | false=>exact go j (.inl rfl) (by dsimp only at e;rw[hc]at e;exact e)) names
def TQ{ρ:List (Str×AV)}{x:Str}{v:AV}{xs:List Str}:(pick ρ xs).lookup x=some v->x∈xs/\ρ.lookup x=some v:=
 Ä (motive:=λxs=>(pick ρ xs).lookup x=some v->x∈xs/\ρ.lookup x=some v) AA (λy r ih e=>by
  have e:aJ8 x (Ö (pick ρ r) (λv=>(y,v)::pick ρ r) (ρ.lookup y))=some v:=e
  have mo:x∈r/\ρ.lookup x=some v->x∈y::r/\ρ.lookup x=some v:=λq=>⟨À _ q.1,q.2⟩
  cases h:ρ.lookup y with
  | none=>rw[h]at e;exact mo (ih e)
  | some u=>
   rw[h]at e
   have e:=(AU x (y,u) _).symm.trans e
   cases hx:x==y with
   | true=>rw[hx]at e;rw[å hx];exact⟨z8 ..,h.trans e⟩
   | false=>rw[hx]at e;exact mo (ih e)) xs
def IB{x:Str}{ns:List (Str×ō)}:(x,é)∈ns↔x∈(Ä [] (λp _ ih=>bif Ù p.2.ctorIdx 2 then p.1::ih else ih) ns:List Str):=
 Ä (motive:=λns=>(x,é)∈ns↔x∈(Ä [] (λp _ ih=>bif Ù p.2.ctorIdx 2 then p.1::ih else ih) ns:List Str)) ⟨λh=>(nomatch h),λh=>(nomatch h)⟩ (λp r ih=>by
  obtain⟨n,k⟩:=p
  show _↔x∈(bif Ù k.ctorIdx é.ctorIdx then n::_ else _)
  cases h:Ù k.ctorIdx é.ctorIdx with
  | true=>rw[Mk h];exact⟨λz=>(È.mp z).elim (λz=>by cases z;exact z8 ..) λz=>À _ (ih.mp z),λz=>(È.mp z).elim (λz=>by rw[z];exact z8 ..) λz=>À _ (ih.mpr z)⟩
  | false=>exact⟨λz=>(È.mp z).elim (λz=>by cases z;cases h) ih.mp,λz=>À _ (ih.mpr z)⟩) ns
def Np{τ σ:St}{x:Str}{xs:List Str}:F1 τ σ xs->x∈xs->τ.ρ.lookup x=σ.ρ.lookup x:=
 Ä (motive:=λxs=>F1 τ σ xs->x∈xs->τ.ρ.lookup x=σ.ρ.lookup x) (λ_ h=>nomatch h) (λy r ih h q=>(È.mp q).elim (λz=>z▸h.1) (ih h.2)) xs
def He.comp{X:Cx}{P:Pm}{d:Nat}{fN st fM cm fI:É}{sc cs:Scope}{cl:List (Str×É)}{C:É}(F:He X P d fN st fM cm fI sc)(h:cs.kind = .function):He {X with env:=compEnvC cs cl C X.env} P d fN st fM cm fI (BN cs sc):=
 ⟨F.w,F.A,F.glb,F.bui,F.hsc▸rfl,h⟩
inductive qE(X:Cx)(c c₃:Cf)(env':Env)(cl:List (Str×É))(N:Nat)(J:Nat->St->Prop)(It:Nat->Gh->æ->Prop)(m:Nat)(s':zY):Prop
 | mk (i:Nat) (G:Gh) (σ:St) (hi:i+m=N) (R:RS {X with env:=env'} ⟨G,σ,s'⟩) (j:J i σ) (st:It i G s'.heap) (k:Kp c.G c.s.heap G s'.heap) (nm:Nm c₃.σ.n c₃.G G) (n:c₃.σ.n<=σ.n)
  (lk :∀a,(c₃.G.cmp c₃.s.heap.objs.size cl).tag a=some .lock->G.tag a=some .lock) (kp :∀a o,c.s.heap.get? a=some o->(c₃.G.cmp c₃.s.heap.objs.size cl).tag a=some .lock->s'.heap.get? a=some o)
def CX.letC{X:Cx}{c c':Cf}{C:É}(x:CX X c c')(t:c'.G.tag C=some .lock)(h1:X.hs.objs.size<=C)(h2:c.s.heap.objs.size<=C){h':æ}(hb:ÿ C c'.s.heap h'):CX X c (c'.hp c'.σ h' c'.s.toks)/\Dr c' (c'.hp c'.σ h' c'.s.toks):=by
 have k :∀a o,a∉[C]->c'.s.heap.get? a=some o->h'.get? a=some o:=λa o n e=>hb.extBut a o (Rk n) e
 have q:=x.R.lockAt (t:=c'.s.toks) (wr:=[C]) (λb hb=>z9.mp hb▸⟨t,h1⟩) k (Â hb.1.symm)
 exact⟨⟨⟨λa o e z=>k a o (λhm=>CP e (z9.mp hm▸h2)) (x.kp.keep a o e z),x.kp.own,x.kp.mt,hb.1.symm▸x.kp.size,x.kp.lock⟩,x.pre.trans q.1,q.2⟩,q.1⟩
def Rq{X:Cx}{W:Ws}(S:LD X W){ifs:List Expr}{c:Cf}{K:Bool->St->Prop}(h:Ux W.B ifs c.σ K)(R:RS X c):Wp X (LU ifs X.env) (AX X KI c K) c.s:=by
 cases ifs with
 | nil=>exact wpAny_tests_nil (.here (b:=true) R rfl h)
 | cons e r=>
  cases r with
  | nil=>exact wpAny_tests_one (S.B e c.σ K h c.G c.s R)
  | cons=>exact h.elim
section
variable{X:Cx}{P:Pm}{d:Nat}{fN st fM cm fI:É}{sc:Scope}{Wc:Scope->Ws}(F:He X P d fN st fM cm fI sc)(H :∀X' sc',He X' P d fN st fM cm fI sc'->LD X' (Wc sc'))
include F H
theorem Rv{e:Expr}{tg iter:Expr}{ifs:List Expr}{asy:Int}{r:List à}{cs:Scope}{p:Pos}{o:AO}{ob:Obj}{newAcc:Sem Value}{rest:Nat->St->(St->Prop)->Prop}{bodyF:Env->Value->Value->Sem Fin}
  {σ:St} {Q:AV->St->Prop} {Qf:Value->zY->Prop} {use:Option (Value->Sem Unit)} {G:Gh} {s:zY}
  (h:EK (JN sc cs ⟨tg,iter,ifs,asy⟩) (Fs P sc (Wc sc) tg iter σ λitems σ=>Aj o items (DT (Wc (BN cs sc)) ⟨tg,iter,ifs,asy⟩ (rest σ.n)) (Ah cs) σ Q)) (R:RS X ⟨G,σ,s⟩)
  (hcl:clausesOf e=⟨tg,iter,ifs,asy⟩::r)
  (hnew :∀{Q:Value->zY->Prop} {s:zY},Q (.ref s.heap.objs.size) {s with heap:=s.heap.push ob}->Wp X newAcc Q s)
  (hal :∀c,RS X c->CX X c (c.add o ob c.s.toks))
  (hq :∀env it acc,(aN4.compLoop e 0 it acc env).quiet=true/\X.A.under (.compLoop e 0 it acc env)=X.A)
  (hd:asy=0->∀env it D,(model X.L.prog X.L.w).den (.compLoop e 0 it (.ref D) env)=(Bu tg ifs iter.pos it env (bodyF env it (.ref D)) (.compLoop e 0 it (.ref D) env)).onRaise (λx=>do noteFrame x env;theTreesLotGoes x))
  (hst:asy=0->∀{env it acc} {R:aG5->zY->Prop} {s:zY},codeAny (model X.L.prog X.L.w) X.A (.compLoop e 0 it acc env) R s->Wp X (pyIter it) (λit' s'=>codeAny (model X.L.prog X.L.w) X.A (.compLoop e 0 it' acc env) R s') s->codeAny (model X.L.prog X.L.w) X.A (.compStart e 0 it acc env) R s)
  (hb :∀cl C it (c':Cf) n D K,cs.kind = .function->rest n c'.σ K->RS {X with env:=compEnvC cs cl C X.env} c'->c'.G.μ n=D->n<c'.σ.n->Wp {X with env:=compEnvC cs cl C X.env} (bodyF (compEnvC cs cl C X.env) it (.ref D)) (λfin s₅=>fin = .again (.compLoop e 0 it (.ref D) (compEnvC cs cl C X.env))/\AX {X with env:=compEnvC cs cl C X.env} (α:=Unit) (β:=Unit) Iv c' (λ_=>K) () s₅) c'.s)
  (fin :∀c a v C mc,CX X ⟨G,σ,s⟩ c->VR X c a v->Q a c.σ->c.G.tag C=some .lock->X.hs.objs.size<=C->s.heap.objs.size<=C->c.s.heap.Ns C mc->compPost (model X.L.prog X.L.w) X.A (λ_ _=>False) use Qf v C (.ok .next) c.s) :
  Wp X (comprehension e cs X.env p newAcc false (eval iter X.env) use) Qf s:=by
 obtain⟨hc,h⟩:=A6 h
 obtain⟨hc,c5⟩:=AN hc
 obtain⟨hc,c3⟩:=AN hc
 obtain⟨c1,c2⟩:=AN hc
 obtain rfl:asy=0:=å c5
 have hk:cs.kind = .function:=å c1
 have hn:=Oz c2
 have hset :∀x,foldedSetIterable iter X.env x=pure x:=by
  clear h hd hb hst
  have c3:=Dj c3
  cases iter with
  | Set=>cases c3
  | _=>exact λ_=>rfl
 have hko:=D8 F
 have hcells :∀q∈cs.names,q.2 = .free->∃c,X.env.cells.lookup q.1=some c:=λq hq e=>by
  cases hl:X.env.cells.lookup q.1 with
  | some c=>exact⟨c,rfl⟩
  | none=>exact(R.celAll q.1 (hko q.1▸((hn q hq).2.2 e).2) hl).elim
 obtain⟨cl,e1,e2,e3⟩:=Um hcells
 refine wpAny_comprehension_free (use:=use) hcl hset e1 hk (λq hq=>(hn q hq).2.1) ((I1 F (H X sc F) h R).mono λv s₁ h₁=>Wp.mono h₁ λit s₂ hit=>?_)
 cases hit with
 | mk c₁ x I wr items It G₂ e okA self st0 hwr y up hcl=>
 subst e
 obtain⟨J,j0,jt,je⟩:=hcl
 refine hnew ?_
 have x₃:CX X ⟨G₂,c₁.σ,s₂⟩ (Cf.add ⟨G₂,c₁.σ,s₂⟩ o ob s₂.toks):=hal _ y.R
 generalize hc3:Cf.add ⟨G₂,c₁.σ,s₂⟩ o ob s₂.toks=c₃ at x₃
 have hs3:({s₂ with heap:=s₂.heap.push ob}:zY)=c₃.s:=hc3▸rfl
 have hn3:c₃.σ.n=c₁.σ.n+1:=hc3▸rfl
 have hm3:c₃.G.μ c₁.σ.n=s₂.heap.objs.size:=hc3▸Gh.name_mu
 have hσ3:c₃.σ=c₁.σ.new o:=hc3▸rfl
 have up3 :∀a o,s₂.heap.get? a=some o->c₃.s.heap.get? a=some o:=λa o e=>hc3▸Ã _ e
 show wpAny _ _ _ _ _ {s₂ with heap:=s₂.heap.push ob}
 rw[hs3]
 refine wpAny_newFunctionEnv (λq hq=>(hn q hq).1) (λ_ h=>nomatch h) (λh' hns hsb=>?_) hk
 have kk :∀a o,c₃.s.heap.get? a=some o->h'.get? a=some o:=λa o e=>hsb.extBut a o (ß (ğ e)) (Ã _ e)
 have sz:c₃.s.heap.objs.size<h'.objs.size:=hsb.1.symm▸ä ..▸Ê _
 have hkl :∀x,(compEnvC cs cl c₃.s.heap.objs.size X.env).kindOf x=(BN cs sc).names.lookup x:=λx=>F.hsc▸rfl
 have hcf :∀x,(x,é)∈cs.names->(compEnvC cs cl c₃.s.heap.objs.size X.env).kindOf x≠some .local/\X.env.kindOf x≠some .local:=λx hx=>by
  have q:=(hn _ hx).2.2 rfl
  exact⟨λz=>(Eb ((hkl x).symm.trans z)).elim (λz=>nomatch z.symm.trans q.1) (λz=>nomatch z.1),λz=>q.2.elim (λw=>nomatch w.symm.trans ((hko x).symm.trans z)) λw=>nomatch w.symm.trans ((hko x).symm.trans z)⟩
 obtain⟨R₄,k₄,p₄⟩:=x₃.R.enter (env':=compEnvC cs cl c₃.s.heap.objs.size X.env) (cl:=cl) (t:=c₃.s.toks) (ρc:=pick c₁.σ.ρ (Ah cs)) rfl rfl hns kk sz (λx a e=>(e2 x a e).2) (λx hx hl=>by
  have:(x,é)∈cs.names:=hx.elim (λz=>(Eb ((hkl x).symm.trans z)).elim (λz=>absurd rfl (hn _ (HO z)).1) λz=>HO z.2) λz=>(Eb ((hkl x).symm.trans z)).elim HO λz=>nomatch z.1
  exact e3 x this hl) (λx av e=>have q:=TQ e;have z:=hcf x (IB.mpr q.1);⟨hσ3▸q.2,z.2,z.1⟩)
 have yk:=y.kp.trans x₃.kp
 have okC:=okA (compEnvC cs cl c₃.s.heap.objs.size X.env)
 have SC:=H _ _ (F.comp (cl:=cl) (C:=c₃.s.heap.objs.size) hk)
 have loop:codeAny (model X.L.prog X.L.w) X.A (.compLoop e 0 (.ref I) (.ref s₂.heap.objs.size) (compEnvC cs cl c₃.s.heap.objs.size X.env))
   (compPost (model X.L.prog X.L.w) X.A (λ_ _=>False) use Qf (.ref s₂.heap.objs.size) c₃.s.heap.objs.size) {c₃.s with heap:=h',toks:=c₃.s.toks}:=by
  refine G7 (hq _ _ _).1 (hq _ _ _).2 (hd rfl _ _ _) (qE X c₁ c₃ (compEnvC cs cl c₃.s.heap.objs.size X.env) cl items.length J It) (λm s' hI=>?_) items.length
   ⟨0,_,_,ĩ _,R₄,hσ3▸j0,(okA X.env).frame _ _ _ _ _ ((okA X.env).frame _ _ _ _ _ st0 x₃.kp) k₄,yk.trans k₄,λ_ _=>⟨rfl,rfl⟩,zX _,λ_ e=>e,λa o e _=>kk a o (up3 a o (up a o e))⟩
  cases hI with
  | mk i G' σ' hi R' hj hst k nm hn' lk kp=>
  have nw :∀{a o},c₁.s.heap.get? a=some o->a∉wr:=λe hm=>CP e (hwr _ hm)
  have stepK :∀{s'':zY},dO wr s'.heap s''.heap->Kp c₁.G c₁.s.heap G' s''.heap:=λhs=>⟨λa o e q=>hs.1 a o (nw e) (k.keep a o e q),k.own,k.mt,zP k.size hs.2,k.lock⟩
  have hlt:c₁.σ.n<σ'.n:=zZ (Â hn3.symm) hn'
  cases m with
  | zero=>
   obtain rfl:i=items.length:=hi
   refine Wp.mono (X:=X) (okC.done ⟨G',σ',s'⟩ R' hst) λr s₅ hr=>?_
   obtain⟨rfl,R₅,hs⟩:=hr
   refine R₅.loc.casesOn λmc hmc _=>?_
   have q:=je σ' hj
   have nm1:Nm c₁.σ.n c₁.G G':=λz hz=>have w:=nm z (hn3.symm▸ã hz);have w2:=(y.pre.trans x₃.pre).nm z hz;⟨w.1.trans w2.1,w.2.trans w2.2⟩
   have lv:=RS.leave (X:=X) (c:=c₃) (cb:=c₁) (ci:=⟨G',σ',s₅⟩) (cl:=cl) (t:=s₅.toks) x.R x₃.R yk R₅ (stepK hs) lk (λa o e z=>hs.1 a o (nw e) (kp a o e z)) rfl rfl nm1 (Û hlt) (λx a e av h1 h2=>have z:=(e2 x a e).1;⟨(Np q.1 (IB.mp z)).trans h1,(hcf x z).1⟩) ⟨rfl,λ_ _=>rfl⟩
   exact fin _ (.ref c₁.σ.n) _ c₃.s.heap.objs.size mc (x.trans lv) (aH5 (congrArg _ (hm3.symm.trans (nm c₁.σ.n (hn3.symm▸Ê _)).1.symm)) hlt) q.2 (congrArg (cond · (some AQ.lock) _) (beq_self_eq_true _)) x₃.R.size (zP x.kp.size yk.size) hmc
  | succ m=>
   refine Wp.mono (X:=X) (okC.item i ⟨G',σ',s'⟩ R' (hi▸Þ (Ň m)) hst) λr s₃ hr=>?_
   obtain⟨u,rfl,hgo⟩:=hr
   refine Wp.mono (X:=X) hgo λ_ s₄ hx=>?_
   cases hx with
   | mk av hav hvr R₄' st₄ hs=>
   have turned :∀c₇:Cf,CX {X with env:=compEnvC cs cl c₃.s.heap.objs.size X.env} ⟨G',σ',s₄⟩ c₇->J (i+1) c₇.σ->∃m',m'<m+1/\qE X c₁ c₃ (compEnvC cs cl c₃.s.heap.objs.size X.env) cl items.length J It m' c₇.s:=λc₇ z q₇=>
    ⟨m,Ê m,i+1,c₇.G,c₇.σ,(ĥ i 1 m).trans hi,z.R,q₇,(okA X.env).frame _ _ _ _ _ st₄ z.kp,(stepK hs).trans z.kp,λw hw=>have a:=z.pre.nm w (zZ hw hn');have b:=nm w hw;⟨a.1.trans b.1,a.2.trans b.2⟩,zP hn' z.pre.n,λa e=>z.kp.lock a (lk a e),λa o e q=>z.kp.lk (lk a q) o (hs.1 a o (nw e) (kp a o e q))⟩
   refine Wp.mono (X:=X) (SC.A tg av ⟨G',σ',s₄⟩ _ (jt i av σ' hav hj) R₄' hvr) λ_ s₅ q=>?_
   cases q with
   | mk G₅ σ₅ _ x₅ _ q₅=>
   refine Wp.mono (X:=X) (Rq SC (c:=⟨G₅,σ₅,s₅⟩) q₅ x₅.R) λb s₆ q=>?_
   cases q with
   | mk G₆ σ₆ b' x₆ e₆ q₆=>
   cases e₆
   have x56:=x₅.trans x₆
   cases b with
   | false=>exact turned ⟨G₆,σ₆,s₆⟩ x56 q₆
   | true=>
    have hμ:G₆.μ c₁.σ.n=s₂.heap.objs.size:=(x56.pre.nm c₁.σ.n hlt).1.trans ((nm c₁.σ.n (hn3.symm▸Ê _)).1.trans hm3)
    refine Wp.mono (X:=X) (hb cl c₃.s.heap.objs.size (.ref I) ⟨G₆,σ₆,s₆⟩ c₁.σ.n _ _ hk q₆ x₆.R hμ (zZ hlt x56.pre.n)) λfin s₇ q=>?_
    obtain⟨e₇,q⟩:=q
    cases q with
    | mk G₇ σ₇ _ x₇ _ q₇=>exact⟨e₇,turned ⟨G₇,σ₇,s₇⟩ (x56.trans x₇) q₇⟩
 exact hst rfl loop (Wp.any (self 0 _ {c₃.s with heap:=h',toks:=c₃.s.toks} (λv s'=>v = .ref I/\s' = {c₃.s with heap:=h',toks:=c₃.s.toks}) ((okA X.env).frame _ _ _ _ _ ((okA X.env).frame _ _ _ _ _ st0 x₃.kp) k₄) ⟨rfl,rfl⟩) λv s' q=>by obtain⟨rfl,rfl⟩:=q;exact loop)
end
abbrev Dy(X:Cx)(c':Cf)(K:St->Prop)(c:aN4):Fin->zY->Prop:=λfin s₅=>fin = .again c/\AX X (α:=Unit) (β:=Unit) Iv c' (λ_=>K) () s₅
section
variable{X:Cx}{W:Ws}(S:LD X W){n:Nat}{D:É}{c':Cf}{K:St->Prop}{c:aN4}
include S
theorem VH{elt:Expr}(h:LC elt W n c'.σ K)(R:RS X c')(hμ:c'.G.μ n=D)(hlt:n<c'.σ.n):Wp X (N9 elt X.env (.ref D) >>= λ_=>again c) (Dy X c' K c) c'.s:=by
 refine Wp.bind (Wp.bind ((S.E elt c'.σ _ h).go R λu c₆ vu h₆ x₆ r₆=>?_))
 have hμ':c₆.G.μ n=D:=(x₆.pre.nm n hlt).1.trans hμ
 refine Wp.bind (Wp.mono (L9 (b:=.append) h₆ x₆.R (vas:=[.ref D,vu]) ⟨_,_,rfl,⟨congrArg _ hμ'.symm,zZ hlt x₆.pre.n⟩,_,_,rfl,r₆,rfl⟩) λ_ s₇ q=>?_)
 cases q with
 | mk G₇ σ₇ _ x₇ _ q₇=>exact Wp.pure (Wp.pure ⟨rfl,.to (c':=⟨G₇,σ₇,s₇⟩) (b:=()) (x₆.trans x₇) trivial q₇⟩)
theorem Zm{kx vx:Expr}(h:aJ kx vx W n c'.σ K)(R:RS X c')(hμ:c'.G.μ n=D)(hlt:n<c'.σ.n):Wp X (Ue kx vx X.env D >>= λ_=>again c) (Dy X c' K c) c'.s:=by
 refine Wp.bind (Wp.bind ((S.E kx c'.σ _ h).go R λa c₁ va h₁ x₁ r₁=>Wp.bind (Wp.hold ((S.E vx c₁.σ _ h₁).go x₁.R λv c₂ vv h₂ x₂ r₂=>Wp.bind (Ď (Wp.hold ?_))))))
 have x:=x₁.trans x₂
 have hμ':c₂.G.μ n=D:=(x.pre.nm n hlt).1.trans hμ
 have rD:VR X c₂ (.ref n) (.ref D):=⟨congrArg _ hμ'.symm,zZ hlt x.pre.n⟩
 refine HE (P:=λu=>u = .ref D->Wp X (dictSet D va vv) (λ_ s=>Wp X (again c) (Dy X c' K c) s) c₂.s) h₂ x₂.R rD (λy es kvs hx p1 p2 hz h e=>?_) rfl
 cases e
 exact AD h λk e h=>wpAny_dictSet_pairs (B6 e (x₂.pre.v r₁)) p1.1 (λh' hd hs=>Wp.pure ⟨rfl,have z:=x₂.R.setDict _ hx hs ⟨hd,p1.2⟩ (p2.dset k r₂);.to (b:=()) (x.trans z) trivial h⟩) hz
end
def CX.step{X:Cx}{c:Cf}{G:Gh}{σ:St}{s' s'':zY}{wr:List É}(x:CX X c ⟨G,σ,s'⟩)(hwr :∀b∈wr,c.s.heap.objs.size<=b)(hs:dO wr s'.heap s''.heap)(R:RS X ⟨G,σ,s''⟩):CX X c ⟨G,σ,s''⟩:=
 have kp:Kp c.G c.s.heap G s''.heap:=⟨λa o e q=>hs.1 a o (λhm=>CP e (hwr a hm)) (x.kp.keep a o e q),x.kp.own,x.kp.mt,zP x.kp.size hs.2,x.kp.lock⟩
 ⟨kp,⟨kp.still,x.pre.nm,x.pre.n⟩,R⟩
def Yc{prog:þ}{w:Ì}{A:đ}{R:aG5->zY->Prop}{s:zY}{elt target iter:Expr}{ifs:List Expr}{g:à}{scope:Scope}{pos:Pos}{it acc:Value}{env:Env}
  (h0:codeAny (model prog w) A (.compLoop (.ListComp elt [g,⟨target,iter,ifs,0⟩] scope pos) 1 it acc env) R s)
  (h:wpAny (model prog w) A (pyIter it) (λit' s'=>codeAny (model prog w) A (.compLoop (.ListComp elt [g,⟨target,iter,ifs,0⟩] scope pos) 1 it' acc env) R s') (notedBy (model prog w) A env λx s'=>R (.error x) s') s) :
  codeAny (model prog w) A (.compStart (.ListComp elt [g,⟨target,iter,ifs,0⟩] scope pos) 1 it acc env) R s:=by
 refine aI8 ?_
 show wpAny _ _ ((compStart (.ListComp elt [g,⟨target,iter,ifs,0⟩] scope pos) 1 it acc env).onRaise (λx=>do noteFrame x env;standAt theWindowsPlace)) _ _ s
 refine wpAny_notedAt ?_
 unfold compStart
 show wpAny _ _ (ask >>= _) _ _ s
 refine zS (aD1 (aO5 ?_))
 split
 ·first
   | exact zS (zW (zW (aH5 rfl h0)))
   | exact zW (aH5 rfl h0)
 ·first
   | exact zS (aF5 (zS (Ď (zS (Ĩ h (λit' s' h'=>zW (aH5 rfl h')) λ_ _ x=>x)))))
   | (refine zS (aF5 ?_);show wpAny _ _ (standAt iter.pos >>= _) _ _ s;exact zS (Ď (zS (Ĩ h (λit' s' h'=>zW (aH5 rfl h')) λ_ _ x=>x))))
inductive p9(X:Cx)(c:Cf)(N:Nat)(J:Nat->St->Prop)(It:Nat->Gh->æ->Prop)(m:Nat)(s':zY):Prop
 | mk (i:Nat) (G:Gh) (σ:St) (hi:i+m=N) (x:CX X c ⟨G,σ,s'⟩) (j:J i σ) (st:It i G s'.heap)
def UJ{X:Cx}{P:Pm}{d:Nat}{fN st fM cm fI:É}{sc:Scope}{W:Ws}(F:He X P d fN st fM cm fI sc)(S:LD X W){elt:Expr}{g:à}{tg iter:Expr}{ifs:List Expr}{asy:Int}{cs:Scope}{p:Pos}{n:Nat}{D:É}{c':Cf}{K:St->Prop}{k:aN4}
  (h:QD P sc W ⟨tg,iter,ifs,asy⟩ (LC elt W n) c'.σ K) (R:RS X c') (hμ:c'.G.μ n=D) (hlt:n<c'.σ.n) :
  Wp X (NF (.ListComp elt [g,⟨tg,iter,ifs,asy⟩] cs p) ⟨tg,iter,ifs,asy⟩ 1 X.env (.ref D) (again k)) (Dy X c' K k) c'.s:=by
 obtain⟨hc,h⟩:=A6 h
 obtain⟨c3,c5⟩:=AN hc
 obtain rfl:asy=0:=å c5
 have hset :∀x,foldedSetIterable iter X.env x=pure x:=by
  clear h
  have c3:=Dj c3
  cases iter with
  | Set=>cases c3
  | _=>exact λ_=>rfl
 refine Wp.bind ((I1 F S h R).mono λv s₁ h₁=>Wp.bind (Ď ?_))
 show Wp X (foldedSetIterable iter X.env v >>= λx=>holding [x] (pyIter x) >>= λit=>runOwn (.compStart (.ListComp elt [g,⟨tg,iter,ifs,0⟩] cs p) 1 it (.ref D) X.env) X.env >>= λ_=>again k) _ s₁
 rw[hset v]
 refine Wp.bind (Wp.pure (Wp.bind (Wp.hold (h₁.mono λit s₂ hit=>?_))))
 cases hit with
 | mk c₁ x I wr items It G₂ e okA self st0 hwr y up hcl=>
 subst e
 obtain⟨J,j0,jt,je⟩:=hcl
 have ok:=okA X.env
 have hwr :∀b∈wr,c'.s.heap.objs.size<=b:=λb hb=>zP x.kp.size (hwr b hb)
 have loop:codeAny (model X.L.prog X.L.w) X.A (.compLoop (.ListComp elt [g,⟨tg,iter,ifs,0⟩] cs p) 1 (.ref I) (.ref D) X.env) (λr s'=>match r with | .ok f=>Wp X (again k) (Dy X c' K k) s' | .error e=>cameBackBy (model X.L.prog X.L.w) X.A X.env (λ_ _=>False) e s') s₂:=by
  refine G7 rfl rfl V3 (p9 X c' items.length J It) (λm s' hI=>?_) items.length ⟨0,_,_,ĩ _,x.trans y,j0,st0⟩
  cases hI with
  | mk i G' σ' hi x' hj hst=>
  cases m with
  | zero=>
   obtain rfl:i=items.length:=hi
   refine Wp.mono (X:=X) (ok.done ⟨G',σ',s'⟩ x'.R hst) λr s₅ hr=>?_
   obtain⟨rfl,R₅,hs⟩:=hr
   exact Wp.pure ⟨rfl,.to (c':=⟨G',σ',s₅⟩) (b:=()) (x'.step hwr hs R₅) trivial (je σ' hj)⟩
  | succ m=>
   refine Wp.mono (X:=X) (ok.item i ⟨G',σ',s'⟩ x'.R (hi▸Þ (Ň m)) hst) λr s₃ hr=>?_
   obtain⟨u,rfl,hgo⟩:=hr
   refine Wp.mono (X:=X) hgo λ_ s₄ hx=>?_
   cases hx with
   | mk av hav hvr R₄ st₄ hs=>
   have x₄:=x'.step hwr hs R₄
   have next :∀c₇:Cf,CX X ⟨G',σ',s₄⟩ c₇->J (i+1) c₇.σ->∃m',m'<m+1/\p9 X c' items.length J It m' c₇.s:=λc₇ z q=>⟨m,Ê m,i+1,c₇.G,c₇.σ,(ĥ i 1 m).trans hi,x₄.trans z,q,ok.frame _ _ _ _ _ st₄ z.kp⟩
   refine Wp.mono (X:=X) (S.A tg av ⟨G',σ',s₄⟩ _ (jt i av σ' hav hj) R₄ hvr) λ_ s₅ q=>?_
   cases q with
   | mk G₅ σ₅ _ x₅ _ q₅=>
   refine Wp.mono (X:=X) (Rq S (c:=⟨G₅,σ₅,s₅⟩) q₅ x₅.R) λb s₆ q=>?_
   cases q with
   | mk G₆ σ₆ b' x₆ e₆ q₆=>
   cases e₆
   have x56:=x₅.trans x₆
   cases b with
   | false=>exact next ⟨G₆,σ₆,s₆⟩ x56 q₆
   | true=>
    have x46:=x₄.trans x56
    refine Wp.mono (X:=X) (VH S (c':=⟨G₆,σ₆,s₆⟩) q₆ x46.R ((x46.pre.nm n hlt).1.trans hμ) (zZ hlt x46.pre.n)) λfin s₇ q=>?_
    obtain⟨e₇,q⟩:=q
    cases q with
    | mk G₇ σ₇ _ x₇ _ q₇=>exact⟨e₇,next ⟨G₇,σ₇,s₇⟩ (x56.trans x₇) q₇⟩
 exact Wp.bind (wpAny_runOwn (Yc loop (Wp.any (self 0 _ s₂ (λv s'=>v = .ref I/\s'=s₂) st0 ⟨rfl,rfl⟩) λv s' q=>by obtain⟨rfl,rfl⟩:=q;exact loop)))
section
variable{X:Cx}{P:Pm}{d:Nat}{fN st fM cm fI:É}{sc:Scope}{Wc:Scope->Ws}(F:He X P d fN st fM cm fI sc)(H :∀X' sc',He X' P d fN st fM cm fI sc'->LD X' (Wc sc'))
include F H
theorem R6(c:Cf)(R:RS X c):CX X c (c.add (.list []) (A1 [] 0) c.s.toks):=R.alloc λp e=>⟨[],⟨(0,none),(congrArg _ e).trans (Î _ rfl)⟩,rfl⟩
theorem SQ{elt:Expr}{gens:List à}{cs:Scope}{p:Pos}{σ:St}{Q:AV->St->Prop}{Qf:Value->zY->Prop}{use:Option (Value->Sem Unit)}{G:Gh}{s:zY}(h:gQ P Wc sc elt gens cs σ Q)(R:RS X ⟨G,σ,s⟩)
  (fin :∀c a v C mc,CX X ⟨G,σ,s⟩ c->VR X c a v->Q a c.σ->c.G.tag C=some .lock->X.hs.objs.size<=C->s.heap.objs.size<=C->c.s.heap.Ns C mc->compPost (model X.L.prog X.L.w) X.A (λ_ _=>False) use Qf v C (.ok .next) c.s) :
  Wp X (comprehension (.ListComp elt gens cs p) cs X.env (firstIterPos gens p) (newList []) (firstAsync gens) (firstIter gens X.env) use) Qf s:=by
 cases gens with
 | nil=>exact h.elim
 | cons g r=>
  obtain⟨tg,iter,ifs,asy⟩:=g
  have h:EK (JN sc cs ⟨tg,iter,ifs,asy⟩) (Fs P sc (Wc sc) tg iter σ λitems σ=>Aj (.list []) items (DT (Wc (BN cs sc)) ⟨tg,iter,ifs,asy⟩ (Ka P (BN cs sc) (Wc (BN cs sc)) (LC elt (Wc (BN cs sc)) σ.n) r)) (Ah cs) σ Q):=h
  obtain rfl:asy=0:=å (AN (A6 h).1).2
  cases r with
  | nil=>
   exact Rv F H (e:=.ListComp elt [⟨tg,iter,ifs,0⟩] cs p) (rest:=λn=>LC elt (Wc (BN cs sc)) n) (bodyF:=λenv it acc=>N9 elt env acc >>= λ_=>again (.compLoop (.ListComp elt [⟨tg,iter,ifs,0⟩] cs p) 0 it acc env)) h R rfl
    (λq=>Ě q) (R6 F H) (λ_ _ _=>⟨rfl,rfl⟩) (λ_ env it D=>Ph) (λ_ {env it acc R s} h0 h1=>codeAny_compStart_list h0 (Wp.any h1 λ_ _ q=>q))
    (λcl C it c' n D K hk q R hμ hlt=>VH (H _ _ (F.comp (cl:=cl) (C:=C) hk)) q R hμ hlt) fin
  | cons g2 r=>
   refine Rv F H (e:=.ListComp elt (⟨tg,iter,ifs,0⟩::g2::r) cs p) (rest:=λn=>Ka P (BN cs sc) (Wc (BN cs sc)) (LC elt (Wc (BN cs sc)) n) (g2::r)) (bodyF:=λenv it acc=>NF (.ListComp elt (⟨tg,iter,ifs,0⟩::g2::r) cs p) g2 1 env acc (again (.compLoop (.ListComp elt (⟨tg,iter,ifs,0⟩::g2::r) cs p) 0 it acc env))) h R rfl
     (λq=>Ě q) (R6 F H) (λ_ _ _=>⟨rfl,rfl⟩) (λ_ env it D=>UM) (λ_ {env it acc R s} h0 h1=>codeAny_compStart_list h0 (Wp.any h1 λ_ _ q=>q))
     (λcl C it c' n D K hk q R hμ hlt=>?_) fin
   cases r with
   | cons=>exact q.elim
   | nil=>obtain⟨t2,i2,f2,a2⟩:=g2;exact UJ (F.comp (cl:=cl) (C:=C) hk) (H _ _ (F.comp (cl:=cl) (C:=C) hk)) q R hμ hlt
theorem WT(c:Cf)(R:RS X c):CX X c (c.add (.dict []) {cls:=.type "dict",data:=.dict #[] 0} c.s.toks):=R.alloc λq e=>⟨[],e▸⟨æ.DictOf.new c.s.heap,beq_eq_false_iff_ne.mpr λz=>absurd F.w.sys (Đ.mpr (z▸EO R))⟩,rfl⟩
theorem QV{kx vx:Expr}{gens:List à}{cs:Scope}{p:Pos}{σ:St}{Q:AV->St->Prop}{Qf:Value->zY->Prop}{use:Option (Value->Sem Unit)}{G:Gh}{s:zY}(h:gN P Wc sc kx vx gens cs σ Q)(R:RS X ⟨G,σ,s⟩)
  (fin :∀c a v C mc,CX X ⟨G,σ,s⟩ c->VR X c a v->Q a c.σ->c.G.tag C=some .lock->X.hs.objs.size<=C->s.heap.objs.size<=C->c.s.heap.Ns C mc->compPost (model X.L.prog X.L.w) X.A (λ_ _=>False) use Qf v C (.ok .next) c.s) :
  Wp X (comprehension (.DictComp kx vx gens cs p) cs X.env (firstIterPos gens p) newDict (firstAsync gens) (firstIter gens X.env) use) Qf s:=by
 obtain⟨hr,h⟩:=A6 h
 cases gens with
 | nil=>exact h.elim
 | cons g r=>
  cases r with
  | cons=>cases hr
  | nil=>
  obtain⟨tg,iter,ifs,asy⟩:=g
  have h:EK (JN sc cs ⟨tg,iter,ifs,asy⟩) (Fs P sc (Wc sc) tg iter σ λitems σ=>Aj (.dict []) items (DT (Wc (BN cs sc)) ⟨tg,iter,ifs,asy⟩ (aJ kx vx (Wc (BN cs sc)) σ.n)) (Ah cs) σ Q):=h
  obtain rfl:asy=0:=å (AN (A6 h).1).2
  exact Rv F H (e:=.DictComp kx vx [⟨tg,iter,ifs,0⟩] cs p) (rest:=λn=>aJ kx vx (Wc (BN cs sc)) n) (bodyF:=λenv it acc=>match acc with | .ref D=>Ue kx vx env D >>= λ_=>again (.compLoop (.DictComp kx vx [⟨tg,iter,ifs,0⟩] cs p) 0 it acc env) | _=>pure (.done .next)) h R rfl
    (ob:={cls:=.type "dict",data:=.dict #[] 0}) (λq=>Ě q) (WT F H) (λ_ _ _=>⟨rfl,rfl⟩) (λ_ env it D=>Qh) (λ_ {env it acc R s} h0 h1=>codeAny_compStart_dict h0 (Wp.any h1 λ_ _ q=>q))
    (λcl C it c' n D K hk q R hμ hlt=>Zm (H _ _ (F.comp (cl:=cl) (C:=C) hk)) q R hμ hlt) fin
theorem dA{elt:Expr}{gens:List à}{cs:Scope}{p:Pos}{σ:St}{Q:AV->St->Prop}(h:gQ P Wc sc elt gens cs σ Q):TV X (eval (.ListComp elt gens cs p) X.env) σ Q:=λG s R=>by
 rw[eval_ListComp]
 exact SQ F H h R λc a v C mc x r q t h1 h2 hm=>⟨mc,hm,λh' hb=>have y:=x.letC t h1 h2 hb;.to (b:=a) y.1 (y.2.v r) q⟩
theorem ZO{kx vx:Expr}{gens:List à}{cs:Scope}{p:Pos}{σ:St}{Q:AV->St->Prop}(h:gN P Wc sc kx vx gens cs σ Q):TV X (eval (.DictComp kx vx gens cs p) X.env) σ Q:=λG s R=>by
 show Wp X (comprehension (.DictComp kx vx gens cs p) cs X.env (firstIterPos gens p) newDict (firstAsync gens) (firstIter gens X.env)) _ _
 exact QV F H h R λc a v C mc x r q t h1 h2 hm=>⟨mc,hm,λh' hb=>have y:=x.letC t h1 h2 hb;.to (b:=a) y.1 (y.2.v r) q⟩
theorem aQ{t:Sem Value}{u:Value->Sem Unit}{σ:St}{Q:AV->St->Prop}{Q':St->Prop}{G:Gh}{s:zY}(hu :∀c a v,RS X c->VR X c a v->Q a c.σ->Ev X c Q' (u v))
  (core :∀Qf:Value->zY->Prop,(∀c a v C mc,CX X ⟨G,σ,s⟩ c->VR X c a v->Q a c.σ->c.G.tag C=some .lock->X.hs.objs.size<=C->s.heap.objs.size<=C->c.s.heap.Ns C mc->compPost (model X.L.prog X.L.w) X.A (λ_ _=>False) (some u) Qf v C (.ok .next) c.s)->Wp X t Qf s) :
  Ev X ⟨G,σ,s⟩ Q' (t >>= λ_=>pure ()):=by
 refine Wp.bind (core (λ_ s'=>Wp X (pure ()) (AX X Iv ⟨G,σ,s⟩ λ_=>Q') s') λc a v C mc x r q t h1 h2 hm=>Wp.mono (hu c a v x.R r q) λ_ s₂ z=>?_)
 cases z with
 | mk G₂ σ₂ b x₂ _ q₂=>exact⟨mc,hm.at' λo e=>x₂.kp.lk t o e,λh' hb=>have y:=(x.trans x₂).letC (x₂.kp.lock C t) h1 h2 hb;Wp.pure (.to (b:=()) y.1 trivial q₂)⟩
theorem Xy{elt:Expr}{gens:List à}{cs:Scope}{p:Pos}{u:Value->Sem Unit}{σ:St}{Q:AV->St->Prop}{Q':St->Prop}(h:gQ P Wc sc elt gens cs σ Q)(hu :∀c a v,RS X c->VR X c a v->Q a c.σ->Ev X c Q' (u v))(G:Gh)(s:zY)(R:RS X ⟨G,σ,s⟩) :
  Ev X ⟨G,σ,s⟩ Q' (evalThenUse (.ListComp elt gens cs p) X.env u):=aQ F H hu λQf=>SQ (Qf:=Qf) F H h R
theorem Tx{kx vx:Expr}{gens:List à}{cs:Scope}{p:Pos}{u:Value->Sem Unit}{σ:St}{Q:AV->St->Prop}{Q':St->Prop}(h:gN P Wc sc kx vx gens cs σ Q)(hu :∀c a v,RS X c->VR X c a v->Q a c.σ->Ev X c Q' (u v))(G:Gh)(s:zY)(R:RS X ⟨G,σ,s⟩) :
  Ev X ⟨G,σ,s⟩ Q' (evalThenUse (.DictComp kx vx gens cs p) X.env u):=aQ F H hu λQf=>QV (Qf:=Qf) F H h R
end
section
variable{X:Cx}{P:Pm}{d:Nat}{fN st fM cm fI:É}{sc:Scope}{W:Ws}(F:He X P d fN st fM cm fI sc)(S:LD X W)
include F S
theorem oT{Wc:Scope->Ws}(H :∀X' sc',He X' P d fN st fM cm fI sc'->LD X' (Wc sc'))(e:Expr)(σ:St)(Q:AV->St->Prop)(h:Qe P sc Wc W e σ Q):TV X (eval e X.env) σ Q:=
 Expr.casesOn (motive_1:=λe=>Qe P sc Wc W e σ Q->TV X (eval e X.env) σ Q) e (λ_ _ _=>z7) (λ_ _ _=>z7) (λl op r p h G s R=>wpAny_BinOp ((S.E l σ _ h).go (c:=⟨G,σ,s⟩) R λa c₁ va h₁ x₁ r₁=>(S.E r _ _ h₁).go x₁.R λb c₂ vb h₂ x₂ r₂=>AX.up (cW h₂ x₂.R (x₂.pre.v r₁) r₂) (x₁.trans x₂))) (λ_ _ _=>Zf F S) (λ_ _ _ _=>z7) (λ_ _ _ _=>Px S) (λ_ _ _=>Ty F) (λ_ _ _=>z7) (λ_ _ _ _=>dA F H) (λ_ _ _ _=>z7) (λ_ _ _ _ _=>ZO F H) (λ_ _ _ _=>z7) (λ_ _=>z7) (λ_ _=>z7) (λ_ _=>z7) (λ_ _ _ _=>L2 F S) (λ_ _ _ _=>T1 F S (ZQ F)) (λ_ _ _ _=>z7) (λ_ _=>z7) (λ_ _ _=>PU F) (λ_ _ _=>UV F S) (λ_ _ _=>Ve S) (λ_ _=>z7) (λ_ _ h=>Jn F (A6 h).1 (A6 h).2) (λ_ _=>Tc S) (λ_ _ _=>Qd S) (λ_ _ _ _=>z7) h
theorem Em{e:Expr}{σ:St}{Q:Bool->St->Prop}(he:isTrue e X.env (eval e X.env)=(do let v<-eval e X.env;standAt e.pos;holding [v] (truthy v)))(h:W.E e σ λv σ=>Ca v σ Q):TB X (isTrue e X.env (eval e X.env)) σ Q:=λG s R=>
 isTrue_plain ((S.E e σ _ h).go (c:=⟨G,σ,s⟩) R λa c₁ va h₁ x₁ r₁=>AX.up (Pg h₁ x₁.R r₁) x₁) he
theorem JP{l:Expr}{ops:List aG0}{rs:List Expr}{p:Pos}{wh:Sem Value}{σ:St}{Q:Bool->St->Prop}(h:FD W l ops rs σ λv σ=>Ca v σ Q):TB X (isTrue (.Compare l ops rs p) X.env wh) σ Q:=λG s R=>
 AD h λop e1 h=>AD h λr e2 h=>JY (P:=λops=>Wp X (isTrue (.Compare l ops rs p) X.env wh) (AX X KI ⟨G,σ,s⟩ Q) s) e1 (JY (P:=λrs=>Wp X (isTrue (.Compare l [op] rs p) X.env wh) (AX X KI ⟨G,σ,s⟩ Q) s) e2
  (wpAny_isTrue_Compare1 ((S.E l σ _ (A6 h).2).go (c:=⟨G,σ,s⟩) R λa c₁ va h₁ x₁ r₁=>(S.E r _ _ h₁).go x₁.R λb c₂ vb h₂ x₂ r₂=>
   Wp.mono (RG (Ke F.w.N.toMatC x₂.R.base) (Í (zP (ė (by decide:10<=40) _) (Ŷ (Æ _ _) 40)) F.A.2.2) h₂ x₂.R (x₂.pre.v r₁) r₂) λv s₃ q=>q.casesOn λG₃ σ₃ c y e q=>
    AX.up (Pg (c:=⟨G₃,σ₃,s₃⟩) q y.R e) ((x₁.trans x₂).trans y)) (Dj (A6 h).1)))
theorem oN(e:Expr)(σ:St)(Q:Bool->St->Prop)(h:Qq W e σ Q):TB X (isTrue e X.env (eval e X.env)) σ Q:=
 Expr.casesOn (motive_1:=λe=>Qq W e σ Q->TB X (isTrue e X.env (eval e X.env)) σ Q) e (λop vs p h G s R=>wpAny_isTrue_BoolOp (ZU S vs h G s R)) (λ_ _ _=>z7) (λ_ _ _ _=>z7) (λop x p h G s R=>Jh (A6 h).1▸wpAny_isTrue_Not ((S.B x σ _ (A6 h).2).go (c:=⟨G,σ,s⟩) R λc c₁ vc h₁ x₁ r₁=>.to (b:=!c) x₁ (congrArg not r₁) h₁)) (λ_ _ _ _=>z7) (λ_ _ _ _=>z7) (λ_ _ _=>z7) (λ_ _ _=>z7) (λ_ _ _ _=>z7) (λ_ _ _ _=>z7) (λ_ _ _ _ _=>z7) (λ_ _ _ _=>z7) (λ_ _=>z7) (λ_ _=>z7) (λ_ _=>z7) (λ_ _ _ _=>JP F S) (λ_ _ _ _=>Em F S rfl) (λ_ _ _ _=>z7) (λ_ _=>z7) (λ_ _ _=>Em F S rfl) (λ_ _ _=>Em F S rfl) (λ_ _ _=>z7) (λ_ _=>z7) (λ_ _=>Em F S rfl) (λ_ _=>z7) (λ_ _ _=>z7) (λ_ _ _ _=>z7) h
theorem N4{es:List Expr}{k:Nat}{p:Pos}{v:AV}{c:Cf}{Q:St->Prop}{u:Value}(h:EK (Bh es) (Ln v es.length c.σ λvs σ=>gJ W.A es vs σ Q))(R:RS X c)(r:VR X c v u):Ev X c Q (assign (.Tuple es k p) X.env u):=by
 obtain⟨h1,h⟩:=A6 h
 show Wp X _ _ _
 rw[arm_assign_Tuple]
 refine Wp.bind (Ď ?_)
 unfold unpack
 rw[D6 X.env es h1]
 have e1:(es.map λe=>(false,assign e X.env)).findIdx? (·.1)=none:=List.findIdx?_eq_none_iff.mpr λx hx=>(Ğ.mp hx).elim λy e=>e.2▸rfl
 rw[e1,z6,Ĳ]
 exact Wp.bind (Wp.hold (Wp.mono (Uw F.A.1 F.w.N.toMatC h R r) λvs s₁ q=>q.casesOn λG₁ σ₁ avs x₁ r₁ q₁=>AX.up (dC S (c:=⟨G₁,σ₁,s₁⟩) q₁ x₁.R r₁) x₁))
theorem iX(t:Expr)(v:AV)(c:Cf)(Q:St->Prop)(h:Rr P sc W t v c.σ Q){u:Value}(R:RS X c)(r:VR X c v u):Ev X c Q (assign t X.env u):=
 Expr.casesOn (motive_1:=λt=>Rr P sc W t v c.σ Q->Ev X c Q (assign t X.env u)) t (λ_ _ _=>z7) (λ_ _ _=>z7) (λ_ _ _ _=>z7) (λ_ _ _=>z7) (λ_ _ _ _=>z7) (λ_ _ _ _=>z7) (λ_ _ _=>z7) (λ_ _ _=>z7) (λ_ _ _ _=>z7) (λ_ _ _ _=>z7) (λ_ _ _ _ _=>z7) (λ_ _ _ _=>z7) (λ_ _=>z7) (λ_ _=>z7) (λ_ _=>z7) (λ_ _ _ _=>z7) (λ_ _ _ _=>z7) (λ_ _ _ _=>z7) (λ_ _=>z7) (λ_ _ _=>z7) (λo a p h=>arm_assign_Attribute ..▸Wp.bind (Wp.hold ((S.E o c.σ _ h).go R λov c₁ vo h₁ x₁ r₁=>Wp.bind (Ď (Wp.bind (Wp.hold (Wp.mono (AX.up (Wx F.w.K h₁ x₁.R r₁ (x₁.pre.v r)) x₁) λ_ s₂ h₂=>wpAny_release h₂))))))) (λo i p h=>arm_assign_Subscript ..▸Wp.bind (Wp.hold ((S.E o c.σ _ h).go R λov c₁ vo h₁ x₁ r₁=>Wp.bind (Wp.hold ((S.E i c₁.σ _ h₁).go x₁.R λiv c₂ vi h₂ x₂ r₂=>Wp.bind (Ď (Wp.bind (Wp.hold (Wp.mono (AX.up (Zs h₂ x₂.R (x₂.pre.v r₁) r₂ ((x₁.trans x₂).pre.v r)) (x₁.trans x₂)) λ_ s₃ h₃=>wpAny_release h₃))))))))) (λ_ _=>z7) (λx p h=>wpAny_assign_Name (JA F (A6 h).1 R r (A6 h).2)) (λ_ _=>z7) (λes k p h=>N4 F S h R r) (λ_ _ _ _=>z7) h
end
def Zo{P:Pm}{d:Nat}{fN st fM cm fI:É}(f:Nat) :∀X sc,He X P d fN st fM cm fI sc->LD X (F2 P f sc):=
 Ł (λ_ _ _=>⟨λ_ _ _=>z7,λ_ _ _=>z7,λ_ _ _ _=>z7,λ_ _ _ _ _ _ _ _=>z7,λ_ _ _ _ _ _ _ _ _=>z7⟩) (λf H X sc F=>have S:=H X sc F;⟨oT F S H,oN F S,λt v c Q h _ R r=>iX F S t v c Q h R r,λelt gens cs p u σ Q Q' h=>Xy F H h,λkx vx gens cs p u σ Q Q' h=>Tx F H h⟩) f
def snd{X:Cx}{P:Pm}{d:Nat}{fN st fM cm fI:É}{sc:Scope}(F:He X P d fN st fM cm fI sc)(f:Nat):LD X (ws P sc f):=Zo f X sc F
inductive Bp where
 | next | brk | cont
 | ret (v:AV)
abbrev KS:=Bp->St->Prop
abbrev WS:=í->St->KS->Prop
def A0(σ τ:St):Prop:=∀X G s,RS X ⟨G,σ,s⟩->∃G',Kp G s.heap G' s.heap/\RS X ⟨G',τ,s⟩
theorem A0.refl(σ:St):A0 σ σ:=λ_ G s R=>⟨G,.refl _ _,R⟩
theorem A0.trans{σ τ υ:St}(a:A0 σ τ)(b:A0 τ υ):A0 σ υ:=λX G s R=>(a X G s R).elim λG' p=>(b X G' s p.2).imp λG'' q=>⟨p.1.trans q.1,q.2⟩
def RY(e:Expr):Bool:=ix e 8||ix e 9||ix e 10
noncomputable def ML(sc:Scope):Env:={scope:=sc,locals:=0,globals:=0,cells:=[]}
noncomputable def gX{α:Type}(t:Sem α):Option α:=Sem.casesOn (motive:=λ_=>Option α) t (λa=>some a) (λ_=>none) (λ_=>none) (λ_=>none) (λ_ _=>none) (λ_ _=>none) (λ_ _ _=>none) (λ_ _ _ _=>none) (λ_ _=>none) (λ_ _=>none) (λ_ _=>none) (λ_ _=>none) (λ_=>none) (λ_=>none) (λ_ _ _=>none) (λ_ _ _=>none) (λ_ _ _ _ _=>none) (λ_ _=>none) (λ_ _=>none) (λ_ _=>none) (λ_ _ _ _=>none) (λ_ _ _ _=>none) (λ_=>none) (λ_ _=>none) (λ_=>none) (λ_ _ _ _ _=>none)
def Qu{α:Type}{t:Sem α}{a:α}(e:gX t=some a):t=pure a:=Sem.casesOn (motive:=λt=>gX t=some a->t=pure a) t (λ_ e=>congrArg _ (zR e)) (λ_=>AA) (λ_=>AA) (λ_=>AA) (λ_ _=>AA) (λ_ _=>AA) (λ_ _ _=>AA) (λ_ _ _ _=>AA) (λ_ _=>AA) (λ_ _=>AA) (λ_ _=>AA) (λ_ _=>AA) (λ_=>AA) (λ_=>AA) (λ_ _ _=>AA) (λ_ _ _=>AA) (λ_ _ _ _ _=>AA) (λ_ _=>AA) (λ_ _=>AA) (λ_ _=>AA) (λ_ _ _ _=>AA) (λ_ _ _ _=>AA) (λ_=>AA) (λ_ _=>AA) (λ_=>AA) (λ_ _ _ _ _=>AA) e
def As(A:WA)(ts:List Expr):AV->St->(St->Prop)->Prop:=Ä (λ_ σ Q=>Q σ) (λt _ ih v σ Q=>A t v σ λσ=>ih v σ Q) ts
def Vg(sc:Scope)(xs:List Str):List AV->St->(St->Prop)->Prop:=Ä (λvs σ Q=>nil vs (Q σ)) (λx _ ih vs σ Q=>Al vs λv vs=>EK (Da sc x) (ih vs (σ.put x v) Q)) xs
def NR(sc:Scope)(W:Ws)(ts:List Expr)(e:Expr)(line:Nat)(σ:St)(Q:KS):Prop:=EK (Bh ts) (A9 (gX (swapsWithSole ts e line (ML sc))) λb=>Ĕ (A9 (gX (swappedStores ts e (ML sc))) λo=>W.E e σ λv σ=>
 Ö (As W.A ts v σ λσ=>Q .next σ) (λxs=>Ln v xs.length σ λvs σ=>Vg sc xs.reverse vs.reverse σ λσ=>Q .next σ) o) (EK (ix e 8||ix e 10) (W.E e σ λv σ=>As W.A ts v σ λσ=>Q .next σ)) b)
def XA(b:Bool)(σ:St)(K:St->Prop):Prop:=Ĕ (K σ) (∃τ,A0 σ τ/\K τ) b
def wL(P:Pm)(S:WS)(ss:List í):St->KS->Prop:=Ä (λσ Q=>Q .next σ) (λs _ ih σ Q=>XA (P.wk s.pos) σ λτ=>S s τ λfl υ=>Bp.rec (ih υ Q) (Q .brk υ) (Q .cont υ) (λv=>Q (.ret v) υ) fl) ss
def turn(on:St->Prop)(Q:KS)(fl:Bp)(σ:St):Prop:=Bp.rec (on σ) (∃τ,A0 σ τ/\Q .next τ) (on σ) (λr=>Q (.ret r) σ) fl
def D1(items:List AV)(tn:AV->St->KS->Prop)(els:St->KS->Prop)(σ:St)(Q:KS):Prop:=
 ∃I:Nat->St->Prop,(∃τ,A0 σ τ/\I 0 τ)/\(∀k σ v,items[k]?=some v->I k σ->tn v σ (turn (λσ=>∃τ,A0 σ τ/\I (k+1) τ) Q))/\∀σ,I items.length σ->els σ Q
def FZ(test:St->(Bool->St->Prop)->Prop)(body els:St->KS->Prop)(σ:St)(Q:KS):Prop:=
 ∃(I:Nat->St->Prop) (m:Nat),(∃τ,A0 σ τ/\I m τ)/\∀m σ,I m σ->test σ λc σ=>BI c (body σ (turn (λσ=>∃m' τ,m'<m/\A0 σ τ/\I m' τ) Q)) (els σ Q)
def eY(P:Pm)(sc:Scope)(W:Ws)(t:Expr)(op:aH3)(e:Expr)(σ:St)(Q:KS):Prop:=EK (ix t 23&&Ar (BC t)&&Da sc (BC t)) (HQ P sc (BC t) σ λa σ=>W.E e σ λb σ=>W5 op a b σ λr σ=>Q .next (σ.put (BC t) r))
def RL(P:Pm)(sc:Scope)(W:Ws)(S:WS):WS:=λst σ Q=>ĳ (motive_2:=λ_=>Prop) st (λ_ _ _ _ _ _ _ _ _ _=>False) (λ_ _ _ _ _ _ _ _ _ _=>False) (λ_ _ _ _ _ _ _ _ _ _ _=>False) (λo _=>Ö (Q (.ret .none) σ) (λe=>W.E e σ λv σ=>Q (.ret v) σ) o) (λ_ _=>False) (λts e p=>NR sc W ts e p.line σ Q) (λ_ _ _ _ _ _ _=>False) (λt op e _=>eY P sc W t op e σ Q) (λ_ _ _ _ _=>False) (λt i b o _=>EK (!ix i 7) (Fs P sc W t i σ λitems σ=>D1 items (λv σ K=>W.A t v σ λσ=>wL P S b σ K) (wL P S o) σ Q)) (λ_ _ _ _ _=>False) (λt b o _=>FZ (W.B t) (wL P S b) (wL P S o) σ Q) (λt b o _=>W.B t σ λc σ=>BI c (wL P S b σ Q) (wL P S o σ Q)) (λ_ _ _=>False) (λ_ _ _=>False) (λ_ _ _=>False) (λ_ _ _=>False) (λ_ _ _ _ _=>False) (λ_ _ _ _ _=>False) (λ_ _ _=>False) (λ_ _=>False) (λ_ _ _ _=>False) (λ_ _=>False) (λ_ _=>False) (λe _=>EK (!RY e) (W.E e σ λ_ σ=>Q .next σ)) (λ_=>Q .next σ) (λ_=>Q .brk σ) (λ_=>Q .cont σ)
def Fo(P:Pm)(sc:Scope)(f:Nat):WS:=Ł (λ_ _ _=>False) (λf S=>RL P sc (ws P sc f) S) f
def Pz(X:Cx)(c:Cf)(a:Bp)(f:aL9):Prop:=Bp.rec (f = .next) (f = .brk) (f = .cont) (λa=>∃v,f = .ret v/\VR X c a v) a
inductive Bf(X:Cx)(G:Gh)(h:æ)(Q:KS)(f:aL9)(s':zY):Prop
 | mk (G':Gh) (σ':St) (af:Bp) (k:Kp G h G' s'.heap) (R:RS X ⟨G',σ',s'⟩) (r:Pz X ⟨G',σ',s'⟩ af f) (q:Q af σ')
def TS(X:Cx)(t:Sem aL9)(σ:St)(Q:KS):Prop:=∀G s,RS X ⟨G,σ,s⟩->Wp X t (Bf X G s.heap Q) s
section
variable{X:Cx}{G G':Gh}{h h':æ}{Q:KS}{f:aL9}{s s':zY}{σ:St}
def Bf.lift(k:Kp G h G' h')(p:Bf X G' h' Q f s'):Bf X G h Q f s':=p.casesOn λG₂ σ₂ a k₂ R r q=>⟨G₂,σ₂,a,k.trans k₂,R,r,q⟩
def Bf.up{t:Sem aL9}(x:Wp X t (Bf X G' h' Q) s)(k:Kp G h G' h'):Wp X t (Bf X G h Q) s:=x.mono λ_ _ p=>p.lift k
def Bf.to{c c':Cf}{af:Bp}(x:CX X c c')(r:Pz X c' af f)(q:Q af c'.σ):Bf X c.G c.s.heap Q f c'.s:=⟨c'.G,c'.σ,af,x.kp,x.R,r,q⟩
def Bf.weak{τ:St}{af:Bp}(k:Kp G h G' s'.heap)(R:RS X ⟨G',σ,s'⟩)(w:A0 σ τ)(r :∀c,Pz X c af f)(q:Q af τ):Bf X G h Q f s':=(w X G' s' R).elim λG₂ p=>⟨G₂,τ,af,k.trans p.1,p.2,r _,q⟩
@[elab_as_elim] theorem NZ{on:St->Prop}{P:aL9->Prop}{af:Bp}(k:Kp G h G' s'.heap)(R:RS X ⟨G',σ,s'⟩)(r:Pz X ⟨G',σ,s'⟩ af f)(q:turn on Q af σ)(h1:on σ->P .next)(h2:on σ->P .cont)(h3:Bf X G h Q .next s'->P .brk)(h4 :∀v,Bf X G h Q (.ret v) s'->P (.ret v)):P f:=by
 cases af with
 | next=>exact(show f = .next from r)▸h1 q
 | cont=>exact(show f = .cont from r)▸h2 q
 | brk=>exact(show f = .brk from r)▸h3 (q.elim λτ q=>.weak (af:=.next) k R q.1 (λ_=>rfl) q.2)
 | ret a=>exact r.elim λv r=>r.1▸h4 v ⟨G',σ,.ret a,k,R,⟨v,rfl,r.2⟩,q⟩
inductive gU(X:Cx)(G:Gh)(h:æ)(J:Nat->St->Prop)(m:Nat)(s':zY):Prop
 | mk (G':Gh) (σ':St) (R:RS X ⟨G',σ',s'⟩) (j:J m σ') (k:Kp G h G' s'.heap)
def gU.of{J:Nat->St->Prop}{m:Nat}{τ:St}(k:Kp G h G' s'.heap)(R:RS X ⟨G',σ,s'⟩)(w:A0 σ τ)(j:J m τ):gU X G h J m s':=(w X G' s' R).elim λG₂ p=>⟨G₂,τ,p.2,j,k.trans p.1⟩
def Sy{t:Expr}{body orelse:List í}{p:Pos}{test:St->(Bool->St->Prop)->Prop}{bd els:St->KS->Prop}
  (ht :∀σ K,test σ K->TB X (isTrue t X.env (eval t X.env)) σ K) (hb :∀σ K,bd σ K->TS X (execs body X.env) σ K) (he :∀σ K,els σ K->TS X (execs orelse X.env) σ K)
  (h:FZ test bd els σ Q):TS X (exec (.While t body orelse p) X.env) σ Q:=λG s R=>by
 obtain⟨J,m,⟨τ,hw,j0⟩,jt⟩:=h
 refine wpAny_While (codeAny_whileLoop (gU X G s.heap J) (λm s' hI=>?_) m (.of (.refl _ _) R hw j0))
 cases hI with
 | mk G' σ' R' hJ kk=>
 refine Wp.any (ht σ' _ (jt m σ' hJ) G' s' R') λb s₁ hx=>?_
 cases hx with
 | mk G₁ σ₁ c x₁ e q=>
 cases e
 cases b with
 | false=>exact Wp.any (he σ₁ Q q G₁ s₁ x₁.R) λfl s₂ hp=>hp.lift (kk.trans x₁.kp)
 | true=>
  refine Wp.any (hb σ₁ _ q G₁ s₁ x₁.R) λfl s₂ hp=>?_
  cases hp with
  | mk G₂ σ₂ af k₂ R₂ fr q=>
  have k₀:=(kk.trans x₁.kp).trans k₂
  have next:(∃m' τ,m'<m/\A0 σ₂ τ/\J m' τ)->∃m',m'<m/\gU X G s.heap J m' s₂:=λq=>q.imp λm' q=>q.elim λτ q=>⟨q.1,.of k₀ R₂ q.2.1 q.2.2⟩
  exact NZ k₀ R₂ fr q next next id λ_=>id
inductive qM(X:Cx)(G:Gh)(h:æ)(J:Nat->St->Prop)(It:Nat->Gh->æ->Prop)(n m:Nat)(s':zY):Prop
 | mk (i:Nat) (G':Gh) (σ':St) (hi:i+m=n) (R:RS X ⟨G',σ',s'⟩) (j:J i σ') (st:It i G' s'.heap) (k:Kp G h G' s'.heap)
def eA{tg it:Expr}{body orelse:List í}{p:Pos}{tn:AV->St->KS->Prop}{els:St->KS->Prop}(hset :∀x,foldedSetIterable it X.env x=pure x)
  (hturn :∀v c K,tn v c.σ K->∀{u},RS X c->VR X c v u->Wp X (assign tg X.env u) (λ_ s₁=>Wp X (execs body X.env) (Bf X c.G c.s.heap K) s₁) c.s)
  (hels :∀σ K,els σ K->TS X (execs orelse X.env) σ K) {G:Gh} {s:zY}
  (h:Wp X (eval it X.env) (λv s₁=>Wp X (pyIter v) (λiv s₂=>Cm X tg ⟨G,σ,s⟩ (λitems σ₂=>D1 items tn els σ₂ Q) iv s₂) s₁) s):Wp X (exec (.For tg it body orelse p) X.env) (Bf X G s.heap Q) s:=by
 refine wpAny_For (h.mono λv s₁ h₁=>Wp.any h₁ λitv s₂ hit=>?_) hset
 cases hit with
 | mk c₁ x₁ I wr items It G₂ e okA self st0 hwr y₁ up₁ hcl=>
 subst e
 obtain⟨J,⟨τ,hw,j0⟩,jt,je⟩:=hcl
 have ok:=okA X.env
 have k₂:=x₁.kp.trans y₁.kp
 have hwr :∀b∈wr,s.heap.objs.size<=b:=λb hb=>zP x₁.kp.size (hwr b hb)
 obtain⟨G₃,k₃,R₃⟩:=hw X G₂ s₂ y₁.R
 have stepK :∀{G':Gh} {s' s'':zY},Kp G s.heap G' s'.heap->dO wr s'.heap s''.heap->Kp G s.heap G' s''.heap:=λ{G' s' s''} kk hs=>⟨λa o e q=>hs.1 a o (λhm=>CP e (hwr a hm)) (kk.keep a o e q),kk.own,kk.mt,zP kk.size hs.2,kk.lock⟩
 refine codeAny_forLoop_any (qM X G s.heap J It items.length) (λm s' hI=>?_) items.length ⟨0,G₃,τ,ĩ _,R₃,j0,ok.frame _ _ _ _ _ st0 k₃,k₂.trans k₃⟩
 cases hI with
 | mk i G' σ' him R' hJ hst kk=>
 cases m with
 | zero=>
  obtain rfl:i=items.length:=him
  refine Wp.any (ok.done ⟨G',σ',s'⟩ R' hst) λr s₃ hr=>?_
  rw[hr.1]
  exact Wp.any (hels σ' Q (je σ' hJ) G' s₃ hr.2.1) λfl s₄ hp=>hp.lift (stepK kk hr.2.2)
 | succ m=>
  refine Wp.any (ok.item i ⟨G',σ',s'⟩ R' (him▸Þ (Ň m)) hst) λr s₃ hr=>?_
  obtain⟨u,rfl,hgo⟩:=hr
  refine Wp.any hgo λ_ s₄ hx=>?_
  cases hx with
  | mk av hav hvr R₄ st₄ hstp=>
  have k₄:=stepK kk hstp
  refine Wp.any (hturn av ⟨G',σ',s₄⟩ _ (jt i σ' av hav hJ) R₄ hvr) λ_ s₅ hb=>Wp.any hb λfl s₆ hp=>?_
  cases hp with
  | mk G₆ σ₆ af k₆ R₆ fr q=>
  have next:(∃τ,A0 σ₆ τ/\J (i+1) τ)->∃m',m'<m+1/\qM X G s.heap J It items.length m' s₆:=λq=>q.elim λτ q=>(q.1 X G₆ s₆ R₆).elim λG₇ p=>
   have k67:=k₆.trans p.1
   ⟨m,Ê m,i+1,G₇,τ,(ĥ i 1 m).trans him,p.2,q.2,ok.frame _ _ _ _ _ st₄ k67,k₄.trans k67⟩
  exact NZ (k₄.trans k₆) R₆ fr q next next id λ_=>id
end
def VAll.rev{L:Cd}{G:Gh}{h:æ}{n:Nat}{as:List AV} :∀{vs:List Value},VAll L G h n as vs->VAll L G h n as.reverse vs.reverse:=
 Ä (motive:=λas=>∀{vs:List Value},VAll L G h n as vs->VAll L G h n as.reverse vs.reverse) (λ{vs} q=>(show vs=[]from q)▸rfl) (λa r ih vs q=>by
  obtain⟨v,u,rfl,q1,q2⟩:=q
  rw[ġ,ġ]
  exact(ih q2).append ⟨v,[],rfl,q1,rfl⟩) as
def Js{ts:List Expr}{e:Expr}{env env':Env}(h:env.scope=env'.scope):swappedStores ts e env=swappedStores ts e env':=by
 unfold swappedStores Env.blockKind Env.kindOf
 rw[h]
def Nc{ts:List Expr}{e:Expr}{line:Nat}{env env':Env}(h:env.scope=env'.scope):swapsWithSole ts e line env=swapsWithSole ts e line env':=by
 cases ts with
 | nil=>rfl
 | cons t r=>
  cases r with
  | nil=>
   show swapsWith e (some t) line env=swapsWith e (some t) line env'
   unfold swapsWith Env.blockKind Env.kindOf
   rw[h]
  | cons=>rfl
section
variable{X:Cx}{P:Pm}{d:Nat}{fN st fM cm fI:É}{sc:Scope}{W:Ws}(F:He X P d fN st fM cm fI sc)(S:LD X W)
include F
theorem fD{xs:List Str} :∀{vs:List AV} {c:Cf} {Q:St->Prop} {us:List Value},Vg sc xs vs c.σ Q->RS X c->VA X c vs us->Ev X c Q (assignInOrder (xs.map λx=>bindName X.env x) us):=
 Ä (motive:=λxs=>∀{vs:List AV} {c:Cf} {Q:St->Prop} {us:List Value},Vg sc xs vs c.σ Q->RS X c->VA X c vs us->Ev X c Q (assignInOrder (xs.map λx=>bindName X.env x) us)) (λ{vs c Q us} h R q=>BD (P:=λus=>Ev X c Q (assignInOrder [] us)) h q λh=>Wp.pure (AX.here (b:=()) R trivial h))
  (λt ts ih vs c Q us h R q=>AL (P:=λus=>Ev X c Q (assignInOrder ((t::ts).map λx=>bindName X.env x) us)) h q λa r v vr r1 r2 h=>by
   show Wp X (do holding vr (bindName X.env t v);assignInOrder (ts.map λx=>bindName X.env x) vr) _ _
   exact Wp.bind (Wp.hold (wpAny_bindName (Wp.mono (JA F (Q:=λσ=>Vg sc ts r σ Q) (A6 h).1 R r1 (A6 h).2) λ_ s₁ q=>q.casesOn λG₁ σ₁ _ x₁ _ q₁=>AX.up (ih (c:=⟨G₁,σ₁,s₁⟩) q₁ x₁.R (x₁.pre.va r2)) x₁)))) xs
include S
theorem Qv{ts:List Expr} :∀{v:AV} {c:Cf} {Q:St->Prop} {u:Value},As W.A ts v c.σ Q->RS X c->VR X c v u->Ev X c Q (assignAll u (ts.map λt=>assign t X.env)):=
 Ä (motive:=λts=>∀{v:AV} {c:Cf} {Q:St->Prop} {u:Value},As W.A ts v c.σ Q->RS X c->VR X c v u->Ev X c Q (assignAll u (ts.map λt=>assign t X.env))) (λh R r=>Wp.pure (AX.here (b:=()) R trivial h))
  (λt ts ih v c Q u h R r=>by
   have AR:=S.A t v c _ h R r
   cases ts with
   | nil=>exact AR
   | cons t' ts=>
    show Wp X (do holding [u] (assign t X.env u);assignAll u ((t'::ts).map λt=>assign t X.env)) _ _
    exact Wp.bind (Wp.hold (Wp.mono AR λ_ s₁ q=>q.casesOn λG₁ σ₁ _ x₁ _ q₁=>AX.up (ih (c:=⟨G₁,σ₁,s₁⟩) q₁ x₁.R (x₁.pre.v r)) x₁))) ts
theorem Og{ts:List Expr}{e:Expr}{p:Pos}{σ:St}{Q:KS}(h:NR sc W ts e p.line σ Q):TS X (exec (.Assign ts e p) X.env) σ Q:=λG s R=>by
 obtain⟨h2,h⟩:=A6 h
 refine AD h λb eb h=>?_
 rw[exec_Assign_arm,Nc (env':=ML sc) F.hsc,Qu eb,D6 X.env ts h2,Ĳ,Js (env':=ML sc) F.hsc]
 refine Wp.bind (Ď (Wp.bind (Wp.pure ?_)))
 cases b with
 | true=>
  obtain⟨h1,h⟩:=A6 h
  rw[if_pos rfl]
  refine(aE7.mp h1).elim (λh1=>?_) λh1=>?_
  ·refine Expr.ListComp.elim (motive_1:=λe=>W.E e σ (λv σ=>As W.A ts v σ λσ=>Q .next σ)->Wp X (do evalThenUse e X.env λv=>assignAll v (ts.map ((λx=>x.2)∘λe=>(false,assign e X.env)));pure aL9.next) (Bf X G s.heap Q) s) e (Å h1) (λelt gens cs p h=>?_) h
   exact Wp.bind (Wp.mono (S.U elt gens cs p _ σ _ (λσ=>Q .next σ) h (λc a v R r q=>Qv F S q R r) G s R) λ_ s₂ q=>q.casesOn λG₂ σ₂ _ x₂ _ q₂=>Wp.pure (.to (c':=⟨G₂,σ₂,s₂⟩) (af:=.next) x₂ rfl q₂))
  ·refine Expr.DictComp.elim (motive_1:=λe=>W.E e σ (λv σ=>As W.A ts v σ λσ=>Q .next σ)->Wp X (do evalThenUse e X.env λv=>assignAll v (ts.map ((λx=>x.2)∘λe=>(false,assign e X.env)));pure aL9.next) (Bf X G s.heap Q) s) e (Å h1) (λkx vx gens cs p h=>?_) h
   exact Wp.bind (Wp.mono (S.V kx vx gens cs p _ σ _ (λσ=>Q .next σ) h (λc a v R r q=>Qv F S q R r) G s R) λ_ s₂ q=>q.casesOn λG₂ σ₂ _ x₂ _ q₂=>Wp.pure (.to (c':=⟨G₂,σ₂,s₂⟩) (af:=.next) x₂ rfl q₂))
 | false=>
  rw[if_neg (by decide)]
  refine AD h λo eo h=>?_
  rw[Qu eo]
  refine Wp.bind ((S.E e σ _ h).go (c:=⟨G,σ,s⟩) R λv c₁ vv h₁ x₁ r₁=>Wp.bind (Wp.pure ?_))
  cases o with
  | none=>exact Wp.bind (Wp.mono (Qv F S h₁ x₁.R r₁) λ_ s₂ q=>q.casesOn λG₂ σ₂ _ x₂ _ q₂=>Wp.pure (.to (c':=⟨G₂,σ₂,s₂⟩) (af:=.next) (x₁.trans x₂) rfl q₂))
  | some xs=>
   refine Wp.bind (aF5 (Wp.bind (Wp.mono (Uw F.A.1 F.w.N.toMatC h₁ x₁.R r₁) λus s₂ q=>q.casesOn λG₂ σ₂ vs x₂ r₂ q₂=>Wp.bind (Wp.mono (fD F (c:=⟨G₂,σ₂,s₂⟩) q₂ x₂.R r₂.rev) λ_ s₃ q=>q.casesOn λG₃ σ₃ _ x₃ _ q₃=>Wp.pure (.to (c':=⟨G₃,σ₃,s₃⟩) (af:=.next) (x₁.trans (x₂.trans x₃)) rfl q₃)))))
end
section
variable{X:Cx}{P:Pm}{d:Nat}{fN st fM cm fI:É}{sc:Scope}{W:Ws}(F:He X P d fN st fM cm fI sc)(S:LD X W)
include F S
theorem Vu{t:Expr}{op:aH3}{e:Expr}{p:Pos}{σ:St}{Q:KS}(h:eY P sc W t op e σ Q):TS X (exec (.AugAssign t op e p) X.env) σ Q:=λG s R=>by
 obtain⟨hc,h⟩:=A6 h
 obtain⟨hc,h3⟩:=AN hc
 obtain⟨h1,h2⟩:=AN hc
 refine Expr.Name.elim (motive_1:=λt=>Ar (BC t)=true->Da sc (BC t)=true->HQ P sc (BC t) σ (λa σ=>W.E e σ λb σ=>W5 op a b σ λr σ=>Q .next (σ.put (BC t) r))->Wp X (exec (.AugAssign t op e p) X.env) (Bf X G s.heap Q) s) t (Å h1) (λx q h2 h3 h=>?_) h2 h3 h
 exact wpAny_AugAssign_Name ((IM F h2 h).go (c:=⟨G,σ,s⟩) R λa c₁ va h₁ x₁ r₁=>(S.E e _ _ h₁).go x₁.R λb c₂ vb h₂ x₂ r₂=>Wp.mono (dJ h₂ x₂.R (x₂.pre.v r₁) r₂) λv s₃ q=>q.casesOn λG₃ σ₃ r x₃ r₃ q₃=>
  Wp.mono (JA F (Q:=λσ=>Q .next σ) (c:=⟨G₃,σ₃,s₃⟩) h3 x₃.R r₃ q₃) λ_ s₄ q=>q.casesOn λG₄ σ₄ _ x₄ _ q₄=>.to (c':=⟨G₄,σ₄,s₄⟩) (af:=.next) (x₁.trans (x₂.trans (x₃.trans x₄))) rfl q₄)
end
def N8(X:Cx)(S:WS):Prop:=∀st σ Q,S st σ Q->TS X (exec st X.env) σ Q
def Lu{X:Cx}{P:Pm}{S:WS}(H:N8 X S)(ss:List í) :∀{σ:St} {Q:KS},wL P S ss σ Q->TS X (execs ss X.env) σ Q:=
 Ä (motive:=λss=>∀{σ:St} {Q:KS},wL P S ss σ Q->TS X (execs ss X.env) σ Q) (λ{σ Q} h G s R=>zW (.to (c':=⟨G,σ,s⟩) (af:=.next) (.refl R) rfl h)) (λst r ih σ Q h G s R=>by
  have go :∀{τ:St} {G':Gh},Kp G s.heap G' s.heap->RS X ⟨G',τ,s⟩->S st τ (λfl υ=>Bp.rec (wL P S r υ Q) (Q .brk υ) (Q .cont υ) (λv=>Q (.ret v) υ) fl)->Wp X (execs (st::r) X.env) (Bf X G s.heap Q) s:=λ{τ G'} k R h=>by
   refine wpAny_execs_cons (Wp.any (H st τ _ h G' s R) λfl s₁ q=>?_)
   cases q with
   | mk G₁ σ₁ af k₁ R₁ fr q=>
   have k₁:=k.trans k₁
   cases af with
   | next=>exact(show fl = .next from fr)▸Bf.up (ih q G₁ s₁ R₁) k₁
   | brk=>exact(show fl = .brk from fr)▸⟨G₁,σ₁,.brk,k₁,R₁,rfl,q⟩
   | cont=>exact(show fl = .cont from fr)▸⟨G₁,σ₁,.cont,k₁,R₁,rfl,q⟩
   | ret a=>exact fr.elim λv r=>r.1▸⟨G₁,σ₁,.ret a,k₁,R₁,⟨v,rfl,r.2⟩,q⟩
  have h:XA (P.wk st.pos) σ λτ=>S st τ (λfl υ=>Bp.rec (wL P S r υ Q) (Q .brk υ) (Q .cont υ) (λv=>Q (.ret v) υ) fl):=h
  unfold XA at h
  cases hw:P.wk st.pos with
  | false=>rw[hw]at h;exact go (.refl _ _) R h
  | true=>rw[hw]at h;exact h.elim λτ h=>(h.1 X G s R).elim λG' q=>go q.1 q.2 h.2) ss
section
variable{X:Cx}{P:Pm}{d:Nat}{fN st fM cm fI:É}{sc:Scope}{W:Ws}{S:WS}(F:He X P d fN st fM cm fI sc)(E:LD X W)(H:N8 X S){σ:St}{Q:KS}
include E
theorem WX{o:Option Expr}{p:Pos}(h:Ö (Q (.ret .none) σ) (λe=>W.E e σ λv σ=>Q (.ret v) σ) o):TS X (exec (.Return o p) X.env) σ Q:=λG s R=>by
 cases o with
 | none=>
  show Wp X (do standAt p;return aL9.ret Ē) _ _
  exact Wp.bind (Ď (zW (.to (c':=⟨G,σ,s⟩) (af:=.ret .none) (.refl R) ⟨.none,rfl,rfl⟩ h)))
 | some e=>exact wpAny_Return_some ((E.E e σ _ h).go (c:=⟨G,σ,s⟩) R λv c₁ vv h₁ x₁ r₁=>.to (af:=.ret v) x₁ ⟨vv,rfl,r₁⟩ h₁)
include F
theorem U6{e:Expr}{p:Pos}(h:EK (!RY e) (W.E e σ λ_ σ=>Q .next σ)):TS X (exec (.Expr e p) X.env) σ Q:=λG s R=>by
 obtain⟨h1,h⟩:=A6 h
 have h1:=Dj h1
 refine wpAny_Expr_any ((E.E e σ _ h).go (c:=⟨G,σ,s⟩) R λv c₁ vv h₁ x₁ r₁=>.to (af:=.next) x₁ rfl h₁) ?_ ?_
 ·unfold interactive;rw[Ea F];rfl
 ·clear h
  cases e with
  | ListComp=>cases h1
  | SetComp=>cases h1
  | DictComp=>cases h1
  | _=>rfl
include H
theorem aB{t:Expr}{b o:List í}{p:Pos}(h:W.B t σ λc σ=>BI c (wL P S b σ Q) (wL P S o σ Q)):TS X (exec (.If t b o p) X.env) σ Q:=λG s R=>
 wpAny_If ((E.B t σ _ h).go (c:=⟨G,σ,s⟩) R λc c₁ vc h₁ x₁ r₁=>by
  cases r₁
  cases c with
  | true=>exact Bf.up (Lu H b h₁ _ _ x₁.R) x₁.kp
  | false=>exact Bf.up (Lu H o h₁ _ _ x₁.R) x₁.kp)
theorem Wy{t i:Expr}{b o:List í}{p:Pos}(h:EK (!ix i 7) (Fs P sc W t i σ λitems σ=>D1 items (λv σ K=>W.A t v σ λσ=>wL P S b σ K) (wL P S o) σ Q)):TS X (exec (.For t i b o p) X.env) σ Q:=λG s R=>by
 obtain⟨h1,h⟩:=A6 h
 have h1:=Dj h1
 refine eA (σ:=σ) ?_ (λv c K x {u} R hv=>Wp.mono (E.A t v c _ x R hv) λ_ s₁ q=>q.casesOn λG₁ σ₁ _ x₁ _ q₁=>Bf.up (Lu H b q₁ G₁ s₁ x₁.R) x₁.kp) (λσ K x=>Lu H o x) (I1 F E h R)
 clear h
 cases i with
 | Set=>cases h1
 | _=>exact λ_=>rfl
theorem hY(s:í)(σ:St)(Q:KS)(h:RL P sc W S s σ Q):TS X (exec s X.env) σ Q:=
 ĳ (motive_2:=λs=>RL P sc W S s σ Q->TS X (exec s X.env) σ Q) s (λ_ _ _ _ _ _ _ _ _ _=>z7) (λ_ _ _ _ _ _ _ _ _ _=>z7) (λ_ _ _ _ _ _ _ _ _ _ _=>z7) (λ_ _=>WX E) (λ_ _=>z7) (λ_ _ _=>Og F E) (λ_ _ _ _ _ _ _=>z7) (λ_ _ _ _=>Vu F E) (λ_ _ _ _ _=>z7) (λ_ _ _ _ _=>Wy F E H) (λ_ _ _ _ _=>z7) (λt b o p h=>Sy (λσ K x=>E.B t σ K x) (λσ K x=>Lu H b x) (λσ K x=>Lu H o x) h) (λ_ _ _ _=>aB F E H) (λ_ _ _=>z7) (λ_ _ _=>z7) (λ_ _ _=>z7) (λ_ _ _=>z7) (λ_ _ _ _ _=>z7) (λ_ _ _ _ _=>z7) (λ_ _ _=>z7) (λ_ _=>z7) (λ_ _ _ _=>z7) (λ_ _=>z7) (λ_ _=>z7) (λ_ _=>U6 F E) (λp h G s R=>wpAny_Pass (.to (c':=⟨G,σ,s⟩) (af:=.next) (.refl R) rfl h)) (λp h G s R=>wpAny_Break (.to (c':=⟨G,σ,s⟩) (af:=.brk) (.refl R) rfl h)) (λp h G s R=>wpAny_Continue (.to (c':=⟨G,σ,s⟩) (af:=.cont) (.refl R) rfl h)) h
end
def Z5{X:Cx}{P:Pm}{d:Nat}{fN st fM cm fI:É}{sc:Scope}(F:He X P d fN st fM cm fI sc)(f:Nat):N8 X (Fo P sc f):=
 Ł (λ_ _ _=>z7) (λf H=>hY F (snd F f) H) f
def IO(ks:List Nat):AQ->Option AQ
 | .obj x=>(DW x ks).map .obj
 | .dict x=>(DW x ks).map .dict
 | p=>some p
def Gh.cut(G:Gh)(ks:List Nat):Gh:=⟨λa=>(G.tag a).bind (IO ks),λi=>U9 ks[i]? 0 G.μ,λi=>U9 ks[i]? 0 G.δ⟩
def AO.froze:AO->Option AV
 | .list vs=>some (.lst vs)
 | .dict es=>some (.dct es)
 | .set ks=>some (.fset ks)
 | .inst ..=>none
section
variable{G:Gh}{ks:List Nat}{a:É}
def GW(e:(G.cut ks).own a):G.own a:=λz=>e (congrArg (λo:Option AQ=>o.bind (IO ks)) z)
def PC(e:(G.cut ks).mt a):G.mt a:=e.elim λp q=>by
 obtain⟨p',e1,e2⟩:=bind_some q.1
 exact⟨p',e1,λz=>q.2 (zR (z▸e2:IO ks .lock=some p)).symm⟩
def Eu{p p':AQ}(e:G.tag a=some p)(e':IO ks p=some p'):(G.cut ks).tag a=some p':=(congrArg (λo:Option AQ=>o.bind (IO ks)) e).trans e'
def TP{y:Nat}(e:G.tag a=some (.obj y))(h :∀i:Nat,ks[i]?≠some y):¬ (G.cut ks).own a:=λz=>z ((congrArg (λo:Option AQ=>o.bind (IO ks)) e).trans (by
 show(DW y ks).map AQ.obj=none
 cases hp:DW y ks with
 | none=>rfl
 | some j=>exact absurd (Cw hp) (h j)))
end
def Rl{L:Cd}{G G':Gh}{h:æ}{n n' x:Nat}{o:AO}{w:AV}(k:Cj G h G' h)(e:o.froze=some w)(s:w.sub nn=some w)(q:DK L G h n x o)(hx:¬ G'.own (G.μ x)):VRel L G' h n' w (.ref (G.μ x)):=by
 cases o with
 | list vs=>
  cases e
  obtain⟨us,e1,e2⟩:=map_some (show(subAll nn vs).map (AV.seq .lst)=some (.seq .lst vs)from s)
  cases e2
  exact q.casesOn λb hp hr=>⟨_,b,rfl,hp,hx,hr.shut k e1⟩
 | dict vs=>
  cases e
  obtain⟨us,e1,e2⟩:=map_some (show(subDict nn vs).map AV.dct=some (.dct vs)from s)
  cases e2
  exact q.casesOn λb hp hr=>⟨_,b,rfl,hp,hx,VDict.sub k (λx w e=>AA e) e1 hr⟩
 | set vs=>cases e;exact⟨_,(),rfl,q,hx,trivial⟩
 | inst C at_=>exact AA e
def A0.of{σ τ:St}(ks:List Nat)(g:Nat->Option AV)(u:Fc ks)(ha:τ.anc=σ.anc)(hn:τ.n=ks.length)(hta :∀i,i<σ.anc->ks[i]?=some i)
  (hg :∀y w,g y=some w->(∃i:Nat,ks[i]?=some y/\w = .ref i)\/((∀i:Nat,ks[i]?≠some y)/\∃o,σ.H.lookup y=some o/\o.froze=some w/\w.sub nn=some w))
  (hρ :∀x v,τ.ρ.lookup x=some v->∃v₀,σ.ρ.lookup x=some v₀/\v₀.sub g=some v)
  (hH :∀i o,τ.H.lookup i=some o->∃y o₀,ks[i]?=some y/\σ.H.lookup y=some o₀/\o₀.sub g=some o):A0 σ τ:=λX G s R=>by
 have k:Cj G s.heap (G.cut ks) s.heap:=λa o e q=>⟨e,λz=>q (GW z)⟩
 have mu :∀{i y:Nat},ks[i]?=some y->(G.cut ks).μ i=G.μ y/\(G.cut ks).δ i=G.δ y:=λe=>⟨Cc e 0 G.μ,Cc e 0 G.δ⟩
 have lt :∀{i y:Nat},ks[i]?=some y->i<τ.n:=λe=>hn▸(zT.mp e).1
 have gg :∀x w,g x=some w->x<σ.n->VRel X.L (G.cut ks) s.heap τ.n w (.ref (G.μ x)):=λx w e hx=>(hg x w e).elim (λq=>q.elim λi q=>q.2▸⟨congrArg ī (mu q.1).1.symm,lt q.1⟩) λq=>q.2.elim λo p=>Rl k p.2.1 p.2.2 (R.obj x o p.1).rel (TP (R.obj x o p.1).tag q.1)
 have vv :∀{v₀ v u},v₀.sub g=some v->VR X ⟨G,σ,s⟩ v₀ u->VR X ⟨G.cut ks,τ,s⟩ v u:=λe q=>VRel.sub k gg _ _ _ e q
 refine⟨G.cut ks,⟨λ_ _ e _=>e,λa e=>.inl (GW e),λa e=>.inl (PC e),zX _,λa e=>Eu e rfl⟩,R.base,R.keep,R.size,λa e=>R.mutHs a (PC e),λa e=>R.ownB a (GW e),λa e=>R.ownLt a (GW e),R.gens,R.os,?_,?_,R.celAll,Eu R.tloc rfl,λx a e=>Eu (R.tcel x a e) rfl,?_,?_⟩
 ·exact R.loc.casesOn λm hm r=>⟨m,hm,λx av e1 e2=>(hρ x av e1).elim λv₀ p=>(r x v₀ p.1 e2).imp λv q=>⟨q.1,vv p.2 q.2⟩⟩
 ·exact λx a e=>(R.cel x a e).casesOn λv hv r=>⟨v,hv,λav e1 e2=>(hρ x av e1).elim λv₀ p=>(r v₀ p.1 e2).imp λu q=>⟨q.1,vv p.2 q.2⟩⟩
 ·intro i o e
  obtain⟨y,o₀,e1,e2,e3⟩:=hH i o e
  have q:=R.obj y o₀ e2
  have pos:DW y ks=some i:=GT u e1
  exact⟨lt e1,(congrArg _ (mu e1).1).trans (Eu q.tag (congrArg (Ñ AQ.obj) pos)),DK.sub k gg (mu e1).1 (mu e1).2 (λ_ e=>e) (λz=>⟨λ_ e=>e,Eu z (congrArg (Ñ AQ.dict) pos)⟩) o₀ o e3 q.rel⟩
 ·refine⟨ha.symm▸R.anc.1,?_,λi hi=>?_⟩
  ·show τ.anc<=τ.n
   rw[ha]
   cases hz:σ.anc with
   | zero=>exact Õ _
   | succ m=>exact lt (hta m (hz▸Ê m))
  ·have q:=mu (hta i (zZ hi R.anc.1))
   exact⟨q.1.trans (R.anc.2.2 i hi).1,q.2.trans (R.anc.2.2 i hi).2⟩
section
variable{g:Nat->Option AV}
def Ag(a:AV) :∀a',a.sub nn=some a'->a.sub g=some a':=
 AV.rec (motive_1:=λa=>∀a',a.sub nn=some a'->a.sub g=some a') (motive_2:=λa=>∀a',subAll nn a=some a'->subAll g a=some a') (motive_3:=λa=>∀a',subDict nn a=some a'->subDict g a=some a') (motive_4:=λp=>∀a',subPair nn p=some a'->subPair g p=some a')
  (λ_=>id) (λ_ _=>id) (λ_ _=>id) (λkd vs ih a' e=>DG (P:=λa'=>(subAll g vs).map (AV.seq kd)=some a') e λb e=>congrArg (Ñ _) (ih b e)) (λ_ _=>AA) (λ_ _=>id) (λ_ _=>id)
  (λf x ih a' e=>DG (P:=λa'=>(x.sub g).map (AV.bm f)=some a') e λb e=>congrArg (Ñ _) (ih b e)) (λes ih a' e=>DG (P:=λa'=>(subDict g es).map AV.dct=some a') e λb e=>congrArg (Ñ _) (ih b e)) (λ_ _=>id)
  (λ_=>id) (λa r ih1 ih2 a' e=>by
   obtain⟨b,e1,e⟩:=bind_some e
   obtain⟨c,e2,rfl⟩:=map_some e
   show(a.sub g).bind (λa=>(subAll g r).map (a :: ·))=_
   rw[ih1 b e1,show subAll g r=some c from ih2 c e2];rfl)
  (λ_=>id) (λa r ih1 ih2 a' e=>by
   obtain⟨b,e1,e⟩:=bind_some e
   obtain⟨c,e2,rfl⟩:=map_some e
   show(subPair g a).bind (λb=>(subDict g r).map ((a.1,b) :: ·))=_
   rw[ih1 b e1,show subDict g r=some c from ih2 c e2];rfl)
  (λk x ih a' e=>ih a' e) a
def CC{l:List AV} :∀{l':List AV},subAll nn l=some l'->subAll g l=some l':=
 Ä (motive:=λl=>∀{l':List AV},subAll nn l=some l'->subAll g l=some l') (λ{_}=>id) (λa r ih l' e=>by
  obtain⟨b,e1,e⟩:=bind_some e
  obtain⟨c,e2,rfl⟩:=map_some e
  show(a.sub g).bind (λa=>(subAll g r).map (a :: ·))=_
  rw[Ag a b e1,show subAll g r=some c from ih e2];rfl) l
def JJ{l:List (AE×AV)} :∀{l':List (AE×AV)},subDict nn l=some l'->subDict g l=some l':=
 Ä (motive:=λl=>∀{l':List (AE×AV)},subDict nn l=some l'->subDict g l=some l') (λ{_}=>id) (λa r ih l' e=>by
  cases a with
  | mk k x=>
  obtain⟨b,e1,e⟩:=bind_some e
  obtain⟨c,e2,rfl⟩:=map_some e
  show(x.sub g).bind (λb=>(subDict g r).map ((k,b) :: ·))=_
  rw[Ag x b e1,show subDict g r=some c from ih e2];rfl) l
def DX{l:List (Str×AV)} :∀{l':List (Str×AV)},AH nn l=some l'->AH g l=some l':=
 Ä (motive:=λl=>∀{l':List (Str×AV)},AH nn l=some l'->AH g l=some l') (λ{_}=>id) (λa r ih l' e=>by
  obtain⟨b,e1,e⟩:=bind_some e
  obtain⟨c,e2,rfl⟩:=map_some e
  show(a.2.sub g).bind (λb=>(AH g r).map ((a.1,b) :: ·))=_
  rw[Ag a.2 b e1,show AH g r=some c from ih e2];rfl) l
def EN{o o':AO}(s:o.sub nn=some o'):o.sub g=some o':=by
 cases o with
 | list vs=>exact DG (P:=λo'=>(subAll g vs).map AO.list=some o') s λb e=>congrArg (Ñ _) (CC e)
 | dict vs=>exact DG (P:=λo'=>(subDict g vs).map AO.dict=some o') s λb e=>congrArg (Ñ _) (JJ e)
 | inst C vs=>exact DG (P:=λo'=>(AH g vs).map (AO.inst C)=some o') s λb e=>congrArg (Ñ _) (DX e)
 | set ks=>exact s
end
def Qz(l:List Nat):Bool:=Ä true (λx r ih=>!hasN x r&&ih) l
def Iu{l:List Nat}:Qz l=true->Fc l:=Ä (motive:=λl=>Qz l=true->Fc l) (λ_ _ _ _=>AA) (λx r ih h i j y e1 e2=>by
 obtain⟨h1,h2⟩:=AN h
 have no :∀{i:Nat},r[i]?≠some x:=λ{i} e=>ŝ ((Dj h1).symm.trans (MO e))
 cases i with
 | zero=>cases j with
  | zero=>rfl
  | succ j=>exact absurd ((show r[j]?=some y from e2).trans (zR e1▸rfl)) no
 | succ i=>cases j with
  | zero=>exact absurd ((show r[i]?=some y from e1).trans (zR e2▸rfl)) no
  | succ j=>exact congrArg Ŝ (ih h2 i j y e1 e2)) l
def YU(n:Nat)(ks:List Nat):Bool:=Ł true (λi ih=>Ö false (λy=>Ù y i) ks[i]?&&ih) n
def WV{n:Nat}{ks:List Nat}:YU n ks=true->∀i,i<n->ks[i]?=some i:=Ł (motive:=λn=>YU n ks=true->∀i,i<n->ks[i]?=some i) (λ_ i h=>absurd h (ø i)) (λn ih h i hi=>by
 obtain⟨h1,h2⟩:=AN h
 refine(ú (î hi)).elim (ih h2 i) λe=>?_
 subst e
 cases e:ks[i]? with
 | none=>rw[e]at h1;cases h1
 | some y=>rw[e]at h1;exact congrArg some (Å h1)) n
def kQ(ks:List Nat)(fz:List (Nat×AV))(y:Nat):Option AV:=J3 ((DW y ks).map .ref) (fz.lookup y)
def Sg(σ:St)(ks:List Nat)(fz:List (Nat×AV)):Prop:=∀y w,fz.lookup y=some w->DW y ks=none/\∃o,σ.H.lookup y=some o/\o.froze=some w/\w.sub nn=some w
def fK(σ:St)(g:Nat->Option AV)(l:List (Str×AV)):Prop:=∀x v,l.lookup x=some v->∃v₀,σ.ρ.lookup x=some v₀/\v₀.sub g=some v
def gV(σ:St)(ks:List Nat)(g:Nat->Option AV)(l:List (Nat×AO)):Prop:=∀i o,l.lookup i=some o->∃y o₀,ks[i]?=some y/\σ.H.lookup y=some o₀/\o₀.sub g=some o
def Bv{α β:Type} [BEq α] [LawfulBEq α] {x y:α} {v w:β} {r:List (α×β)} {P:Prop} (e:((y,v)::r).lookup x=some w) (f:x=y->v=w->P) (g:r.lookup x=some w->P):P:=by
 rw[AU]at e
 cases h:x==y with
 | true=>exact f (å h) (zR ((congrArg (λb=>bif b then some v else r.lookup x) h).symm.trans e))
 | false=>exact g ((congrArg (λb=>bif b then some v else r.lookup x) h).symm.trans e)
section
variable{σ:St}{ks:List Nat}{g:Nat->Option AV}
def Br:Sg σ ks []:=λ_ _=>AA
def BQ{y:Nat}{w:AV}{o:AO}{r:List (Nat×AV)}(h0:DW y ks=none)(h1:σ.H.lookup y=some o)(h2:o.froze=some w)(h3:w.sub nn=some w)(q:Sg σ ks r):Sg σ ks ((y,w)::r):=λz v e=>Bv e (λa b=>a▸b▸⟨h0,o,h1,h2,h3⟩) (q z v)
def BU:fK σ g []:=λ_ _=>AA
def Ay{x:Str}{v₀ v:AV}{r:List (Str×AV)}(h1:σ.ρ.lookup x=some v₀)(h2:v₀.sub g=some v)(q:fK σ g r):fK σ g ((x,v)::r):=λz w e=>Bv e (λa b=>a▸b▸⟨v₀,h1,h2⟩) (q z w)
def BS:gV σ ks g []:=λ_ _=>AA
def E9{i y:Nat}{o₀ o:AO}{r:List (Nat×AO)}(h0:ks[i]?=some y)(h1:σ.H.lookup y=some o₀)(h2:o₀.sub g=some o)(q:gV σ ks g r):gV σ ks g ((i,o)::r):=λz w e=>Bv e (λa b=>a▸b▸⟨y,o₀,h0,h1,h2⟩) (q z w)
def A0.re{τ:St}(ks:List Nat)(fz:List (Nat×AV))(u:Qz ks=true)(t:YU σ.anc ks=true)(ha:τ.anc=σ.anc)(hn:τ.n=ks.length)(hf:Sg σ ks fz)(hρ:fK σ (kQ ks fz) τ.ρ)(hH:gV σ ks (kQ ks fz) τ.H):A0 σ τ:=
 .of ks (kQ ks fz) (Iu u) ha hn (WV t) (λy w e=>Dt e (λe=>(map_some e).elim λi q=>.inl ⟨i,Cw q.1,q.2.symm⟩) λe=>.inr ⟨λi z=>AA ((hf y w e).1.symm.trans (GT (Iu u) z)),(hf y w e).2⟩) hρ hH
end
def Gi(os:List Ob):Nat->List (Nat×AO):=Ä (λ_=>[]) (λo _ ih i=>(i,o.ao)::ih (i+1)) os
def JG{os:List Ob} :∀{i x:Nat} {o:AO},(Gi os i).lookup x=some o->∃(j:Nat) (b:Ob),x=i+j/\os[j]?=some b/\o=b.ao:=
 Ä (motive:=λos=>∀{i x:Nat} {o:AO},(Gi os i).lookup x=some o->∃(j:Nat) (b:Ob),x=i+j/\os[j]?=some b/\o=b.ao) AA (λb r ih i x o e=>Bv e (λa c=>⟨0,b,a,rfl,c.symm⟩) λe=>(ih e).elim λj q=>q.elim λb q=>⟨j+1,b,q.1.trans (ĥ i 1 j),q.2⟩) os
def A4(ρ:List (Str×AV))(os:List Ob):St:=⟨ρ,Gi os 0,os.length,os.length⟩
def I8(fl:Bp)(r:AV):Prop:=Bp.rec (r = .none) False False (λa=>r=a) fl
structure mV(k:Nat)(Q:AV->List Ob->Prop)(τ:St)(r:AV)(os:List Ob):Prop where
 shut:r.sub nn=some r
 len:os.length=k
 shuts:C4 os
 objs :∀(i:Nat) (o:Ob),os[i]?=some o->τ.H.lookup i=some o.ao
 q:Q r os
def AJ(k:Nat)(Q:AV->List Ob->Prop)(fl:Bp)(σ:St):Prop:=∃r τ os,I8 fl r/\A0 σ τ/\mV k Q τ r os
noncomputable def NO(f:aL9):Value:=match f with
 | .ret v=>v
 | _=>.none
def Qx{X:Cx}{c:Cf}{af:Bp}{f:aL9}{r:AV}(a:Pz X c af f)(b:I8 af r):VR X c r (NO f):=by
 cases af with
 | next=>rw[show f = .next from a,show r = .none from b];exact rfl
 | ret v=>exact a.elim λu q=>by rw[q.1,show r=v from b];exact q.2
 | brk=>exact b.elim
 | cont=>exact b.elim
def bN(G:Gh)(k:Nat):Prop:=∀a p,G.tag a=some p->p = .lock\/∃i,i<k/\((p = .obj i/\a=G.μ i)\/(p = .dict i/\a=G.δ i))
def RB{X:Cx}{S:WS}{P:Pm}{body:List í}{G G₀:Gh}{s s₁:zY}{os:List Ob}{ρ:List (Str×AV)}{Q:AV->List Ob->Prop}(H:N8 X S)(hs:X.hs=s.heap)(hG:X.aG=G)(hn:X.an=os.length)(hg:X.gens=s.gens)(ho:X.os=s.os)(nt:bN G os.length)
  (D:Ig G X.h₀ s) (T :∀(i:Nat) (o:Ob),os[i]?=some o->G.tag (G.δ i)=some (.dict i)) (lk :∀a,G.tag a=some .lock->G₀.tag a=some .lock) (R₀:RS X ⟨G₀,A4 ρ os,s₁⟩) (h:wL P S body (A4 ρ os) (AJ os.length Q)) :
  Wp X (execs body X.env) (λfl s'=>Uh X.L G os.length s Q (NO fl) s') s₁:=
 (Lu H body h G₀ s₁ R₀).mono λfl s' p=>by
  cases p with
  | mk G' σ' af k R' fr q=>
  obtain⟨r,τ,os',hf,hw,L⟩:=q
  obtain⟨G'',k2,R⟩:=hw X G' s' R'
  have hv:=Qx fr hf
  have an :∀i,i<os.length->G''.μ i=G.μ i/\G''.δ i=G.δ i:=λi hi=>hG▸R.anc.2.2 i (hn▸hi)
  have ob :∀{i:Nat},i<os.length->∃o:Ob,os'[i]?=some o/\F5 X ⟨G'',τ,s'⟩ i o.ao:=λ{i} hi=>⟨os'[i]'(L.len▸hi),zV _,R.obj i _ (L.objs i _ (zV _))⟩
  have own2 :∀a,G.own a->G''.own a:=λa ha=>by
   cases e:G.tag a with
   | none=>exact absurd e ha
   | some p=>
    exact(nt a p e).elim (λz=>A3 (k2.lock a (k.lock a (lk a (z▸e))))) λz=>z.elim λi z=>
     have hi:=z.1
     (ob hi).elim λo q=>z.2.elim (λz=>z.2.trans (an i hi).1.symm▸A3 q.2.tag) λz=>z.2.trans (an i hi).2.symm▸q.2.rel.casesOn λ_ _ _ _ _ ht=>A3 ht
  have st:Cj G'' s'.heap G s'.heap:=λa o e q=>⟨e,λz=>q (own2 a z)⟩
  exact⟨r,os',L.q,L.shut,L.len,L.shuts,λb o e q=>R.keep b o (hs▸e) (hG▸q),hs▸R.size,R.gens.trans hg,R.os.trans ho,λi o e=>
   have hi:i<os.length:=L.len▸(zT.mp e).1
   DK.sub st (λx w e=>AA e) (an i hi).1.symm (an i hi).2.symm (λ_ e=>e) (λ_=>⟨λ_ e=>e,(an i hi).2.symm▸T i _ (zV hi)⟩) o.ao o.ao ((congrArg (Ñ (AO.inst o.1)) (L.shuts i o e)).trans rfl) (R.obj i _ (L.objs i o e)).rel,(VRel.shut (n':=0) k2.still L.shut hv).shut st L.shut⟩
open Classical in
def Gh.neat(G:Gh)(k:Nat):Gh:=⟨λa=>(G.tag a).map λp=>if∃i,i<k/\((p = .obj i/\a=G.μ i)\/(p = .dict i/\a=G.δ i))then p else .lock,G.μ,G.δ⟩
section
variable{G:Gh}{k:Nat}{a:É}{L:Cd}{h:æ}{i:Nat}{o:Ob}
def Cv:(G.neat k).own a↔G.own a:=by
 show(G.tag a).map _≠none↔G.tag a≠none
 cases G.tag a with
 | none=>exact Iff.rfl
 | some p=>exact⟨λ_ z=>(nomatch z),λ_ z=>nomatch z⟩
def Gd:Cj G h (G.neat k) h:=λa o e q=>⟨e,λz=>q (Cv.mp z)⟩
def Gm:Cj (G.neat k) h G h:=λa o e q=>⟨e,λz=>q (Cv.mpr z)⟩
def Jt{p:AQ}(e:(G.neat k).tag a=some p):p = .lock\/(G.tag a=some p/\∃i,i<k/\((p = .obj i/\a=G.μ i)\/(p = .dict i/\a=G.δ i))):=by
 obtain⟨q,e1,e2⟩:=map_some e
 by_cases hc :∃i,i<k/\((q = .obj i/\a=G.μ i)\/(q = .dict i/\a=G.δ i))
 ·rw[if_pos hc]at e2;exact .inr (e2▸⟨e1,hc⟩)
 ·rw[if_neg hc]at e2;exact .inl e2.symm
def U8:bN (G.neat k) k:=λa p e=>(Jt e).imp id λq=>q.2
def UK(e:(G.neat k).mt a):G.mt a:=e.elim λp q=>(Jt q.1).elim (λz=>absurd z q.2) λz=>⟨p,z.1,q.2⟩
def Mo{p:AQ}(e:G.tag a=some p)(q :∃i,i<k/\((p = .obj i/\a=G.μ i)\/(p = .dict i/\a=G.δ i))):(G.neat k).tag a=some p:=(congrArg (Ñ _) e).trans (congrArg some (if_pos q))
def HI(g:Kk L G h k i o)(hi:i<k)(s:AH nn o.2=some o.2):Kk L (G.neat k) h k i o:=
 ⟨Mo g.tag ⟨i,hi,.inl ⟨rfl,rfl⟩⟩,DK.sub Gd (λ_ _ e=>AA e) rfl rfl (λ_=>id) (λt=>⟨λ_=>id,Mo t ⟨i,hi,.inr ⟨rfl,rfl⟩⟩⟩) o.ao o.ao (congrArg (Ñ (AO.inst o.1)) s) g.rel⟩
def HL(g:Kk L G h k i o):G.tag (G.δ i)=some (.dict i):=g.rel.casesOn λ_ _ _ _ _ ht=>ht
def OP{s s':zY}{Q:AV->List Ob->Prop}{v:Value}(t :∀i,i<k->G.tag (G.δ i)=some (.dict i))(b:Uh L (G.neat k) k s Q v s'):Uh L G k s Q v s':=
 b.casesOn λr os' q sh len shs keep size gens os objs rel=>⟨r,os',q,sh,len,shs,λb o e z=>keep b o e λy=>z (UK y),size,gens,os,
  λi o e=>DK.sub Gm (λ_ _ e=>AA e) rfl rfl (λ_=>id) (λ_=>⟨λ_=>id,t i (len▸(zT.mp e).1)⟩) o.ao o.ao (congrArg (Ñ (AO.inst o.1)) (shs i o e)) (objs i o e),rel.shut Gm sh⟩
end
section
variable{k:Str->Option ō}{L:Cd}{G:Gh}{h:æ}{n:Nat}
def LY{ps:List Str} :∀{vs:List Value} {m:Str->Option Value} {x:Str},x∉ps->bindL k (ps.zip vs) m x=m x:=
 Ä (motive:=λps=>∀{vs:List Value} {m:Str->Option Value} {x:Str},x∉ps->bindL k (ps.zip vs) m x=m x) (λ{vs m x} _=>rfl) (λp r ih vs m x hx=>by
  cases vs with
  | nil=>rfl
  | cons v vs=>
   refine(ih λz=>hx (À _ z)).trans ?_
   exact Ie (P:=λf:Str->Option Value=>f x=m x) (if_neg λz:x=p=>hx (z.symm▸z8 ..)) rfl) ps
def LS{ps:List Str} :∀{vs:List Value} {m:Str->Option Value} {x:Str},x∉ps->bindC k (ps.zip vs) m x=m x:=
 Ä (motive:=λps=>∀{vs:List Value} {m:Str->Option Value} {x:Str},x∉ps->bindC k (ps.zip vs) m x=m x) (λ{vs m x} _=>rfl) (λp r ih vs m x hx=>by
  cases vs with
  | nil=>rfl
  | cons v vs=>
   refine(ih λz=>hx (À _ z)).trans ?_
   exact Ie (P:=λf:Str->Option Value=>f x=m x) rfl (if_neg λz:x=p=>hx (z.symm▸z8 ..))) ps
def Ru{ps:List Str} :∀{as:List AV} {vs:List Value} {m:Str->Option Value} {x:Str} {a:AV},ps.Nodup->VAll L G h n as vs->(ps.zip as).lookup x=some a->k x=some .local->∃v,bindL k (ps.zip vs) m x=some v/\VRel L G h n a v:=
 Ä (motive:=λps=>∀{as:List AV} {vs:List Value} {m:Str->Option Value} {x:Str} {a:AV},ps.Nodup->VAll L G h n as vs->(ps.zip as).lookup x=some a->k x=some .local->∃v,bindL k (ps.zip vs) m x=some v/\VRel L G h n a v) (λ_ _ e=>AA e) (λp r ih as vs m x a hn q e hk=>by
  cases as with
  | nil=>exact AA e
  | cons b as=>
   obtain⟨v,us,rfl,q1,q2⟩:=q
   have hn:=aE4.mp hn
   exact Bv e (λz y=>by
    subst z;subst y
    refine⟨v,?_,q1⟩
    show bindL k (r.zip us) (if k x=some .local then _ else _) x=some v
    rw[if_pos hk,LY hn.1]
    exact if_pos rfl) λe=>ih hn.2 q2 e hk) ps
def P5{ps:List Str} :∀{as:List AV} {vs:List Value} {m:Str->Option Value} {x:Str} {a:AV},ps.Nodup->VAll L G h n as vs->(ps.zip as).lookup x=some a->k x≠some .local->∃v,bindC k (ps.zip vs) m x=some v/\VRel L G h n a v:=
 Ä (motive:=λps=>∀{as:List AV} {vs:List Value} {m:Str->Option Value} {x:Str} {a:AV},ps.Nodup->VAll L G h n as vs->(ps.zip as).lookup x=some a->k x≠some .local->∃v,bindC k (ps.zip vs) m x=some v/\VRel L G h n a v) (λ_ _ e=>AA e) (λp r ih as vs m x a hn q e hk=>by
  cases as with
  | nil=>exact AA e
  | cons b as=>
   obtain⟨v,us,rfl,q1,q2⟩:=q
   have hn:=aE4.mp hn
   exact Bv e (λz y=>by
    subst z;subst y
    refine⟨v,?_,q1⟩
    show bindC k (r.zip us) (if k x=some .local then _ else _) x=some v
    rw[if_neg hk,LS hn.1]
    exact if_pos rfl) λe=>ih hn.2 q2 e hk) ps
def E2{x:Str}{names:List (Str×ō)} :∀{n:Nat} {acc:List (Str×É)},((x,Ū)∈names\/acc.lookup x≠none)->(cellsFrom n names acc).lookup x≠none:=
 Ä (motive:=λnames=>∀{n:Nat} {acc:List (Str×É)},((x,Ū)∈names\/acc.lookup x≠none)->(cellsFrom n names acc).lookup x≠none) (λ{n acc} h=>h.elim (λz=>nomatch z) id) (λp r ih n acc h=>by
  show(if(p.2==Ū)=true then cellsFrom (n+1) r ((p.1,n)::acc)else cellsFrom n r acc).lookup x≠none
  by_cases hk:(p.2==Ū)=true
  ·rw[if_pos hk]
   refine ih (h.elim (λz=>(È.mp z).elim (λe=>.inr ?_) .inl) λz=>.inr ?_)
   ·rw[<-e];exact λz=>nomatch List.lookup_cons_self.symm.trans z
   ·intro y
    rw[AU]at y
    cases hx:x==p.1 with
    | true=>rw[hx]at y;cases y
    | false=>rw[hx]at y;exact z y
  ·rw[if_neg hk]
   exact ih (h.elim (λz=>(È.mp z).elim (λe=>absurd (e▸rfl) hk) .inl) .inr)) names
end
structure YI(h₀:æ)(fa:É)(fd:aD9)(body:List í)(ps:List Str)(dvs:List Value):Prop where
 obj :∃o,h₀.get? fa=some o/\o.data = .func fd
 lim:h₀.NoLimit
 cod:h₀.CodeRec fd.code fd.qualname
 bod:fd.body = .stmts body
 clo:fd.closure=[]
 nofree :∀x∈fd.scope.names,x.2≠.free
 co:fd.scope.isCoroutine=false
 gen:fd.scope.isGenerator=false
 kind:fd.scope.kind = .function
 nodup:ps.Nodup
 loc :∀x∈ps,fd.scope.names.lookup x=some .local\/fd.scope.names.lookup x=some .cell
 bind :∀(s:zY) (vas:List Value),(∀b o,h₀.get? b=some o->s.heap.get? b=some o)->vas.length+dvs.length=ps.length->aC1 s fd ⟨vas,[]⟩ (ps.zip (vas++dvs))
open Classical in
def Gh.frame(G:Gh)(env:Env):Gh:=⟨λa=>if a=env.locals then some .loc else if h :∃n,env.cells.lookup n=some a then some (.cell h.choose)else G.tag a,G.μ,G.δ⟩
section
variable{G:Gh}{env:Env}{n:Nat}{a:É}{p:AQ}
def HF(e:(G.frame env).tag a=some p):(a=env.locals/\p = .loc)\/(∃y,env.cells.lookup y=some a/\p = .cell y)\/G.tag a=some p:=by
 unfold Gh.frame at e
 dsimp only at e
 split at e
 ·exact .inl ⟨‹_›,(zR e).symm⟩
 ·split at e
  ·rename_i h;exact .inr (.inl ⟨_,h.choose_spec,(zR e).symm⟩)
  ·exact .inr (.inr e)
def Le(hl :∀b,G.own b->b<env.locals)(hc :∀y c,env.cells.lookup y=some c->env.locals<c)(e:G.tag a=some p):(G.frame env).tag a=some p:=by
 have lt:=hl a (A3 e)
 exact(if_neg (ß lt)).trans ((dif_neg λh=>Nat.lt_asymm lt (hc _ _ h.choose_spec)).trans e)
def MA(ha:env.cells.Pairwise λx y=>x.2≠y.2)(hc :∀y c,env.cells.lookup y=some c->env.locals<c){y:Str}(e:env.cells.lookup y=some a):(G.frame env).tag a=some (.cell y):=
 have ex :∃n,env.cells.lookup n=some a:=⟨y,e⟩
 (if_neg (ń (hc y a e))).trans ((dif_pos ex).trans (congrArg (λn=>some (AQ.cell n)) (name_of_addr ha (mem_of_lookup ex.choose_spec) (mem_of_lookup e))))
end
def Jq{L:Cd}{h₀:æ}{d:Nat}{fa:É}{fd:aD9}{body:List í}{ps:List Str}{es:List AV}{dvs:List Value}{P:Pm}{S:WS}{tr:Tr}(K:YI h₀ fa fd body ps dvs)(hdv :∀{L:Cd} {G:Gh} {h:æ} {n:Nat},VAll L G h n es dvs)
  (hP :∀X:Cx,X.L=L->X.h₀=h₀->DE d X.A->X.env.globals=fd.globals->X.env.builtins=fd.builtins->X.env.scope=fd.scope->N8 X S)
  (h :∀as os Q,tr as os Q->(as.length+es.length=ps.length/\C4 os)/\wL P S body (A4 (ps.zip (as++es)) os) (AJ os.length Q)):BW L h₀ (d+1) (.ref fa) tr:=λ{A s G as os Q vas} hA D hO hV ht=>by
 obtain⟨o,ho,hdata⟩:=K.obj
 have hos:=D.base _ _ ho
 refine⟨λQ' E' hq=>?_,?_⟩
 ·unfold keeperOf
  refine zS (ţ hos ?_)
  rw[hdata]
  exact zW (hq _)
 obtain⟨⟨hl,hsh⟩,hw⟩:=h as os Q ht
 have hvl:vas.length+dvs.length=ps.length:=hV.len.symm▸(VAll.len (hdv (L:=L) (G:=G) (h:=s.heap) (n:=0))).symm▸hl
 refine codeAny_call_function (Í (Æ _ _) hA.2.1) hos hdata K.co K.gen K.bod (K.cod.keeps D.base) (K.bind s vas D.base hvl _ _ _ _ ?_)
 rw[K.clo]
 refine wpAny_newFunctionEnv_cells K.kind (λx hx=>(K.loc _ (List.of_mem_zip hx).1).imp id λz=>⟨z,Option.isSome_iff_ne_none.mpr (E2 (.inl (mem_of_lookup z)))⟩) λenv hE s₁ x=>⟨(K.lim.keeps D.base).keeps x.toInCall.keep,codeAny_func ?_⟩
 have e1:env.locals=s.heap.objs.size:=hE▸rfl
 have e2:env.cells=cellsFrom (s.heap.objs.size+1) fd.scope.names []:=hE▸rfl
 have e3:env.scope=fd.scope:=hE▸rfl
 have e4:env.globals=fd.globals:=hE▸rfl
 have e5:env.builtins=fd.builtins:=hE▸rfl
 clear hE
 obtain⟨⟨⟨h₁,tk,hs₁⟩,hns,hkeep,_⟩,hcell,hapart,habove⟩:=x
 have hab :∀y c,env.cells.lookup y=some c->env.locals<c:=λy c e=>habove y c (mem_of_lookup e)
 have lo :∀b,(G.neat os.length).own b->b<env.locals:=λb e=>e1▸D.lt b (Cv.mp e)
 have told :∀{a p},(G.neat os.length).tag a=some p->((G.neat os.length).frame env).tag a=some p:=Le lo hab
 have sz:s.heap.objs.size<=s₁.heap.objs.size:=e1▸Û hns.lt
 have pc :∀{a p},((G.neat os.length).frame env).tag a=some p->s.heap.objs.size<=a\/(G.neat os.length).tag a=some p:=λ{a p} e=>(HF e).elim (λz=>.inl (Â (z.1.trans e1).symm)) λz=>z.elim (λz=>z.elim λy z=>.inl (e1▸Û (hab y a z.1))) .inr
 have oc :∀{a},((G.neat os.length).frame env).own a->s.heap.objs.size<=a\/(G.neat os.length).own a:=λ{a} e=>by
  cases t:((G.neat os.length).frame env).tag a with
  | none=>exact absurd t e
  | some p=>exact(pc t).imp id A3
 let X:Cx:=⟨L,A.deeper env,env,s.heap,h₀,G.neat os.length,os.length,s.gens,s.os⟩
 have p:Dr ⟨G.neat os.length,A4 (ps.zip (as++es)) os,s⟩ ⟨(G.neat os.length).frame env,A4 (ps.zip (as++es)) os,s₁⟩:=⟨λa o e q=>⟨hkeep a o e,λz=>(oc z).elim (CP e) q⟩,λ_ _=>⟨rfl,rfl⟩,zX _⟩
 have hV':VA X ⟨(G.neat os.length).frame env,A4 (ps.zip (as++es)) os,s₁⟩ (as++es) (vas++dvs):=p.va (X:=X) (VAll.append (VAll.sub Gd (λy w e hy=>by cases e;exact⟨rfl,hy⟩) (ER as) hV) hdv)
 have R₀:RS X ⟨(G.neat os.length).frame env,A4 (ps.zip (as++es)) os,s₁⟩:={
  base:=λb o e=>hkeep _ _ (D.base b o e)
  keep:=λb o e _=>hkeep _ _ e
  size:=sz
  mutHs:=λa e=>e.elim λq e=>(pc e.1).elim .inr λz=>.inl ⟨q,z,e.2⟩
  ownB:=λa e=>(oc e).elim (zP D.size) λz=>D.lo a (Cv.mp z)
  ownLt:=λa e=>by
   cases t:((G.neat os.length).frame env).tag a with
   | none=>exact absurd t e
   | some p=>exact(HF t).elim (λz=>z.1▸hns.lt) λz=>z.elim (λz=>z.elim λy z=>(hcell y a z.1).lt) λz=>zZ (D.lt a (Cv.mp (A3 z))) sz
  gens:=by rw[hs₁]
  os:=by rw[hs₁]
  loc:=⟨_,hns,λx av q1 q2=>Ru K.nodup hV' q1 q2⟩
  cel:=λx c e=>⟨_,hcell x c e,λav q1 q2=>(P5 K.nodup hV' q1 q2).imp λv q=>q⟩
  celAll:=λx q1 q2=>q1.elim (λz=>E2 (.inl (mem_of_lookup (e3▸z:fd.scope.names.lookup x=_))) (e2▸q2)) λz=>K.nofree _ (mem_of_lookup (e3▸z:fd.scope.names.lookup x=_)) rfl
  tloc:=if_pos rfl
  tcel:=λx c e=>MA hapart hab e
  obj:=λx o e=>by
   obtain⟨j,b,z,q1,rfl⟩:=JG e
   obtain rfl:x=j:=z.trans (ĩ j)
   have hx:=(zT.mp q1).1
   have g:=HI (hO x b q1) hx (hsh x b q1)
   exact p.obj (X:=X) (told g.tag) (hkeep _) (λt=>⟨hkeep _,told t⟩) ⟨hx,g.tag,g.rel⟩
  anc:=⟨zX _,zX _,λ_ _=>⟨rfl,rfl⟩⟩}
 have H:=hP X rfl rfl ⟨hA.1,by have:=hA.2.1;show A.depth+1+d<_;exact id (ql [_,_,_] 0x21180aa12181a0a18 (by rfl') this),by have:=hA.2.2;show A.units+3+10*d+40<_;exact id (ql [_,_,_] 0x2000028910ac380aaa120000289181a0ac0aa18 (by rfl') this)⟩ e4 e5 e3
 have T :∀(i:Nat) (o:Ob),os[i]?=some o->G.tag (G.δ i)=some (.dict i):=λi o e=>HL (hO i o e)
 refine Ĩ (RB (G:=G.neat os.length) (s:=s) H rfl rfl rfl rfl rfl U8 ⟨λa e=>D.lo a (Cv.mp e),λa e=>D.lt a (Cv.mp e),D.base,D.size⟩ (λi o e=>HL (HI (hO i o e) (zT.mp e).1 (hsh i o e))) (λa e=>told e) R₀ hw) (λfl s' b=>?_) λ_ _ x=>x.elim
 exact⟨_,rfl,OP (λi hi=>T i _ (zV hi)) b⟩
def Sn{L:Cd}{h₀:æ}{d:Nat}{fa:É}{fd:aD9}{body:List í}{ps:List Str}{P:Pm}{S:WS}{tr:Tr}(K:YI h₀ fa fd body ps [])
  (hP :∀X:Cx,X.L=L->X.h₀=h₀->DE d X.A->X.env.globals=fd.globals->X.env.builtins=fd.builtins->X.env.scope=fd.scope->N8 X S)
  (h :∀as os Q,tr as os Q->(as.length=ps.length/\C4 os)/\wL P S body (A4 (ps.zip as) os) (AJ os.length Q)):BW L h₀ (d+1) (.ref fa) tr:=
 Jq (es:=[]) K (λ{_ _ _ _}=>rfl) hP λas os Q ht=>have q:=h as os Q ht;⟨q.1,Eq.mpr (congrArg (λl=>wL P S body (A4 (ps.zip l) os) (AJ os.length Q)) (Ô as)) q.2⟩
end Mine
end
section
open PySem PySem.W PyProof.Rows
namespace Mine
noncomputable abbrev pw:þ:=û
noncomputable def FW:Option í->ô×List í×Scope
 | some (.FunctionDef _ a b _ _ _ sc _ _ _)=>(a,b,sc)
 | _=>(⟨[],[],none,[],[],none,[]⟩,[],⟨.module,[],false,false,[]⟩)
noncomputable def VJ(b:List í):Str:=(docOf b).getD ⟨#[]⟩
def Mc(q:ô×List í×Scope):Str:=VJ q.2.1
noncomputable def dg(n:Nat):List Nat:=Ł (λ_=>[]) (λ_ r n=>cond (Ù n 0) [] (n%128::r (n / 128))) 64 n
def st(n:Nat):Str:=⟨(dg n).toArray⟩
def z0:=st 0xbf7f2edc3bafdf
def z1:=st 0xe7bb4f4d9a7ae2
def z2:=st 0x17efe3df92fdf
def z3:=st 0x17efe5cf875e3c3c2fdf
def z4:=st 0x2fdfe597261dfb2fdf
def z5:=st 0xbf7f1e5e1cefdf
def zK:=st 0x39f3c3b31e2ebcf9e9
def nQ:=st 0x1bb2ec
def mU:=st 0x1e30ed
def wM:=st 0x1bb4ed
def uU:=st 0x3265e9cb7f3
def vN:=st 0x1b7af3
def wQ:=st 0x1937e8e9976f3e787663
def yG:=st 0x65e987965dbd7765
def tU:=st 0xe9cf4ec
def r8:=st 0x1c30ed
def jW:=st 0x65cfbb0f2
def uX:=st 0x1d32f3
def sM:=st 0x65d9c3af4
def sC:=st 0xcbc3cf4
def yV:=st 0x396fe5ca2e5e9d7169e5d3a41
def nB:=st 0x72dfcb945cbc3cd4
def Yu:=st 0xbf7f769c3b6fdf
def Tv:=st 0x17eff3ddbf4f4c3d37eedd86fdf
def cL:=st 0xbf7f9eed3d3669eb8afdf
def ZE:=st 0xbf7f2ecd39afdf
def Ac:=st 0x79e0bba75c6bf6e9c3b31af
def Z7:=st 0x2fdfc997463c38efdf
def fA:=st 0x7d97675c9bf6bc
def O2:=st 0x36617dcb560c36e4bfdf0ec
def J1:=st 0x6cd987bdf
def Hs:=st 0xe597a74cb9f2ece1d7a5f
def Hq:=st 0x68c7d30cd
def I7:=st 0xdfa7a61e57f2f4c3b3ae3d9871df
def GI:=st 0x1cb2e8c7d30cdcb8f765ebc72d3
def H6:=st 0x64cb9725fef8765f
def G3:=st 0x1cf2e3cba785fef8765f
def G8:=st 0x3769c3b385fef8765f
def JL:=st 0x1df0ec
def J7:=st 0x6b
def FP:=st 0x2fdfcbb3ae4dfb6fdf
def Bk:=st 0x3169d99b369c8b99b167e7863
def Jc:=st 0xbf7f2edc3bb661ebc6fdf
def GE:=st 0x17efefdd97769d9d39f2d39afdf
def Ee:=st 0xbf7fa69dda6fdf
def KB:=st 0x17eff4cb9efdf
def Kv:=st 0x17eff4cbcefdf
def Ju:=st 0x2fdfcbd32eccb92fdf
def GA:=st 0x5fbfcf2f4eb8b4f2e9d30dfc7a7a61e9cefdf
def C0:=st 0xcdb32f3
def E4:=st 0x78cb93769
def KT:=st 0x18f7e4
def Xb:=st 0x5fbfd34eed37efaee597a74cb9f2ece1d7a5f
def Un:=st 0x1ab16f
def d7:=st 0x197879e9ab16f
def YO:=st 0xbf7fa65cf7efaee597a74cb9f2ece1d7a5f
def d6:=st 0x65ebb30f6
def V8:=st 0xbf7fa65e77efaee597a74cb9f2ece1d7a5f
def Xr:=st 0x17efe5e997665c97efaee597a74cb9f2ece1d7a5f
def Nl:=st 0xbf7fa63d392fdf
def Nu:=st 0x17efe6cbcb5e1cbdefdf
def RE:=st 0x5fbfcfa6fd9cefdf
def SG:=st 0x1cf26ccba735f
def Pf:=st 0x1cfa6ceb87365c97f26ccba735f
def Jv:=st 0x17eff7cbbafdf
def JR:=st 0x65d7876df
def K7:=st 0xcb8f0ece19795f
def PB:=st 0x17efe5c787670cbcafdf
def Km:=st 0xbf7f970cbcafdf
def Jz:=st 0x1d31e9c9cf0df
def K9:=st 0x2fdfe79f961ef97774cb9efdf
def PM:=st 0x2fdfe79f961bfa31f4c3b6fdf
def FX:=st 0x61
def FK:=st 0x62
def I5:=st 0xcbeb4f3
def bW:=st 0x5fbfb3665c7cf9e1d98efdf
def eI:=st 0xe7b31df
def Vt:=st 0x5fbfdf2eebf7d768c7d30cd
def ZW:=st 0x1cf663
def aE:=st 0xcbb3161e597a69
def Xz:=st 0x3a6cebcf2f2
def Ut:=st 0x1975e1db7d768c7d30cd
def WI:=st 0x5fbfcf9e1d98efdf
def cY:=st 0xe793beb
def XB:=st 0x32e3c3b3865e57d768c7d30cd
def Xw:=st 0x2fdfe5c32f2bf7d768c7d30cd
def V6:=st 0x74c7a7273c37d768c7d30cd
def Wm:=st 0xbf7f9e7e587be5ddd32e7bf7d768c7d30cd
def Wn:=st 0x6083965c5b7aee4193665d399072df99073c3a7641
def WM:=st 0x6283965c5b7aee4193665d399072df99073c3a7641
def WQ:=st 0x6483965c5b7aee4193665d399072df99073c3a7641
def Xq:=st 0x1cf2e8c7d30ed
def Z1:=st 0x3474cfbb2ec
def Kn:=st 0xe7c72f3bfd32f3
def KX:=st 0x63c72f3bfd32f3
def J6:=st 0x65c72f3bfd32f3
def RW:=st 0x62bfbb4e1d18efdfe597463e9866e5c7bb2f5e3969df
def Kd:=st 0x3463e9876dfe9cf2e7ddbf65fc9bb4e6
def Ku:=st 0x1cf5e3dfb315fcfbb4e8c7d30edbfd32e7
def Jo:=st 0x1cf2e4df8f86fbfd32e7
def Jm:=st 0x1cf2e4df8f86fbf932f0ebbf967bfd32e7
def Jw:=st 0x6fd3d30f2
def Ja:=st 0x1bf4f4c3cafebc7a7af1
def KK:=st 0xdfa7a61e57f5e3d3d78dfd9872f2
def Wf:=st 0x0
def Sr:=st 0x35eeebab9e9
def V4:=st 0xd7bbaeadfd3ae1
def V2:=st 0xbf7fa69dda6fdf5dcb2e8c7d30cdcb8f765ebc72d3
def XV:=st 0xe7c72f3bfd32f35dcb2e8c7d30cdcb8f765ebc72d3
def XE:=st 0x63c72f3bfd32f35dcb2e8c7d30cdcb8f765ebc72d3
def W9:=st 0x65c72f3bfd32f35dcb2e8c7d30cdcb8f765ebc72d3
def Sq:=st 0x1a9962
def Iz:=st 0x69
def ZP:=st 0x1d3665
def aV:=st 0x1cf2e3d393769
def eC:=st 0xd7bbaea
def bP:=st 0x1cb0ecebc37f0
def Vc:=st 0x6e
def Yt:=st 0x74e797a6e
def dZ:=st 0xe7e3269
def Sw:=st 0x62bfbb4e1d18efdf
def WY:=st 0x62bfbb4e1d18efdf5dcb2e8c7d30cdcb8f765ebc72d3
def WO:=st 0x1bf661
def Vb:=st 0x1a7461
def YJ:=st 0x1bf662
def Wa:=st 0x1a7462
def ZT:=st 0x1af775d58b9e9
def bE:=st 0x69e9cf2e2
def ZY:=st 0x6ae9cf2e2
def eL:=st 0xcbeb4f3e9cf2e2
def cD:=st 0x6ecbb196a
def cS:=st 0x19f769d1d37ee
def aZ:=st 0xe9973eecbb196a
def dU:=st 0xdd97632d5df2ee
def KE:=st 0x6a
def Vh:=st 0x3463e9876dfe9cf2e7ddbf65fc9bb4e65dcb2e8c7d30cdcb8f765ebc72d3
def bG:=st 0x30ec
def aH:=st 0x316c
def a9:=st 0x65eb97af1
def X8:=st 0x1cf5e3dfb315fcfbb4e8c7d30ed
def OZ:=st 0x78
def Oc:=st 0x18e9
def Nh:=st 0x18ea
def ZG:=st 0x18eb
def dQ:=st 0xe9bb2e3c3ab261bfbb7ee
def Op:=st 0x1969
def OJ:=st 0x196a
def bA:=st 0x196b
def Xn:=st 0x1cf5e3dfb315fcfbb4e8c7d30edbfd32e75dcb2e8c7d30cdcb8f765ebc72d3
def b7:=st 0x3965efcf761
def eU:=st 0x34e1
def Zz:=st 0x3562
def Ng:=st 0x19f0f4
def Vq:=st 0x1cf2e4df8f86fbfd32e75dcb2e8c7d30cdcb8f765ebc72d3
def W8:=st 0x1cf2e4df8f86fbf932f0ebbf967bfd32e75dcb2e8c7d30cdcb8f765ebc72d3
def YC:=st 0x6fd3d30f25dcb2e8c7d30cdcb8f765ebc72d3
def WC:=st 0x1bf4f4c3cafebc7a7af15dcb2e8c7d30cdcb8f765ebc72d3
def XD:=st 0xdfa7a61e57f5e3d3d78dfd9872f25dcb2e8c7d30cdcb8f765ebc72d3
def Zd:=st 0x6bddd7562
def bV:=st 0xe587675e1bf862
def b6:=st 0x3a6eebbf1e2d9b3ae6
def aW:=st 0x1cf2e4df8f86f
def Ry:=st 0x3a70d3cb1f3
def Re:=st 0x73e9e32f4
def RJ:=st 0xcb930ed
def Rj:=st 0x1cf965e9a7977
def QG:=st 0xddcb7e2
def Qk:=st 0x1df2ee
def QX:=st 0xe1bf964
def R8:=st 0xd78f0e2
def Pc:=st 0x1df7ee
def Qc:=st 0x68e797966
def Qo:=st 0x1cb2e8c7d30ed
def SU:=st 0x73cbd37ee
def Pr:=st 0x1cfbefc9bb4f7
def Pa:=st 0x3a61
def Rd:=st 0xc9cb7f7
def QP:=st 0x197ae4
def R1:=st 0x75
def R9:=st 0xc9872f2
def Aq:=st 0xe9cf0e6
def Vz:=st 0xcbbb4ec
def Wj:=st 0x19776f
def nC:=st 0x17efedcbd34f4cb9efdf
def pH:=st 0x197a75c5a7974e985074cbcd0744fbb0e3
def kK:=st 0x32f4eb8b4f2e9d30a0cbd32eccb910744fbb0e3
def n8:=st 0x29cbeb4f340b31205985468c7d30cd
def oQ:=st 0x1074df9d02ce7d3765dbd73f2c2819a0c997a63cbc3c45
def jQ:=st 0x17efeecbb2fdf
def oA:=st 0x1c37f0
def k9:=st 0x40eb9e5db87720c9b32e9cc83265e98f2f0f19777541d37c7
def lV:=st 0x29e495ee5f5a79a059c92bdc4816724af70a8
def j9:=st 0x3a6ceb87365c9d32f3
def kI:=st 0x326ecbc3861
def m7:=st 0xe7e72eb
def jF:=st 0x193261
def iN:=st 0x73db97a69
def jC:=st 0xbf7f9eed387a6edf8efdf
def iV:=st 0x1d32e7
def iH:=st 0xe9cb7f3
def lR:=st 0x1971e1d9c32f2
def kX:=st 0x32f4cbb32e4
def n9:=st 0x3a72cbcf769
def nL:=st 0x6cc3d78e5
def iQ:=st 0x32ece1a7974
def jL:=st 0x182e
def k7:=st 0xe9e32f4
def j4:=st 0xc9bb4eb
def hU:=st 0x1bfbf4
def nA:=st 0xc9872e8
def kT:=st 0xd9a70f4
def jV:=st 0x70
def nZ:=st 0x71
def j3:=st 0x65e597474
def kZ:=st 0x3265ddcbaf4
def lA:=st 0xe9cf2f2
def m8:=st 0x1d3aef
def jY:=st 0x74e7cb4e6
def mC:=st 0x64ddd77e6
def i9:=st 0xe99b2ec
def lQ:=st 0x3befc9bb4f7
def kA:=st 0x1df7ec
def jR:=st 0xd19f4e8
def lO:=st 0x326ecbd3c65
def mX:=st 0x39e5c7974f0
def nW:=st 0xe9cf0ec
def lK:=st 0x33eed3db0e8
noncomputable abbrev kh(P:Ó)(x:Str):Int:=aF8 P x
def q0:ô×List í×Scope:=FW (pw.main.body[0]?)
def q1:ô×List í×Scope:=FW ((AZ (pw.main.body[2]?))[0]?)
def q2:ô×List í×Scope:=FW ((AZ (pw.main.body[2]?))[1]?)
def q3:ô×List í×Scope:=FW ((AZ (pw.main.body[2]?))[2]?)
def q4:ô×List í×Scope:=FW ((AZ (pw.main.body[2]?))[3]?)
def q5:ô×List í×Scope:=FW ((AZ (pw.main.body[3]?))[4]?)
def q6:ô×List í×Scope:=FW ((AZ (pw.main.body[3]?))[5]?)
def q7:ô×List í×Scope:=FW ((AZ (pw.main.body[3]?))[6]?)
def q8:ô×List í×Scope:=FW ((AZ (pw.main.body[3]?))[8]?)
def q9:ô×List í×Scope:=FW ((AZ (pw.main.body[3]?))[9]?)
def Vp:ô×List í×Scope:=FW ((AZ (pw.main.body[3]?))[10]?)
def Yg:ô×List í×Scope:=FW (pw.main.body[4]?)
def V5:ô×List í×Scope:=FW ((AZ (pw.main.body[5]?))[1]?)
def YV:ô×List í×Scope:=FW ((AZ (pw.main.body[5]?))[2]?)
def Y2:ô×List í×Scope:=FW ((AZ (pw.main.body[5]?))[3]?)
def Wt:ô×List í×Scope:=FW ((AZ (pw.main.body[5]?))[4]?)
def Yq:ô×List í×Scope:=FW ((AZ (pw.main.body[5]?))[5]?)
def Xu:ô×List í×Scope:=FW ((AZ (pw.main.body[5]?))[6]?)
def YG:ô×List í×Scope:=FW ((AZ (pw.main.body[5]?))[7]?)
def XI:ô×List í×Scope:=FW ((AZ (pw.main.body[5]?))[8]?)
def Yi:ô×List í×Scope:=FW ((AZ (pw.main.body[5]?))[9]?)
def Vv:ô×List í×Scope:=FW ((AZ (pw.main.body[5]?))[10]?)
def gT:ô×List í×Scope:=FW ((AZ (pw.main.body[5]?))[11]?)
def gM:ô×List í×Scope:=FW ((AZ (pw.main.body[5]?))[12]?)
def Yl:ô×List í×Scope:=FW (pw.main.body[7]?)
def Yn:ô×List í×Scope:=FW (pw.main.body[8]?)
def Yr:ô×List í×Scope:=FW (pw.main.body[9]?)
def fQ:ô×List í×Scope:=FW (pw.main.body[10]?)
noncomputable def ob(t:String)(d:Data):Obj:=⟨.type t,.none,d,#[]⟩
abbrev i0:Value:=.int 0 0
noncomputable def bT:Nat->List Obj->BT
 | n+1,x::r=>.node x (bT n (r.foldr (λx p=>(x::p.2,p.1)) ([],[])).1) (bT n (r.foldr (λx p=>(x::p.2,p.1)) ([],[])).2)
 | _,_=>.nil
noncomputable def h0:Obj:=ob "tuple" (.seq #[] 0)
noncomputable def h1:Obj:=⟨.none,.none,.fields #[],#[]⟩
def h2:Obj:=ob "code" (.fields #[.str fA 182,.str fA 183,.str Ac 184,.int 1 0,i0,i0,i0,i0,.ref 11,.bool .false,.int 181 0,.ref 12,.none,.none,.none,.none,.int 185 0,.int 1 0,.str Ac 186])
def h3:Obj:=⟨.type "frame",.none,.plain,#[.some (.ref 13),.some (.ref 3),.some (.ref 3),.none,.some (.str Yu 164),.none,.some (.ref 0)]⟩
def h4(P:Ó):Obj:=ob "dict" (.dict #[⟨kh P z0,.str z0 165,.str O2 583⟩,⟨kh P z2,.str z2 166,.none⟩,⟨kh P z3,.str z3 167,.none⟩,⟨kh P z4,.str z4 168,.builtin "__main__.__loader__#opaque"⟩,⟨kh P z5,.str z5 169,.none⟩,⟨kh P Tv,.str Tv 170,.ref 6⟩,⟨kh P cL,.str cL 171,.ref 4⟩,⟨kh P ZE,.str ZE 173,.str Ac 172⟩,⟨kh P Z7,.str Z7 174,.none⟩,⟨kh P J1,.str J1 193,.ref 21⟩,⟨kh P Hs,.str Hs 252,.ref 60⟩,⟨kh P Hq,.str Hq 380,.ref 135⟩,⟨kh P I7,.str I7 388,.ref 145⟩,⟨kh P GI,.str GI 582,.ref 242⟩,⟨kh P H6,.str H6 590,.ref 251⟩,⟨kh P G3,.str G3 596,.ref 256⟩,⟨kh P G8,.str G8 602,.ref 261⟩,⟨kh P JL,.str JL 608,.ref 266⟩] 18)
noncomputable def h5:Obj:=⟨.none,.none,.fields #[.int 1 0,i0,.ref 20,.int 5 0,i0,.ref 27,.int 23 0,i0,.ref 71,.int 66 0,i0,.ref 144,.int 70 0,i0,.ref 151,.int 463 0,i0,.ref 250,.int 486 0,i0,.ref 255,.int 502 0,i0,.ref 260,.int 517 0,i0,.ref 265],#[]⟩
def h6:Obj:=ob "tuple" (.seq #[.str J7 190] 0)
def h7:Obj:=⟨.none,.none,.func ⟨J1,J1,q0.1,.stmts q0.2.1,q0.2.2,0,[],.none,.none,.none,.none,.none,.none,.none,0⟩,#[]⟩
def h8:Obj:=ob "code" (.fields #[.str J1 187,.str J1 188,.str Ac 189,.int 1 0,.int 1 0,i0,i0,.int 3 0,.ref 15,.bool .true,.int 181 0,.ref 16,.none,.ref 17,.ref 18,.ref 19,.int 191 0,.int 1 0,.str Ac 192])
def h9:Obj:=ob "function" (.func ⟨J1,J1,q0.1,.stmts q0.2.1,q0.2.2,3,[],.none,.none,.none,.str Yu 164,.none,.ref 20,.none,0⟩)
noncomputable def Zv:Obj:=ob "builtin_function_or_method" (.fields #[.builtin "type.__prepare__",.type "type"])
def yB(P:Ó):Obj:=ob "dict" (.dict #[⟨kh P FP,.str FP 203,.str Bk 194⟩,⟨kh P Jc,.str Jc 205,.str Hs 204⟩,⟨kh P GE,.str GE 207,.int 5 206⟩,⟨kh P Ee,.str Ee 216,.ref 35⟩,⟨kh P KB,.str KB 225,.ref 43⟩,⟨kh P Kv,.str Kv 234,.ref 50⟩,⟨kh P Ju,.str Ju 242,.ref 57⟩,⟨kh P GA,.str GA 245,.ref 58⟩] 8)
noncomputable def zH:Obj:=⟨.none,.none,.fields #[.int 7 0,.int 4 0,.ref 34,.int 11 0,.int 4 0,.ref 42,.int 18 0,.int 4 0,.ref 49,.int 21 0,.int 4 0,.ref 56],#[]⟩
def w5:Obj:=ob "code" (.fields #[.str Hs 198,.str Hs 199,.str Ac 200,.int 5 0,i0,i0,i0,i0,.ref 25,.bool .false,.int 181 0,.ref 26,.none,.none,.none,.none,.int 201 0,.int 5 0,.str Ac 202])
def uA:Obj:=⟨.type "frame",.none,.plain,#[.some (.ref 27),.some (.ref 3),.some (.ref 24),.none,.some (.str Bk 194),.none,.some (.ref 0)]⟩
def sZ:Obj:=ob "tuple" (.seq #[.str C0 211,.str E4 212,.str KT 213] 0)
def zA:Obj:=⟨.none,.none,.func ⟨Ee,Xb,q1.1,.stmts q1.2.1,q1.2.2,0,[],.none,.none,.none,.none,.none,.none,.none,0⟩,#[]⟩
def sG:Obj:=ob "code" (.fields #[.str Ee 208,.str Xb 209,.str Ac 210,.int 7 0,.int 3 0,i0,i0,.int 3 0,.ref 29,.bool .true,.int 181 0,.ref 30,.none,.ref 31,.ref 32,.ref 33,.int 214 0,.int 7 0,.str Ac 215])
def sO:Obj:=ob "function" (.func ⟨Ee,Xb,q1.1,.stmts q1.2.1,q1.2.2,3,[],.none,.none,.none,.str Bk 194,.none,.ref 34,.none,0⟩)
noncomputable def uY:Obj:=ob "tuple" (.seq #[.none] 0)
def xT:Obj:=ob "tuple" (.seq #[.str C0 220,.str Un 221,.str d7 222] 0)
def wS:Obj:=⟨.none,.none,.func ⟨KB,YO,q2.1,.stmts q2.2.1,q2.2.2,0,[],.none,.none,.none,.none,.none,.none,.none,0⟩,#[]⟩
def v8:Obj:=ob "code" (.fields #[.str KB 217,.str YO 218,.str Ac 219,.int 11 0,.int 3 0,i0,i0,.int 3 0,.ref 37,.bool .true,.int 181 0,.ref 38,.none,.ref 39,.ref 40,.ref 41,.int 223 0,.int 11 0,.str Ac 224])
def tK:Obj:=ob "function" (.func ⟨KB,YO,q2.1,.stmts q2.2.1,q2.2.2,3,[],.ref 36,.none,.none,.str Bk 194,.none,.ref 42,.none,0⟩)
def yT:Obj:=ob "tuple" (.seq #[.str C0 229,.str Un 230,.str d6 231] 0)
def tM:Obj:=⟨.none,.none,.func ⟨Kv,V8,q3.1,.stmts q3.2.1,q3.2.2,0,[],.none,.none,.none,.none,.none,.none,.none,0⟩,#[]⟩
def tW:Obj:=ob "code" (.fields #[.str Kv 226,.str V8 227,.str Ac 228,.int 18 0,.int 3 0,i0,i0,.int 3 0,.ref 44,.bool .true,.int 181 0,.ref 45,.none,.ref 46,.ref 47,.ref 48,.int 232 0,.int 18 0,.str Ac 233])
def uB:Obj:=ob "function" (.func ⟨Kv,V8,q3.1,.stmts q3.2.1,q3.2.2,3,[],.none,.none,.none,.str Bk 194,.none,.ref 49,.none,0⟩)
def xV:Obj:=ob "tuple" (.seq #[.str C0 238,.str Un 239] 0)
def rX:Obj:=⟨.none,.none,.func ⟨Ju,Xr,q4.1,.stmts q4.2.1,q4.2.2,0,[],.none,.none,.none,.none,.none,.none,.none,0⟩,#[]⟩
def wA:Obj:=ob "code" (.fields #[.str Ju 235,.str Xr 236,.str Ac 237,.int 21 0,.int 2 0,i0,i0,.int 3 0,.ref 51,.bool .true,.int 181 0,.ref 52,.none,.ref 53,.ref 54,.ref 55,.int 240 0,.int 21 0,.str Ac 241])
def y6:Obj:=ob "function" (.func ⟨Ju,Xr,q4.1,.stmts q4.2.1,q4.2.2,3,[],.none,.none,.none,.str Bk 194,.none,.ref 56,.none,0⟩)
def xB:Obj:=ob "tuple" (.seq #[.str z2 243,.str E4 244] 0)
def r6(P:Ó):Obj:=ob "dict" (.dict #[⟨kh P FP,.str FP 203,.str Bk 194⟩,⟨kh P GE,.str GE 207,.int 5 206⟩,⟨kh P Ee,.str Ee 216,.ref 35⟩,⟨kh P KB,.str KB 225,.ref 43⟩,⟨kh P Kv,.str Kv 234,.ref 50⟩,⟨kh P Ju,.str Ju 242,.ref 57⟩,⟨kh P GA,.str GA 245,.ref 58⟩,⟨kh P Nl,.str Nl 247,.ref 61⟩,⟨kh P Nu,.str Nu 249,.ref 62⟩,⟨kh P z2,.str z2 250,.none⟩] 4)
def vD:Obj:=⟨.type "type",.none,.cls ⟨Hs,[.type "object"],[.ref 60,.type "object"],59,Hs,.true,[],[],.false,.none,.false⟩,#[.none,.none,.some (.str Hs 196),.some (.str Hs 204),.some (.builtin "object.__new__"),.some (.bool .true)]⟩
def xE:Obj:=ob "getset_descriptor" (.fields #[.str Nl 246,.ref 60,.builtin "function.__dict__",.builtin "function.__dict__#set"])
def vR:Obj:=ob "getset_descriptor" (.fields #[.str Nu 248,.ref 60,.builtin "ExceptionGroup.__weakref__",.none])
noncomputable def v5:Obj:=ob "super" (.fields #[.ref 60,.ref 60,.ref 60])
noncomputable def rB:Obj:=ob "builtin_function_or_method" (.fields #[.builtin "object.__init_subclass__",.ref 60])
noncomputable def rE:Obj:=ob "tuple" (.seq #[.type "tuple"] 0)
def sS(P:Ó):Obj:=ob "dict" (.dict #[⟨kh P FP,.str FP 260,.str Bk 194⟩,⟨kh P Jc,.str Jc 262,.str Hq 261⟩,⟨kh P GE,.str GE 264,.int 23 263⟩,⟨kh P z2,.str z2 266,.str (VJ (AZ (pw.main.body[3]?))) 265⟩,⟨kh P RE,.str RE 268,.ref 73⟩,⟨kh P SG,.str SG 272,.ref 74⟩,⟨kh P Pf,.str Pf 273,.ref 75⟩,⟨kh P Jv,.str Jv 284,.ref 82⟩,⟨kh P JR,.str JR 306,.ref 91⟩,⟨kh P K7,.str K7 317,.ref 100⟩,⟨kh P PB,.str PB 318,.ref 100⟩,⟨kh P Km,.str Km 326,.ref 107⟩,⟨kh P Jz,.str Jz 333,.ref 114⟩,⟨kh P K9,.str K9 341,.ref 121⟩,⟨kh P PM,.str PM 345,.ref 122⟩,⟨kh P FX,.str FX 355,.ref 124⟩,⟨kh P FK,.str FK 365,.ref 127⟩,⟨kh P I5,.str I5 375,.ref 130⟩,⟨kh P GA,.str GA 376,.ref 132⟩,⟨kh P bW,.str bW 377,.ref 68⟩] 20)
noncomputable def uK:Obj:=ob "cell" (.cell (.some (.ref 135)))
noncomputable def zL:Obj:=⟨.none,.none,.fields #[.int 29 0,.int 4 0,.ref 81,.int 34 0,.int 4 0,.ref 88,.int 41 0,.int 4 0,.ref 99,.int 52 0,.int 4 0,.ref 106,.int 56 0,.int 4 0,.ref 113,.int 59 0,.int 4 0,.ref 120],#[]⟩
def sD:Obj:=ob "code" (.fields #[.str Hq 255,.str Hq 256,.str Ac 257,.int 23 0,i0,i0,i0,i0,.ref 69,.bool .false,.int 181 0,.ref 70,.none,.none,.none,.none,.int 258 0,.int 23 0,.str Ac 259])
def vZ:Obj:=⟨.type "frame",.none,.plain,#[.some (.ref 71),.some (.ref 3),.some (.ref 67),.none,.some (.str Bk 194),.none,.some (.ref 0)]⟩
def sQ:Obj:=ob "tuple" (.seq #[.str FX 269,.str FK 270,.str I5 271] 0)
noncomputable def qV:Obj:=ob "dict" (.dict #[] 0)
def tS:Obj:=ob "tuple" (.seq #[.str eI 277,.str FX 278,.str FK 279,.str I5 280] 0)
def xG:Obj:=⟨.none,.none,.func ⟨Jv,Vt,q5.1,.stmts q5.2.1,q5.2.2,0,[],.none,.none,.none,.none,.none,.none,.none,0⟩,#[]⟩
def xC:Obj:=ob "code" (.fields #[.str Jv 274,.str Vt 275,.str Ac 276,.int 29 0,.int 4 0,i0,i0,.int 3 0,.ref 76,.bool .true,.int 181 0,.ref 77,.none,.ref 78,.ref 79,.ref 80,.int 281 0,.int 29 0,.str Ac 282])
def xN:Obj:=ob "function" (.func ⟨Jv,Vt,q5.1,.stmts q5.2.1,q5.2.2,3,[],.none,.none,.str (Mc q5) 283,.str Bk 194,.none,.ref 81,.none,0⟩)
def yR:Obj:=ob "tuple" (.seq #[.str ZW 288,.str aE 289,.str Xz 290] 0)
def xZ:Obj:=⟨.none,.none,.func ⟨JR,Ut,q6.1,.stmts q6.2.1,q6.2.2,0,[],.none,.none,.none,.none,.none,.none,.none,0⟩,#[]⟩
def wE:Obj:=ob "code" (.fields #[.str JR 285,.str Ut 286,.str Ac 287,.int 33 0,.int 2 0,i0,i0,.int 3 0,.ref 83,.bool .true,.int 181 0,.ref 84,.none,.ref 85,.ref 86,.ref 87,.int 291 0,.int 33 0,.str Ac 292])
def s6:Obj:=ob "function" (.func ⟨JR,Ut,q6.1,.stmts q6.2.1,q6.2.2,3,[],.none,.none,.str (Mc q6) 293,.str Bk 194,.some 92,.ref 88,.none,0⟩)
def zD(P:Ó):Obj:=ob "dict" (.dict #[⟨kh P FP,.str FP 295,.str Bk 194⟩,⟨kh P z0,.str z0 298,.str JR 297⟩,⟨kh P Jc,.str Jc 301,.str Ut 300⟩,⟨kh P z2,.str z2 303,.str (Mc q6) 293⟩,⟨kh P Tv,.str Tv 305,.ref 92⟩] 5)
noncomputable def uE:Obj:=⟨.type "classmethod",.some 90,.fields #[.ref 89,.bool .false],#[]⟩
noncomputable def rK:Obj:=ob "tuple" (.seq #[.ref 68] 0)
def tE:Obj:=ob "tuple" (.seq #[.str WI 310] 0)
def tJ:Obj:=ob "tuple" (.seq #[.str C0 311,.str cY 312,.str Xz 313] 0)
def uV:Obj:=⟨.none,.none,.func ⟨K7,XB,q7.1,.stmts q7.2.1,q7.2.2,0,[],.none,.none,.none,.none,.none,.none,.none,0⟩,#[]⟩
def tN:Obj:=ob "code" (.fields #[.str K7 307,.str XB 308,.str Ac 309,.int 41 0,.int 1 0,.int 1 0,i0,.int 11 0,.ref 94,.bool .true,.int 181 0,.ref 95,.none,.ref 96,.ref 97,.ref 98,.int 314 0,.int 41 0,.str Ac 315])
def rW:Obj:=ob "function" (.func ⟨K7,XB,q7.1,.stmts q7.2.1,q7.2.2,3,[(WI,68)],.none,.none,.str (Mc q7) 316,.str Bk 194,.none,.ref 99,.ref 93,0⟩)
def zI:Obj:=ob "tuple" (.seq #[.str C0 322] 0)
def Ym:Obj:=⟨.none,.none,.func ⟨Km,Xw,q8.1,.stmts q8.2.1,q8.2.2,0,[],.none,.none,.none,.none,.none,.none,.none,0⟩,#[]⟩
def rH:Obj:=ob "code" (.fields #[.str Km 319,.str Xw 320,.str Ac 321,.int 52 0,.int 1 0,i0,i0,.int 3 0,.ref 101,.bool .true,.int 181 0,.ref 102,.none,.ref 103,.ref 104,.ref 105,.int 323 0,.int 52 0,.str Ac 324])
def v6:Obj:=ob "function" (.func ⟨Km,Xw,q8.1,.stmts q8.2.1,q8.2.2,3,[],.none,.none,.str (Mc q8) 325,.str Bk 194,.none,.ref 106,.none,0⟩)
def rF:Obj:=ob "tuple" (.seq #[.str C0 330] 0)
def vU:Obj:=⟨.none,.none,.func ⟨Jz,V6,q9.1,.stmts q9.2.1,q9.2.2,0,[],.none,.none,.none,.none,.none,.none,.none,0⟩,#[]⟩
def tH:Obj:=ob "code" (.fields #[.str Jz 327,.str V6 328,.str Ac 329,.int 56 0,.int 1 0,i0,i0,.int 3 0,.ref 108,.bool .true,.int 181 0,.ref 109,.none,.ref 110,.ref 111,.ref 112,.int 331 0,.int 56 0,.str Ac 332])
def yN:Obj:=ob "function" (.func ⟨Jz,V6,q9.1,.stmts q9.2.1,q9.2.2,3,[],.none,.none,.none,.str Bk 194,.none,.ref 113,.none,0⟩)
def tF:Obj:=ob "tuple" (.seq #[.str C0 337] 0)
def xO:Obj:=⟨.none,.none,.func ⟨K9,Wm,Vp.1,.stmts Vp.2.1,Vp.2.2,0,[],.none,.none,.none,.none,.none,.none,.none,0⟩,#[]⟩
def rQ:Obj:=ob "code" (.fields #[.str K9 334,.str Wm 335,.str Ac 336,.int 59 0,.int 1 0,i0,i0,.int 3 0,.ref 115,.bool .true,.int 181 0,.ref 116,.none,.ref 117,.ref 118,.ref 119,.int 338 0,.int 59 0,.str Ac 339])
def zG:Obj:=ob "function" (.func ⟨K9,Wm,Vp.1,.stmts Vp.2.1,Vp.2.2,3,[],.none,.none,.str (Mc Vp) 340,.str Bk 194,.none,.ref 120,.none,0⟩)
def tX:Obj:=ob "tuple" (.seq #[.str FX 342,.str FK 343,.str I5 344] 0)
def xF(P:Ó):Obj:=ob "dict" (.dict #[⟨kh P E4,.str E4 352,.int 0 346⟩,⟨kh P z2,.str z2 354,.str Wn 347⟩] 2)
noncomputable def w7:Obj:=⟨.ref 60,.some 123,.plain,#[]⟩
def vQ(P:Ó):Obj:=ob "frame" (.dict #[⟨kh P C0,.str C0 348,.ref 124⟩,⟨kh P E4,.str E4 349,.int 0 346⟩,⟨kh P KT,.str KT 350,.str Wn 347⟩] 3)
def uQ(P:Ó):Obj:=ob "dict" (.dict #[⟨kh P E4,.str E4 362,.int 1 356⟩,⟨kh P z2,.str z2 364,.str WM 357⟩] 2)
noncomputable def yW:Obj:=⟨.ref 60,.some 126,.plain,#[]⟩
def sY(P:Ó):Obj:=ob "frame" (.dict #[⟨kh P C0,.str C0 358,.ref 127⟩,⟨kh P E4,.str E4 359,.int 1 356⟩,⟨kh P KT,.str KT 360,.str WM 357⟩] 3)
def wV(P:Ó):Obj:=ob "dict" (.dict #[⟨kh P E4,.str E4 372,.int 2 366⟩,⟨kh P z2,.str z2 374,.str WQ 367⟩] 2)
noncomputable def uO:Obj:=⟨.ref 60,.some 129,.plain,#[]⟩
def sB(P:Ó):Obj:=ob "frame" (.dict #[⟨kh P C0,.str C0 368,.ref 130⟩,⟨kh P E4,.str E4 369,.int 2 366⟩,⟨kh P KT,.str KT 370,.str WQ 367⟩] 3)
noncomputable def wD:Obj:=ob "list" (.seq #[] 0)
def tD(P:Ó):Obj:=ob "dict" (.dict #[⟨kh P FP,.str FP 260,.str Bk 194⟩,⟨kh P GE,.str GE 264,.int 23 263⟩,⟨kh P z2,.str z2 266,.str (VJ (AZ (pw.main.body[3]?))) 265⟩,⟨kh P RE,.str RE 268,.ref 73⟩,⟨kh P SG,.str SG 272,.ref 74⟩,⟨kh P Pf,.str Pf 273,.ref 75⟩,⟨kh P Jv,.str Jv 284,.ref 136⟩,⟨kh P JR,.str JR 306,.ref 91⟩,⟨kh P K7,.str K7 317,.ref 100⟩,⟨kh P PB,.str PB 318,.ref 100⟩,⟨kh P Km,.str Km 326,.ref 107⟩,⟨kh P Jz,.str Jz 333,.ref 114⟩,⟨kh P K9,.str K9 341,.ref 121⟩,⟨kh P PM,.str PM 345,.ref 122⟩,⟨kh P FX,.str FX 355,.ref 124⟩,⟨kh P FK,.str FK 365,.ref 127⟩,⟨kh P I5,.str I5 375,.ref 130⟩,⟨kh P GA,.str GA 376,.ref 132⟩] 2)
def wK:Obj:=⟨.type "type",.none,.cls ⟨Hq,[.type "tuple"],[.ref 135,.type "tuple",.type "object"],134,Hq,.false,[],[],.false,.none,.false⟩,#[.some (.ref 65),.none,.some (.str Hq 253),.some (.str Hq 261),.some .none,.some (.bool .false)]⟩
noncomputable def wG:Obj:=ob "staticmethod" (.fields #[.ref 82])
noncomputable def uH:Obj:=ob "super" (.fields #[.ref 135,.ref 135,.ref 135])
noncomputable def sF:Obj:=ob "builtin_function_or_method" (.fields #[.builtin "object.__init_subclass__",.ref 135])
def xS:Obj:=ob "tuple" (.seq #[.str Xq 384,.str Z1 385] 0)
def y9:Obj:=⟨.none,.none,.func ⟨I7,I7,Yg.1,.stmts Yg.2.1,Yg.2.2,0,[],.none,.none,.none,.none,.none,.none,.none,0⟩,#[]⟩
def tO:Obj:=ob "code" (.fields #[.str I7 381,.str I7 382,.str Ac 383,.int 66 0,.int 2 0,i0,i0,.int 3 0,.ref 139,.bool .true,.int 181 0,.ref 140,.none,.ref 141,.ref 142,.ref 143,.int 386 0,.int 66 0,.str Ac 387])
def uR:Obj:=ob "function" (.func ⟨I7,I7,Yg.1,.stmts Yg.2.1,Yg.2.2,3,[],.none,.none,.none,.str Bk 194,.none,.ref 144,.none,0⟩)
def rI(P:Ó):Obj:=ob "dict" (.dict #[⟨kh P FP,.str FP 396,.str Bk 194⟩,⟨kh P Jc,.str Jc 398,.str GI 397⟩,⟨kh P GE,.str GE 400,.int 70 399⟩,⟨kh P z2,.str z2 402,.str (VJ (AZ (pw.main.body[5]?))) 401⟩,⟨kh P Ee,.str Ee 417,.ref 160⟩,⟨kh P Kn,.str Kn 427,.ref 167⟩,⟨kh P KX,.str KX 436,.ref 174⟩,⟨kh P J6,.str J6 445,.ref 181⟩,⟨kh P RW,.str RW 463,.ref 188⟩,⟨kh P Kd,.str Kd 491,.ref 196⟩,⟨kh P Ku,.str Ku 518,.ref 203⟩,⟨kh P Jo,.str Jo 533,.ref 210⟩,⟨kh P Jm,.str Jm 542,.ref 218⟩,⟨kh P Jw,.str Jw 551,.ref 225⟩,⟨kh P Ja,.str Ja 558,.ref 232⟩,⟨kh P KK,.str KK 565,.ref 239⟩,⟨kh P GA,.str GA 576,.ref 240⟩] 17)
noncomputable def vG:Obj:=⟨.none,.none,.fields #[.int 145 0,.int 4 0,.ref 159,.int 173 0,.int 4 0,.ref 166,.int 184 0,.int 4 0,.ref 173,.int 209 0,.int 4 0,.ref 180,.int 236 0,.int 4 0,.ref 187,.int 260 0,.int 4 0,.ref 195,.int 335 0,.int 4 0,.ref 202,.int 383 0,.int 4 0,.ref 209,.int 430 0,.int 4 0,.ref 217,.int 433 0,.int 4 0,.ref 224,.int 457 0,.int 4 0,.ref 231,.int 460 0,.int 4 0,.ref 238],#[]⟩
def yX:Obj:=ob "code" (.fields #[.str GI 391,.str GI 392,.str Ac 393,.int 70 0,i0,i0,i0,i0,.ref 149,.bool .false,.int 181 0,.ref 150,.none,.none,.none,.none,.int 394 0,.int 70 0,.str Ac 395])
def tA:Obj:=⟨.type "frame",.none,.plain,#[.some (.ref 151),.some (.ref 3),.some (.ref 148),.none,.some (.str Bk 194),.none,.some (.ref 0)]⟩
def xP:Obj:=ob "tuple" (.seq #[.none,.str Wf 404,.str Wf 405,.bool .true] 0)
def oB:Obj:=ob "tuple" (.seq #[.str C0 409,.str Sr 410,.str FX 411,.str FK 412,.str V4 413] 0)
def lG:Obj:=⟨.none,.none,.func ⟨Ee,V2,V5.1,.stmts V5.2.1,V5.2.2,0,[],.none,.none,.none,.none,.none,.none,.none,0⟩,#[]⟩
def kM:Obj:=ob "code" (.fields #[.str Ee 406,.str V2 407,.str Ac 408,.int 145 0,.int 5 0,i0,i0,.int 3 0,.ref 154,.bool .true,.int 181 0,.ref 155,.none,.ref 156,.ref 157,.ref 158,.int 414 0,.int 145 0,.str Ac 415])
def iL:Obj:=ob "function" (.func ⟨Ee,V2,V5.1,.stmts V5.2.1,V5.2.2,3,[],.ref 153,.none,.str (Mc V5) 416,.str Bk 194,.none,.ref 159,.none,0⟩)
def mJ:Obj:=ob "tuple" (.seq #[.str C0 421,.str FX 422,.str FK 423] 0)
def pJ:Obj:=⟨.none,.none,.func ⟨Kn,XV,YV.1,.stmts YV.2.1,YV.2.2,0,[],.none,.none,.none,.none,.none,.none,.none,0⟩,#[]⟩
def jO:Obj:=ob "code" (.fields #[.str Kn 418,.str XV 419,.str Ac 420,.int 173 0,.int 3 0,i0,i0,.int 3 0,.ref 161,.bool .true,.int 181 0,.ref 162,.none,.ref 163,.ref 164,.ref 165,.int 424 0,.int 173 0,.str Ac 425])
def kO:Obj:=ob "function" (.func ⟨Kn,XV,YV.1,.stmts YV.2.1,YV.2.2,3,[],.none,.none,.str (Mc YV) 426,.str Bk 194,.none,.ref 166,.none,0⟩)
def jB:Obj:=ob "tuple" (.seq #[.str C0 431,.str FX 432] 0)
def oD:Obj:=⟨.none,.none,.func ⟨KX,XE,Y2.1,.stmts Y2.2.1,Y2.2.2,0,[],.none,.none,.none,.none,.none,.none,.none,0⟩,#[]⟩
def jX:Obj:=ob "code" (.fields #[.str KX 428,.str XE 429,.str Ac 430,.int 184 0,.int 2 0,i0,i0,.int 3 0,.ref 168,.bool .true,.int 181 0,.ref 169,.none,.ref 170,.ref 171,.ref 172,.int 433 0,.int 184 0,.str Ac 434])
def pG:Obj:=ob "function" (.func ⟨KX,XE,Y2.1,.stmts Y2.2.1,Y2.2.2,3,[],.none,.none,.str (Mc Y2) 435,.str Bk 194,.none,.ref 173,.none,0⟩)
def jD:Obj:=ob "tuple" (.seq #[.str C0 440,.str FK 441] 0)
def oY:Obj:=⟨.none,.none,.func ⟨J6,W9,Wt.1,.stmts Wt.2.1,Wt.2.2,0,[],.none,.none,.none,.none,.none,.none,.none,0⟩,#[]⟩
def mG:Obj:=ob "code" (.fields #[.str J6 437,.str W9 438,.str Ac 439,.int 209 0,.int 2 0,i0,i0,.int 3 0,.ref 175,.bool .true,.int 181 0,.ref 176,.none,.ref 177,.ref 178,.ref 179,.int 442 0,.int 209 0,.str Ac 443])
def nN:Obj:=ob "function" (.func ⟨J6,W9,Wt.1,.stmts Wt.2.1,Wt.2.2,3,[],.none,.none,.str (Mc Wt) 444,.str Bk 194,.none,.ref 180,.none,0⟩)
def nR:Obj:=ob "tuple" (.seq #[.str C0 449,.str FK 450,.str Sq 451,.str Iz 452,.str ZP 453,.str aV 454,.str eC 455,.str Sr 456,.str bP 457,.str Vc 458,.str Yt 459,.str dZ 460] 0)
def mN:Obj:=⟨.none,.none,.func ⟨Sw,WY,Yq.1,.stmts Yq.2.1,Yq.2.2,0,[],.none,.none,.none,.none,.none,.none,.none,0⟩,#[]⟩
def jJ:Obj:=ob "code" (.fields #[.str Sw 446,.str WY 447,.str Ac 448,.int 236 0,.int 1 0,i0,i0,.int 3 0,.ref 182,.bool .true,.int 181 0,.ref 183,.none,.ref 184,.ref 185,.ref 186,.int 461 0,.int 236 0,.str Ac 462])
def lD:Obj:=ob "function" (.func ⟨Sw,WY,Yq.1,.stmts Yq.2.1,Yq.2.2,3,[],.none,.none,.none,.str Bk 194,.none,.ref 187,.none,0⟩)
noncomputable def nO:Obj:=ob "tuple" (.seq #[.int 0 464,.none,.int 0 465,.none] 0)
def kH:Obj:=ob "tuple" (.seq #[.str C0 469,.str WO 470,.str Vb 471,.str YJ 472,.str Wa 473,.str FX 474,.str FK 475,.str Sq 476,.str ZT 477,.str bE 478,.str ZY 479,.str eL 480,.str cD 481,.str cS 482,.str Iz 483,.str aZ 484,.str dU 485,.str KE 486,.str J7 487] 0)
def mI:Obj:=⟨.none,.none,.func ⟨Kd,Vh,Xu.1,.stmts Xu.2.1,Xu.2.2,0,[],.none,.none,.none,.none,.none,.none,.none,0⟩,#[]⟩
def mP:Obj:=ob "code" (.fields #[.str Kd 466,.str Vh 467,.str Ac 468,.int 260 0,.int 5 0,i0,i0,.int 3 0,.ref 190,.bool .true,.int 181 0,.ref 191,.none,.ref 192,.ref 193,.ref 194,.int 488 0,.int 260 0,.str Ac 489])
def lI:Obj:=ob "function" (.func ⟨Kd,Vh,Xu.1,.stmts Xu.2.1,Xu.2.2,3,[],.ref 189,.none,.str (Mc Xu) 490,.str Bk 194,.none,.ref 195,.none,0⟩)
def nJ:Obj:=ob "tuple" (.seq #[.str C0 495,.str bG 496,.str aH 497,.str a9 498,.str X8 499,.str WO 500,.str Vb 501,.str YJ 502,.str Wa 503,.str Iz 504,.str KE 505,.str J7 506,.str OZ 507,.str Oc 508,.str Nh 509,.str ZG 510,.str dQ 511,.str Op 512,.str OJ 513,.str bA 514] 0)
def mK:Obj:=⟨.none,.none,.func ⟨Ku,Xn,YG.1,.stmts YG.2.1,YG.2.2,0,[],.none,.none,.none,.none,.none,.none,.none,0⟩,#[]⟩
def kN:Obj:=ob "code" (.fields #[.str Ku 492,.str Xn 493,.str Ac 494,.int 335 0,.int 1 0,i0,i0,.int 3 0,.ref 197,.bool .true,.int 181 0,.ref 198,.none,.ref 199,.ref 200,.ref 201,.int 515 0,.int 335 0,.str Ac 516])
def g8:Obj:=ob "function" (.func ⟨Ku,Xn,YG.1,.stmts YG.2.1,YG.2.2,3,[],.none,.none,.str (Mc YG) 517,.str Bk 194,.none,.ref 202,.none,0⟩)
def oL:Obj:=ob "tuple" (.seq #[.str C0 522,.str Iz 523,.str KE 524,.str b7 525,.str eU 526,.str Zz 527,.str I5 528,.str Ng 529] 0)
def mW:Obj:=⟨.none,.none,.func ⟨Jo,Vq,XI.1,.stmts XI.2.1,XI.2.2,0,[],.none,.none,.none,.none,.none,.none,.none,0⟩,#[]⟩
def lB:Obj:=ob "code" (.fields #[.str Jo 519,.str Vq 520,.str Ac 521,.int 383 0,.int 1 0,i0,i0,.int 3 0,.ref 204,.bool .true,.int 181 0,.ref 205,.none,.ref 206,.ref 207,.ref 208,.int 530 0,.int 383 0,.str Ac 531])
def mE:Obj:=ob "function" (.func ⟨Jo,Vq,XI.1,.stmts XI.2.1,XI.2.2,3,[],.none,.none,.str (Mc XI) 532,.str Bk 194,.none,.ref 209,.none,0⟩)
noncomputable def jZ:Obj:=ob "tuple" (.seq #[.int 3 534] 0)
def k8:Obj:=ob "tuple" (.seq #[.str C0 538,.str Vc 539] 0)
def jP:Obj:=⟨.none,.none,.func ⟨Jm,W8,Yi.1,.stmts Yi.2.1,Yi.2.2,0,[],.none,.none,.none,.none,.none,.none,.none,0⟩,#[]⟩
def kD:Obj:=ob "code" (.fields #[.str Jm 535,.str W8 536,.str Ac 537,.int 430 0,.int 2 0,i0,i0,.int 3 0,.ref 212,.bool .true,.int 181 0,.ref 213,.none,.ref 214,.ref 215,.ref 216,.int 540 0,.int 430 0,.str Ac 541])
def m6:Obj:=ob "function" (.func ⟨Jm,W8,Yi.1,.stmts Yi.2.1,Yi.2.2,3,[],.ref 211,.none,.none,.str Bk 194,.none,.ref 217,.none,0⟩)
def oX:Obj:=ob "tuple" (.seq #[.str C0 546,.str Xq 547] 0)
def l7:Obj:=⟨.none,.none,.func ⟨Jw,YC,Vv.1,.stmts Vv.2.1,Vv.2.2,0,[],.none,.none,.none,.none,.none,.none,.none,0⟩,#[]⟩
def oK:Obj:=ob "code" (.fields #[.str Jw 543,.str YC 544,.str Ac 545,.int 433 0,.int 1 0,i0,i0,.int 3 0,.ref 219,.bool .true,.int 181 0,.ref 220,.none,.ref 221,.ref 222,.ref 223,.int 548 0,.int 433 0,.str Ac 549])
def jH:Obj:=ob "function" (.func ⟨Jw,YC,Vv.1,.stmts Vv.2.1,Vv.2.2,3,[],.none,.none,.str (Mc Vv) 550,.str Bk 194,.none,.ref 224,.none,0⟩)
def pL:Obj:=ob "tuple" (.seq #[.str C0 555] 0)
def lJ:Obj:=⟨.none,.none,.func ⟨Ja,WC,gT.1,.stmts gT.2.1,q9.2.2,0,[],.none,.none,.none,.none,.none,.none,.none,0⟩,#[]⟩
def jN:Obj:=ob "code" (.fields #[.str Ja 552,.str WC 553,.str Ac 554,.int 457 0,.int 1 0,i0,i0,.int 3 0,.ref 226,.bool .true,.int 181 0,.ref 227,.none,.ref 228,.ref 229,.ref 230,.int 556 0,.int 457 0,.str Ac 557])
def mY:Obj:=ob "function" (.func ⟨Ja,WC,gT.1,.stmts gT.2.1,q9.2.2,3,[],.none,.none,.none,.str Bk 194,.none,.ref 231,.none,0⟩)
def nU:Obj:=ob "tuple" (.seq #[.str C0 562] 0)
def iE:Obj:=⟨.none,.none,.func ⟨KK,XD,gM.1,.stmts gM.2.1,q9.2.2,0,[],.none,.none,.none,.none,.none,.none,.none,0⟩,#[]⟩
def pC:Obj:=ob "code" (.fields #[.str KK 559,.str XD 560,.str Ac 561,.int 460 0,.int 1 0,i0,i0,.int 3 0,.ref 233,.bool .true,.int 181 0,.ref 234,.none,.ref 235,.ref 236,.ref 237,.int 563 0,.int 460 0,.str Ac 564])
def i8:Obj:=ob "function" (.func ⟨KK,XD,gM.1,.stmts gM.2.1,q9.2.2,3,[],.none,.none,.none,.str Bk 194,.none,.ref 238,.none,0⟩)
def iK:Obj:=ob "tuple" (.seq #[.str FX 566,.str V4 567,.str FK 568,.str Sq 569,.str Zd 570,.str bV 571,.str b6 572,.str Sr 573,.str X8 574,.str aW 575] 0)
def mL(P:Ó):Obj:=ob "dict" (.dict #[⟨kh P FP,.str FP 396,.str Bk 194⟩,⟨kh P GE,.str GE 400,.int 70 399⟩,⟨kh P z2,.str z2 402,.str (VJ (AZ (pw.main.body[5]?))) 401⟩,⟨kh P Ee,.str Ee 417,.ref 160⟩,⟨kh P Kn,.str Kn 427,.ref 167⟩,⟨kh P KX,.str KX 436,.ref 174⟩,⟨kh P J6,.str J6 445,.ref 181⟩,⟨kh P RW,.str RW 463,.ref 188⟩,⟨kh P Kd,.str Kd 491,.ref 196⟩,⟨kh P Ku,.str Ku 518,.ref 203⟩,⟨kh P Jo,.str Jo 533,.ref 210⟩,⟨kh P Jm,.str Jm 542,.ref 218⟩,⟨kh P Jw,.str Jw 551,.ref 225⟩,⟨kh P Ja,.str Ja 558,.ref 232⟩,⟨kh P KK,.str KK 565,.ref 239⟩,⟨kh P GA,.str GA 576,.ref 240⟩,⟨kh P Nl,.str Nl 578,.ref 243⟩,⟨kh P Nu,.str Nu 580,.ref 244⟩] 3)
def iZ:Obj:=⟨.type "type",.none,.cls ⟨GI,[.type "object"],[.ref 242,.type "object"],241,GI,.true,[],[],.false,.none,.false⟩,#[.none,.none,.some (.str GI 389),.some (.str GI 397),.some (.builtin "object.__new__"),.some (.bool .true)]⟩
def kE:Obj:=ob "getset_descriptor" (.fields #[.str Nl 577,.ref 242,.builtin "function.__dict__",.builtin "function.__dict__#set"])
def oH:Obj:=ob "getset_descriptor" (.fields #[.str Nu 579,.ref 242,.builtin "ExceptionGroup.__weakref__",.none])
noncomputable def oJ:Obj:=ob "super" (.fields #[.ref 242,.ref 242,.ref 242])
noncomputable def oZ:Obj:=ob "builtin_function_or_method" (.fields #[.builtin "object.__init_subclass__",.ref 242])
def iF:Obj:=⟨.none,.none,.func ⟨H6,H6,Yl.1,.stmts Yl.2.1,Yl.2.2,0,[],.none,.none,.none,.none,.none,.none,.none,0⟩,#[]⟩
def kL:Obj:=ob "code" (.fields #[.str H6 585,.str H6 586,.str Ac 587,.int 463 0,.int 3 0,i0,i0,.int 3 0,.ref 247,.bool .true,.int 181 0,.ref 248,.none,.none,.none,.ref 249,.int 588 0,.int 463 0,.str Ac 589])
def kU:Obj:=ob "function" (.func ⟨H6,H6,Yl.1,.stmts Yl.2.1,Yl.2.2,3,[],.none,.none,.none,.str O2 583,.none,.ref 250,.none,0⟩)
def lX:Obj:=⟨.none,.none,.func ⟨G3,G3,Yn.1,.stmts Yn.2.1,Yn.2.2,0,[],.none,.none,.none,.none,.none,.none,.none,0⟩,#[]⟩
def oO:Obj:=ob "code" (.fields #[.str G3 591,.str G3 592,.str Ac 593,.int 486 0,.int 3 0,i0,i0,.int 3 0,.ref 252,.bool .true,.int 181 0,.ref 253,.none,.none,.none,.ref 254,.int 594 0,.int 486 0,.str Ac 595])
def iJ:Obj:=ob "function" (.func ⟨G3,G3,Yn.1,.stmts Yn.2.1,Yn.2.2,3,[],.none,.none,.none,.str O2 583,.none,.ref 255,.none,0⟩)
def nG:Obj:=⟨.none,.none,.func ⟨G8,G8,Yr.1,.stmts Yr.2.1,Yr.2.2,0,[],.none,.none,.none,.none,.none,.none,.none,0⟩,#[]⟩
def n0:Obj:=ob "code" (.fields #[.str G8 597,.str G8 598,.str Ac 599,.int 502 0,.int 3 0,i0,i0,.int 3 0,.ref 257,.bool .true,.int 181 0,.ref 258,.none,.none,.none,.ref 259,.int 600 0,.int 502 0,.str Ac 601])
def m5:Obj:=ob "function" (.func ⟨G8,G8,Yr.1,.stmts Yr.2.1,Yr.2.2,3,[],.none,.none,.none,.str O2 583,.none,.ref 260,.none,0⟩)
def lM:Obj:=⟨.none,.none,.func ⟨JL,JL,fQ.1,.stmts fQ.2.1,⟨.function,[(Ry,.local),(Re,.cell),(RJ,.local),(Rj,.local),(QG,.cell),(OZ,.local),(Qk,.cell),(QX,.cell),(R8,.local),(Pc,.cell),(Qc,.local),(Qo,.local),(SU,.local),(Pr,.local),(Pa,.local),(Ng,.local),(Oc,.local),(Op,.local),(Nh,.local),(OJ,.local),(Rd,.local),(KE,.local),(QP,.local),(R1,.local),(R9,.local),(Iz,.local),(J7,.local),(H6,.globalImplicit),(nQ,.globalImplicit),(mU,.globalImplicit),(GI,.globalImplicit),(G8,.globalImplicit),(jW,.globalImplicit),(G3,.globalImplicit)],.false,.false,[(Aq,.str Ry),(Aq,.str Re),(Aq,.str RJ),(Aq,.str Vz),(Aq,.str Rj),(Aq,.str QG),(Aq,.str OZ),(Aq,.str Qk),(Aq,.str QX),(Aq,.str R8),(Aq,.str Pc),(Aq,.str Qc),(Aq,.str Wj),(Aq,.str Qo),(Aq,.str SU),(Aq,.str Pr),(Aq,.str Pa),(Aq,.str Ng),(Aq,.str Oc),(Aq,.str Op),(Aq,.str Nh),(Aq,.str OJ),(Aq,.str Rd),(Aq,.str KE),(Aq,.str QP),(Aq,.str R1),(Aq,.str R9),(Aq,.str Iz),(Aq,.str J7)]⟩,0,[],.none,.none,.none,.none,.none,.none,.none,0⟩,#[]⟩
def mS:Obj:=ob "code" (.fields #[.str JL 603,.str JL 604,.str Ac 605,.int 517 0,.int 1 0,i0,i0,.int 3 0,.ref 262,.bool .true,.int 181 0,.ref 263,.none,.none,.none,.ref 264,.int 606 0,.int 517 0,.str Ac 607])
def mD:Obj:=ob "function" (.func ⟨JL,JL,fQ.1,.stmts fQ.2.1,⟨.function,[(Ry,.local),(Re,.cell),(RJ,.local),(Rj,.local),(QG,.cell),(OZ,.local),(Qk,.cell),(QX,.cell),(R8,.local),(Pc,.cell),(Qc,.local),(Qo,.local),(SU,.local),(Pr,.local),(Pa,.local),(Ng,.local),(Oc,.local),(Op,.local),(Nh,.local),(OJ,.local),(Rd,.local),(KE,.local),(QP,.local),(R1,.local),(R9,.local),(Iz,.local),(J7,.local),(H6,.globalImplicit),(nQ,.globalImplicit),(mU,.globalImplicit),(GI,.globalImplicit),(G8,.globalImplicit),(jW,.globalImplicit),(G3,.globalImplicit)],.false,.false,[(Aq,.str Ry),(Aq,.str Re),(Aq,.str RJ),(Aq,.str Vz),(Aq,.str Rj),(Aq,.str QG),(Aq,.str OZ),(Aq,.str Qk),(Aq,.str QX),(Aq,.str R8),(Aq,.str Pc),(Aq,.str Qc),(Aq,.str Wj),(Aq,.str Qo),(Aq,.str SU),(Aq,.str Pr),(Aq,.str Pa),(Aq,.str Ng),(Aq,.str Oc),(Aq,.str Op),(Aq,.str Nh),(Aq,.str OJ),(Aq,.str Rd),(Aq,.str KE),(Aq,.str QP),(Aq,.str R1),(Aq,.str R9),(Aq,.str Iz),(Aq,.str J7)]⟩,3,[],.none,.none,.none,.str O2 583,.none,.ref 265,.none,0⟩)
def o0(P:Ó):List Obj:=[boot_o_0 P,boot_o_1 P,boot_o_2 P,h4 P,boot_o_4 P,boot_o_5 P,boot_o_6 P,boot_o_7 P,boot_o_8 P,boot_o_9 P,boot_o_10 P,h0]
def o1(P:Ó):List Obj:=[h5,h2,h3,h0,h1,h6,h0,h7,h8,h9,h0,Zv]
def o2(P:Ó):List Obj:=[yB P,h0,zH,w5,uA,h0,h1,sZ,h0,zA,sG,sO]
def o3(P:Ó):List Obj:=[uY,h0,h1,xT,h0,wS,v8,tK,h0,h1,yT,h0]
def o4(P:Ó):List Obj:=[tM,tW,uB,h0,h1,xV,h0,rX,wA,y6,xB,r6 P]
def o5(P:Ó):List Obj:=[vD,xE,vR,v5,rB,rE,Zv,sS P,uK,h0,zL,sD]
def o6(P:Ó):List Obj:=[vZ,h0,sQ,qV,h0,h1,tS,h0,xG,xC,xN,h0]
def o7(P:Ó):List Obj:=[h1,yR,h0,xZ,wE,s6,zD P,uE,qV,rK,tE,h1]
def o8(P:Ó):List Obj:=[tJ,h0,uV,tN,rW,h0,h1,zI,h0,Ym,rH,v6]
def o9(P:Ó):List Obj:=[h0,h1,rF,h0,vU,tH,yN,h0,h1,tF,h0,xO]
def rC(P:Ó):List Obj:=[rQ,zG,tX,xF P,w7,vQ P,uQ P,yW,sY P,wV P,uO,sB P]
def tB(P:Ó):List Obj:=[h0,wD,tD P,wK,wG,uH,sF,h0,h1,xS,h0,y9]
def tL(P:Ó):List Obj:=[tO,uR,h0,Zv,rI P,h0,vG,yX,tA,xP,h0,h1]
def t9(P:Ó):List Obj:=[oB,h0,lG,kM,iL,h0,h1,mJ,h0,pJ,jO,kO]
def vP(P:Ó):List Obj:=[h0,h1,jB,h0,oD,jX,pG,h0,h1,jD,h0,oY]
def tZ(P:Ó):List Obj:=[mG,nN,h0,h1,nR,h0,mN,jJ,lD,nO,h0,h1]
def tV(P:Ó):List Obj:=[kH,h0,mI,mP,lI,h0,h1,nJ,h0,mK,kN,g8]
def wU(P:Ó):List Obj:=[h0,h1,oL,h0,mW,lB,mE,jZ,h0,h1,k8,h0]
def wT(P:Ó):List Obj:=[jP,kD,m6,h0,h1,oX,h0,l7,oK,jH,h0,h1]
def s7(P:Ó):List Obj:=[pL,h0,lJ,jN,mY,h0,h1,nU,h0,iE,pC,i8]
def vT(P:Ó):List Obj:=[iK,mL P,iZ,kE,oH,oJ,oZ,h0,h1,iF,kL,kU]
def zO(P:Ó):List Obj:=[h0,h1,lX,oO,iJ,h0,h1,nG,n0,m5,h0,h1]
def t5(P:Ó):List Obj:=[lM,mS,mD]
def Jr(P:Ó):BT:=bT 20 [boot_o_0 P,boot_o_1 P,boot_o_2 P,boot_o_3 P,boot_o_4 P,boot_o_5 P,boot_o_6 P,boot_o_7 P,boot_o_8 P,boot_o_9 P,boot_o_10 P,h0,h1,h2,h3]
def HP(P:Ó):List Obj:=o0 P++(o1 P++(o2 P++(o3 P++(o4 P++(o5 P++(o6 P++(o7 P++(o8 P++(o9 P++(rC P++(tB P++(tL P++(t9 P++(vP P++(tZ P++(tV P++(wU P++(wT P++(s7 P++(vT P++(zO P++(t5 P))))))))))))))))))))))
def NY(P:Ó):BT:=bT 20 (HP P)
def H1(P:Ó):æ:=⟨⟨HP P⟩,{}⟩
noncomputable def cB:Pos:=⟨517,0,553,15⟩
noncomputable abbrev nF:Nat:=267
noncomputable abbrev kF:Nat:=609
def Fv:Env:={scope:=pw.main.scope,locals:=mainNs,globals:=mainNs,cells:=[],code:=.ref 13,frame:=some 14}
def bF:List í:=behindTheImports pw
def M7(w:Ì)(p:þ)(b:List í)(os:Š):Option (aL9×aO9×aN4×Pos):=
 VE 2222 w p bF b ⟨Jr w.params,15,{},⟨[]⟩,{},187,os⟩ Fv
def MP(w:Ì)(p:þ)(b:List í)(os:Š):Option (aL9×aO9×aN4×Pos):=
 some (.next,⟨NY w.params,nF,{},⟨[]⟩,{},kF,os⟩,.body b Fv,cB)
abbrev Vx:Str:=VJ (AZ (pw.main.body[5]?))
noncomputable def jE:{cs:List Char // zQ (String.ofList cs)=Vx}:=by
 apply Subtype.mk
 dsimp only[Vx,pw,û,List.getElem?_cons_succ,List.getElem?_cons_zero,AZ,VJ,docOf,Option.getD]
def hxS:Str:=⟨(jE.1.map Char.toNat).toArray⟩
def XU:Vx=hxS:=jE.2.symm.trans (Fast.ofString_ofList jE.1)
abbrev nM:Type:=Str->Str->Str->Str->Str->Str->Str->Str->Str->Str->Str->Str->Str->Str->Str->Str->Str->Str->Str->Str->Str->Str->Str->Str->Str->Str->Str->Str->Str->Str->Str->Str->Str->Str->Str->Str->Str->Str->Str->Str->Str->Str->Str->Str->Str->Str->Str->Str->Str->Str->Str->Str->Str->Str->Str->Str->Str->Str->Str->Str->Str->Str->Str->Str->Str->Str->Str->Str->Str->Str->Str->Str->Str->Str->Str->Str->Str->Str->Str->Str->Str->Str->Str->Str->Str->Str->Str->Str->Str->Str->Str->Str->Str->Str->Str->Str->Str->Str->Str->Str->Str->Str->Str->Str->Str->Str->Str->Str->Str->Str->Str->Str->Str->Str->Str->Str->Str->Str->Str->Str->Str->Str->Str->Str->Str->Str->Str->Str->Str->Str->Str->Str->Str->Str->Str->Str->Str->Str->Str->Str->Str->Str->Str->Str->Str->Str->Str->Str->Str->Str->Str->Str->Str->Str->Str->Str->Str->Str->Str->Str->Str->Str->Str->Str->Str->Str->Str->Str->Str->Str->Str->Str->Str->Str->Str->Str->Str->Str->Str->Str->Str->Str->Str->Str->Str->Str->Str->Str->Str->(String->Str)->Option þ
noncomputable abbrev gD(F:nM):Str->(String->Str)->Option þ:=F (.ofString "_wall") (.ofString "k") (.ofString "__name__") (.ofString "cpy313.difflib") (.ofString "_tuplegetter") (.ofString "__init__") (.ofString "self") (.ofString "index") (.ofString "doc") (.ofString "__doc__") (.ofString "__get__") (.ofString "obj") (.ofString "objtype") (.ofString "issubclass") (.ofString "type") (.ofString "tuple") (.ofString "__getitem__") (.ofString "__set__") (.ofString "value") (.ofString "AttributeError") (.ofString "can't set attribute") (.ofString "__delete__") (.ofString "can't delete attribute") (.ofString "Match") (.ofString "Match(a, b, size)") (.ofString "__slots__") (.ofString "_fields") (.ofString "a") (.ofString "b") (.ofString "size") (.ofString "_field_defaults") (.ofString "__new__") (.ofString "_cls") (.ofString "_make") (.ofString "cls") (.ofString "iterable") (.ofString "result") (.ofString "len") (.ofString "TypeError") (.ofString "Expected 3 arguments, got ") (.ofString "classmethod") (.ofString "_replace") (.ofString "kwds") (.ofString "__class__") (.ofString "__len__") (.ofString "pop") (.ofString "map") (.ofString "Got unexpected field names: ") (.ofString "list") (.ofString "__replace__") (.ofString "__repr__") (.ofString "(a=%r, b=%r, size=%r)") (.ofString "_asdict") (.ofString "__getnewargs__") (.ofString "__match_args__") (.ofString "Alias for field number 0") (.ofString "Alias for field number 1") (.ofString "Alias for field number 2") (.ofString "_calculate_ratio") (.ofString "matches") (.ofString "length") (.ofString "SequenceMatcher") (.ofString "isjunk") (.ofString "autojunk") (.ofString "") (.ofString "set_seqs") (.ofString "set_seq1") (.ofString "set_seq2") (.ofString "matching_blocks") (.ofString "opcodes") (.ofString "fullbcount") (.ofString "_SequenceMatcher__chain_b") (.ofString "__chain_b") (.ofString "b2j") (.ofString "i") (.ofString "elt") (.ofString "enumerate") (.ofString "indices") (.ofString "setdefault") (.ofString "append") (.ofString "bjunk") (.ofString "junk") (.ofString "set") (.ofString "keys") (.ofString "add") (.ofString "bpopular") (.ofString "popular") (.ofString "n") (.ofString "ntest") (.ofString "idxs") (.ofString "items") (.ofString "find_longest_match") (.ofString "alo") (.ofString "ahi") (.ofString "blo") (.ofString "bhi") (.ofString "isbjunk") (.ofString "__contains__") (.ofString "besti") (.ofString "bestj") (.ofString "bestsize") (.ofString "j2len") (.ofString "nothing") (.ofString "range") (.ofString "j2lenget") (.ofString "get") (.ofString "newj2len") (.ofString "j") (.ofString "get_matching_blocks") (.ofString "la") (.ofString "lb") (.ofString "queue") (.ofString "x") (.ofString "sort") (.ofString "i1") (.ofString "j1") (.ofString "k1") (.ofString "non_adjacent") (.ofString "i2") (.ofString "j2") (.ofString "k2") (.ofString "get_opcodes") (.ofString "answer") (.ofString "ai") (.ofString "bj") (.ofString "tag") (.ofString "replace") (.ofString "delete") (.ofString "insert") (.ofString "equal") (.ofString "get_grouped_opcodes") (.ofString "ratio") (.ofString "sum") (.ofString "triple") (.ofString ".0") (.ofString "quick_ratio") (.ofString "real_quick_ratio") (.ofString "law_dm0059_06") (.ofString "_law_deed") (.ofString "text") (.ofString "made") (.ofString "kind") (.ofString "at") (.ofString "one") (.ofString "two") (.ofString "head") (.ofString "tail") (.ofString "min") (.ofString "p") (.ofString "q") (.ofString "there") (.ofString "back") (.ofString "turned") (.ofString "rest") (.ofString "out") (.ofString "line") (.ofString "first") (.ofString "fast") (.ofString "_law_pieces") (.ofString "matcher") (.ofString "windows") (.ofString "found") (.ofString "left") (.ofString "window") (.ofString "low") (.ofString "high") (.ofString "extend") (.ofString "sorted") (.ofString "_law_plain") (.ofString "texts") (.ofString "new") (.ofString "fresh") (.ofString "pieces") (.ofString "last") (.ofString "having") (.ofString "u") (.ofString "law") (.ofString "script") (.ofString "writers") (.ofString "born") (.ofString "drop") (.ofString "now") (.ofString "max") (.ofString "notes") (.ofString "word") (.ofString "due") (.ofString "read") (.ofString "/claim/cut.py")
noncomputable def qX:{F:nM // gD F Vx zQ=some û}:=by
 refine Subtype.mk ?F ?pf
 case pf=>
  refine have hD:Vx=zQ ?lit:=?pr;(congrFun (congrArg (gD ?F) hD) zQ).trans ?rest
  case pr=>
   dsimp only[Vx,pw,û,List.getElem?_cons_succ,List.getElem?_cons_zero,AZ,VJ,docOf,Option.getD]
   exact rfl
  case rest=>
   delta û gD
   generalize zQ "_wall" = x0,zQ "k" = x1,zQ "__name__" = x2,zQ "cpy313.difflib" = x3,zQ "_tuplegetter" = x4,zQ "__init__" = x5,zQ "self" = x6,zQ "index" = x7,zQ "doc" = x8,zQ "__doc__" = x9,zQ "__get__" = x10,zQ "obj" = x11,zQ "objtype" = x12,zQ "issubclass" = x13,zQ "type" = x14,zQ "tuple" = x15,zQ "__getitem__" = x16,zQ "__set__" = x17,zQ "value" = x18,zQ "AttributeError" = x19,zQ "can't set attribute" = x20,zQ "__delete__" = x21,zQ "can't delete attribute" = x22,zQ "Match" = x23,zQ "Match(a, b, size)" = x24,zQ "__slots__" = x25,zQ "_fields" = x26,zQ "a" = x27,zQ "b" = x28,zQ "size" = x29,zQ "_field_defaults" = x30,zQ "__new__" = x31,zQ "_cls" = x32,zQ "_make" = x33,zQ "cls" = x34,zQ "iterable" = x35,zQ "result" = x36,zQ "len" = x37,zQ "TypeError" = x38,zQ "Expected 3 arguments, got " = x39,zQ "classmethod" = x40,zQ "_replace" = x41,zQ "kwds" = x42,zQ "__class__" = x43,zQ "__len__" = x44,zQ "pop" = x45,zQ "map" = x46,zQ "Got unexpected field names: " = x47,zQ "list" = x48,zQ "__replace__" = x49,zQ "__repr__" = x50,zQ "(a=%r, b=%r, size=%r)" = x51,zQ "_asdict" = x52,zQ "__getnewargs__" = x53,zQ "__match_args__" = x54,zQ "Alias for field number 0" = x55,zQ "Alias for field number 1" = x56,zQ "Alias for field number 2" = x57,zQ "_calculate_ratio" = x58,zQ "matches" = x59,zQ "length" = x60,zQ "SequenceMatcher" = x61,zQ "isjunk" = x62,zQ "autojunk" = x63,zQ "" = x64,zQ "set_seqs" = x65,zQ "set_seq1" = x66,zQ "set_seq2" = x67,zQ "matching_blocks" = x68,zQ "opcodes" = x69,zQ "fullbcount" = x70,zQ "_SequenceMatcher__chain_b" = x71,zQ "__chain_b" = x72,zQ "b2j" = x73,zQ "i" = x74,zQ "elt" = x75,zQ "enumerate" = x76,zQ "indices" = x77,zQ "setdefault" = x78,zQ "append" = x79,zQ "bjunk" = x80,zQ "junk" = x81,zQ "set" = x82,zQ "keys" = x83,zQ "add" = x84,zQ "bpopular" = x85,zQ "popular" = x86,zQ "n" = x87,zQ "ntest" = x88,zQ "idxs" = x89,zQ "items" = x90,zQ "find_longest_match" = x91,zQ "alo" = x92,zQ "ahi" = x93,zQ "blo" = x94,zQ "bhi" = x95,zQ "isbjunk" = x96,zQ "__contains__" = x97,zQ "besti" = x98,zQ "bestj" = x99,zQ "bestsize" = x100,zQ "j2len" = x101,zQ "nothing" = x102,zQ "range" = x103,zQ "j2lenget" = x104,zQ "get" = x105,zQ "newj2len" = x106,zQ "j" = x107,zQ "get_matching_blocks" = x108,zQ "la" = x109,zQ "lb" = x110,zQ "queue" = x111,zQ "x" = x112,zQ "sort" = x113,zQ "i1" = x114,zQ "j1" = x115,zQ "k1" = x116,zQ "non_adjacent" = x117,zQ "i2" = x118,zQ "j2" = x119,zQ "k2" = x120,zQ "get_opcodes" = x121,zQ "answer" = x122,zQ "ai" = x123,zQ "bj" = x124,zQ "tag" = x125,zQ "replace" = x126,zQ "delete" = x127,zQ "insert" = x128,zQ "equal" = x129,zQ "get_grouped_opcodes" = x130,zQ "ratio" = x131,zQ "sum" = x132,zQ "triple" = x133,zQ ".0" = x134,zQ "quick_ratio" = x135,zQ "real_quick_ratio" = x136,zQ "law_dm0059_06" = x137,zQ "_law_deed" = x138,zQ "text" = x139,zQ "made" = x140,zQ "kind" = x141,zQ "at" = x142,zQ "one" = x143,zQ "two" = x144,zQ "head" = x145,zQ "tail" = x146,zQ "min" = x147,zQ "p" = x148,zQ "q" = x149,zQ "there" = x150,zQ "back" = x151,zQ "turned" = x152,zQ "rest" = x153,zQ "out" = x154,zQ "line" = x155,zQ "first" = x156,zQ "fast" = x157,zQ "_law_pieces" = x158,zQ "matcher" = x159,zQ "windows" = x160,zQ "found" = x161,zQ "left" = x162,zQ "window" = x163,zQ "low" = x164,zQ "high" = x165,zQ "extend" = x166,zQ "sorted" = x167,zQ "_law_plain" = x168,zQ "texts" = x169,zQ "new" = x170,zQ "fresh" = x171,zQ "pieces" = x172,zQ "last" = x173,zQ "having" = x174,zQ "u" = x175,zQ "law" = x176,zQ "script" = x177,zQ "writers" = x178,zQ "born" = x179,zQ "drop" = x180,zQ "now" = x181,zQ "max" = x182,zQ "notes" = x183,zQ "word" = x184,zQ "due" = x185,zQ "read" = x186,zQ "/claim/cut.py" = x187
   generalize zQ ?lit=y
   generalize zQ=f
   exact rfl
noncomputable def p8:nM:=qX.1
end Mine
end
section
open PySem PySem.W PyProof.Rows
def Mine.qU:String->Str:=λs=>⟨(zQ s).cps⟩
def Mine.YN:zQ=Mine.qU:=funext λs=>rfl
def Mine.gR:Str->(String->Str)->Option þ:=Mine.p8 Mine.J1 Mine.J7 Mine.z0 Mine.Bk Mine.Hs Mine.Ee Mine.C0 Mine.E4 Mine.KT Mine.z2 Mine.KB Mine.Un Mine.d7 Mine.zK Mine.sC Mine.sM Mine.nC Mine.Kv Mine.d6 Mine.yV Mine.pH Mine.Ju Mine.kK Mine.Hq Mine.n8 Mine.RE Mine.SG Mine.FX Mine.FK Mine.I5 Mine.Pf Mine.Jv Mine.eI Mine.JR Mine.ZW Mine.aE Mine.Xz Mine.nQ Mine.nB Mine.oQ Mine.wQ Mine.K7 Mine.cY Mine.WI Mine.jQ Mine.oA Mine.r8 Mine.k9 Mine.tU Mine.PB Mine.Km Mine.lV Mine.Jz Mine.K9 Mine.PM Mine.Wn Mine.WM Mine.WQ Mine.I7 Mine.Xq Mine.Z1 Mine.GI Mine.Sr Mine.V4 Mine.Wf Mine.Kn Mine.KX Mine.J6 Mine.X8 Mine.aW Mine.b6 Mine.RW Mine.Sw Mine.Sq Mine.Iz Mine.ZP Mine.yG Mine.aV Mine.j9 Mine.kI Mine.Zd Mine.eC Mine.uX Mine.m7 Mine.jF Mine.bV Mine.bP Mine.Vc Mine.Yt Mine.dZ Mine.iN Mine.Kd Mine.WO Mine.Vb Mine.YJ Mine.Wa Mine.ZT Mine.jC Mine.bE Mine.ZY Mine.eL Mine.cD Mine.cS Mine.jW Mine.aZ Mine.iV Mine.dU Mine.KE Mine.Ku Mine.bG Mine.aH Mine.a9 Mine.OZ Mine.iH Mine.Oc Mine.Nh Mine.ZG Mine.dQ Mine.Op Mine.OJ Mine.bA Mine.Jo Mine.b7 Mine.eU Mine.Zz Mine.Ng Mine.lR Mine.kX Mine.n9 Mine.nL Mine.Jm Mine.Jw Mine.vN Mine.iQ Mine.jL Mine.Ja Mine.KK Mine.O2 Mine.H6 Mine.k7 Mine.RJ Mine.j4 Mine.Pa Mine.Wj Mine.hU Mine.nA Mine.kT Mine.wM Mine.jV Mine.nZ Mine.j3 Mine.R8 Mine.kZ Mine.lA Mine.m8 Mine.Vz Mine.jY Mine.Aq Mine.G3 Mine.Qo Mine.Pr Mine.mC Mine.i9 Mine.lQ Mine.kA Mine.jR Mine.lO Mine.uU Mine.G8 Mine.Re Mine.Qk Mine.Qc Mine.mX Mine.nW Mine.lK Mine.R1 Mine.JL Mine.Ry Mine.Rj Mine.QG Mine.QX Mine.Pc Mine.mU Mine.SU Mine.Rd Mine.QP Mine.R9 Mine.Ac
def Mine.X6:Mine.gD Mine.p8=Mine.gR:=by rfl'
def PySem.W.Fast.tw15461994661025227635:þ:=Ö û (λp=>p) (Mine.gR Mine.hxS Mine.qU)
def PySem.W.Fast.te15461994661025227635:û=PySem.W.Fast.tw15461994661025227635:=congrArg (λo:Option þ=>(Ö û (λp=>p) o:þ)) (Mine.qX.2.symm.trans ((congrFun (congrFun Mine.X6 Mine.Vx) zQ).trans ((congrFun (congrArg Mine.gR Mine.XU) zQ).trans (congrArg (Mine.gR Mine.hxS) Mine.YN))))
def PySem.W.Fast.tw3097827553188353559:Str:=Mine.hxS
def PySem.W.Fast.te3097827553188353559:Mine.hxS=PySem.W.Fast.tw3097827553188353559:=rfl
end
section
open PySem PySem.W PyProof.Rows
namespace Mine
def Td:M7=M7:=rfl
def T2:MP=MP:=rfl
name_quick zzL for Mine.M7 by Mine.Td
name_quick zzR for Mine.MP by Mine.T2
def qF:þ:={pw with main:={pw.main with body:=((pw.main.body.drop 0).take 1)++((pw.main.body.drop 2).take 4)++((pw.main.body.drop 7).take 4)}}
noncomputable def looseF:List Str:=["_tuplegetter","Match","SequenceMatcher"]
def mH(s:zY):Bool:=xlAt qF [] s&&recOk ([]:WRecords) s
def U7:M7=MP:=Fast.zzL_eq.trans ((by rfl':Fast.zzL=Fast.zzR).trans Fast.zzR_eq.symm)
def cV(w:Ì)(os:Š):((staticsOk (importedModules pw.main.body) (aD4 w.params) (H1 w.params)&&namesBound pw (H1 w.params)&&gensDone ⟨H1 w.params,⟨[]⟩,{},kF,os⟩&&laidKept (aD4 w.params) (H1 w.params)))=true:=by rfl'
def bB(w:Ì)(os:Š):(seen ((recsOf qF).map (·.name)) (ownsOf qF) [] ⟨H1 w.params,#[],{},kF,os⟩)=expectedOf qF:=by rfl'
def Z6(w:Ì)(os:Š):((H1 w.params).bltView)=bltViewBooted:=by rfl'
def Yy(w:Ì)(os:Š):((H1 w.params).keysOk (looseW qF looseF) ((recsOf qF).map (·.name)) ((litsOf qF).map (·.1)) ((clssOf qF (looseW qF looseF)).map (·.name))&&(H1 w.params).accountedOkI (importedModules pw.main.body)&&(H1 w.params).isNs mainGlobals&&(H1 w.params).isNs builtinsNs&&tablesOk qF (H1 w.params)&&mH ⟨H1 w.params,⟨[]⟩,{},kF,os⟩&&(if true then(⟨[]⟩:Array aL5).size==0 else !leftWithCleanup (⟨[]⟩:Array aL5)))=true:=by rfl'
def bM(w:Ì)(os:Š):(tabsOk qF ⟨H1 w.params,⟨[]⟩,{},kF,os⟩)=true:=by rfl'
def eJ(w:Ì)(os:Š):(pinSeenD qF (drecsOf qF) ⟨H1 w.params,⟨[]⟩,{},kF,os⟩)=pinGoodD (drecsOf qF):=by rfl'
def ZL(w:Ì)(os:Š):(plainSeenE qF (looseW qF looseF) ⟨H1 w.params,⟨[]⟩,{},kF,os⟩)=plainGoodE qF (looseW qF looseF):=by rfl'
def Zj(w:Ì)(os:Š):(plainSeenD qF looseF ⟨H1 w.params,⟨[]⟩,{},kF,os⟩)=plainGoodD qF looseF:=by rfl'
def ZN(w:Ì)(os:Š):(wideSeen qF ⟨H1 w.params,⟨[]⟩,{},kF,os⟩)=wideGood qF:=by rfl'
def Z4(w:Ì)(os:Š):(clsSeenW qF looseF ⟨H1 w.params,⟨[]⟩,{},kF,os⟩)=clsGoodW qF looseF:=by rfl'
def Vn(w:Ì)(os:Š):(absHeap (NY w.params) nF {})=H1 w.params:=by rfl'
noncomputable abbrev mF:Nat:=12+(1+(2222+2))
def We(w:Ì)(os:Š):topRun treeTable pw w 11 I2 mF ⟨aD4 w.params,⟨[]⟩,aO2,aO8,os⟩ (topStub pw)=some ⟨H1 w.params,⟨[]⟩,{},kF,os⟩:=by
 have e1:topGo treeTable pw w 11 I2 12 ⟨aD4 w.params,⟨[]⟩,aO2,aO8,os⟩ (topStub pw)=some ((aJ9 ⟨Jr w.params,15,{},⟨[]⟩,{},187,os⟩),⟨denote treeTable (.body bF Fv),.body bF Fv,AB,[topFrame AB]⟩):=by rfl'
 have e2:segRun treeTable pw w 11 I2 1 1 (aJ9 ⟨Jr w.params,15,{},⟨[]⟩,{},187,os⟩) (blockOf bF Fv (.body bF Fv) AB [topFrame AB])=some (.next,(aJ9 ⟨Jr w.params,15,{},⟨[]⟩,{},187,os⟩),.body bF Fv,AB):=by rfl'
 have e3:segRunT fR pw w 11 I2 1 2222 ⟨Jr w.params,15,{},⟨[]⟩,{},187,os⟩ (piecesOf bF Fv (.body bF Fv) AB [topFrame AB])=_:=congrFun (congrFun (congrFun (congrFun U7 w) pw) bF) os
 have e4:topRun treeTable pw w 11 I2 2 (aJ9 ⟨NY w.params,nF,{},⟨[]⟩,{},kF,os⟩) ⟨doneF .next,.body bF Fv,cB,[topFrame AB]⟩=some ⟨absHeap (NY w.params) nF {},⟨[]⟩,{},kF,os⟩:=by rfl'
 rw[<-Xo]at e3
 rw[Vn w os]at e4
 refine go_top e1 (piece_block e2 ?_)
 refine(congrArg (λl=>topRun treeTable pw w 11 I2 _ _ (restOf l Fv (.body bF Fv) AB [topFrame AB])) (Ô bF).symm).trans ?_
 exact piece_app (segRun_of e3) (piece_nil e4)
def YF(w:Ì)(h:æ):Prop:=∀b o,(H1 w.params).get? b=some o->h.get? b=some o
def dF:DefRec×List (Str×Expr):=(defOf qF "law").getD (⟨"",⟨[],[],none,[],[],none,[]⟩,[],default,default⟩,[])
def Tn(w:Ì):((aD4 w.params).isNs mainGlobals&&(⟨[]⟩:Array aL5).size==0,(aD4 w.params).objs.size,(aD4 w.params).nsMap mainGlobals "__annotations__")=(true,11,I2):=by rfl'
def Sh(s:zY):fenceModules? pw s=some s:=by rfl'
def Lc:opening pw=plainProg pw.main.scope.names:=by rfl'
def dY:LeftO pw qF looseF mH (λs=>s.heap) (λw=>H1 w.params) 4538 true:=by
 refine LeftO.of_pieces (H₀:=aD4) (H₁:=H1) (gs₀:=⟨[]⟩) (gs₁:=⟨[]⟩) (d₀:=aO2) (d₁:={}) (k₀:=aO8) (k₁:=kF) (m₀:=11) (ann:=I2) (M:=mF)
  (boot_open Lc (by decide) Sh) Tn We (by decide) (λw=>?_)
 funext os
 have c0:=cV w os
 have c1:=bB w os
 have c2:=Z6 w os
 have c3:=Yy w os
 have c4:=bM w os
 have c5:=eJ w os
 have c6:=ZL w os
 have c7:=Zj w os
 have c8:=ZN w os
 have c9:=Z4 w os
 exact Ÿ c0 (Ÿ (Ÿ c1 (Ÿ c2 (Ÿ c3 (Ÿ c4 (Ÿ c5 (Ÿ c6 (Ÿ c7 (Ÿ c8 c9)))))))) rfl)
abbrev gL:OpenLaw:=PySem.Challenge.rw_dm0059_06
def hd(call:WalkO qF looseF (XL qF []) YF gL.row.toRowW dF.1 dF.2 λf vs=>PySem.call f vs):gL.Holds:=by
 w_on
 o_law
 refine holds_open (q:=qF) (loose:=looseF) (Xt:=mH) (XP:=XL qF []) (Yf:=λs=>s.heap) (Ya:=λw=>H1 w.params) (YP:=YF) (N:=4538) dY
  (λw s e b o h=>?_) (λw h h' y k b o e=>k b o (y b o e)) (λs e=>xl_of s (ê.mp e).1) XL.keeps
  (by rfl') (by rfl') (by rfl') (λs e=>recFacts_of (ê.mp e).2) (by rfl) (by assumption) (by decide +kernel) ⟨rfl,rfl,rfl,rfl,rfl,by decide +kernel⟩ ?hw call
 ·rw[show s.heap=H1 w.params from e];exact h
 case hw=>w_witness2
section
def KF(P:Ó):aG7:=(Ë nF).zip (HP P)
def Dq(P:Ó):(KF P).In (H1 P):=aG7.in_of (as:=Ë nF) (by rfl') (by rfl')
noncomputable abbrev aC:É:=135
noncomputable abbrev aD:É:=242
noncomputable abbrev aN:É:=82
noncomputable abbrev Ou:É:=136
noncomputable abbrev aM:É:=89
noncomputable abbrev NM:É:=91
def Wq(P:Ó)(S:aA2):peek (KF P) S (typeLookup (.ref aC) "__iter__")=some (some (.builtin "tuple.__iter__")):=by rfl'
def kB(P:Ó)(S:aA2):peek (KF P) S (typeLookup (.ref aC) "__eq__")=some (some (.builtin "tuple.__eq__")):=by rfl'
def Zp(P:Ó)(S:aA2):peek (KF P) S (typeLookup (.ref aC) "__len__")=some (some (.builtin "tuple.__len__")):=by rfl'
def oR(P:Ó)(S:aA2):peek (KF P) S (typeLookup (.ref aC) "__lt__")=some (some (.builtin "tuple.__lt__")):=by rfl'
def Y3(P:Ó)(S:aA2):peek (KF P) S (typeLookup (.ref aC) "__init__")=some (some (.builtin "object.__init__")):=by rfl'
def d9(P:Ó)(S:aA2):peek (KF P) S (isSubtype (.ref aC) (.type "tuple"))=some true:=by rfl'
def Vw(P:Ó)(S:aA2):peek (KF P) S (isSubtype (.ref aC) (.ref aC))=some true:=by rfl'
def ZA(P:Ó)(S:aA2):peek (KF P) S (isSubtype (.ref aC) (.type "object"))=some true:=by rfl'
def cR(P:Ó)(S:aA2):peek (KF P) S (isType (.ref aC))=some true:=by rfl'
def Xi(P:Ó)(S:aA2):peek (KF P) S (aG1 (.ref aC))=some none:=by rfl'
def WJ(P:Ó)(S:aA2):peek (KF P) S (Bind.staticBase (.ref aC))=some (.type "tuple"):=by rfl'
def Vr(P:Ó)(S:aA2):peek (KF P) S (specialOf (.ref aC) "__call__")=some (some (.builtin "type.__call__")):=by rfl'
def Wg(P:Ó)(S:aA2):peek (KF P) S (isInstance (.ref aC) (.type "type"))=some true:=by rfl'
def g6(P:Ó):(H1 P).isNs mainGlobals=true:=by rfl'
def yS(P:Ó):(H1 P).isNs builtinsNs=true:=by rfl'
noncomputable def y7:List (Str×AV):=[("len",.fn .len),("range",.fn .range),("set",.fn .set),("enumerate",.fn .enumerate),("list",.fn .list),("map",.fn .map),("tuple",.fn .tuple),("sorted",.fn .sorted),("min",.fn .min),("max",.fn .max),("Match",.glo aC),("SequenceMatcher",.glo aD),("_law_deed",.glo 251),("_law_pieces",.glo 256),("_law_plain",.glo 261)]
def qB(x:Str):Option AV:=y7.lookup x
def Na(P:Ó)(x:Str)(v:AV):Prop:=∃c,LP v=some c/\((∃mg,(H1 P).Ns mainGlobals mg/\mg x=some c)\/∃mg mb,(H1 P).Ns mainGlobals mg/\mg x=none/\(H1 P).Ns builtinsNs mb/\mb x=some c)
def S3{P:Ó}{x:Str}{v:AV}{c:Value}(h0:LP v=some c)(h1:(H1 P).nsMap mainGlobals x=none)(h2:(H1 P).nsMap builtinsNs x=some c):Na P x v:=⟨c,h0,.inr ⟨_,_,.of_isNs (g6 P),h1,.of_isNs (yS P),h2⟩⟩
def Yv{P:Ó}{x:Str}{v:AV}{c:Value}(h0:LP v=some c)(h1:(H1 P).nsMap mainGlobals x=some c):Na P x v:=⟨c,h0,.inl ⟨_,.of_isNs (g6 P),h1⟩⟩
def B3{P:Ó}{y:Str}{w:AV}{r:List (Str×AV)}(h:Na P y w)(q :∀x v,r.lookup x=some v->Na P x v) :∀x v,((y,w)::r).lookup x=some v->Na P x v:=λx v e=>Bv e (λa b=>a▸b▸h) (q x v)
def XK(P:Ó) :∀x v,qB x=some v->Na P x v:=
 B3 (S3 rfl (by rfl') (by rfl')) (B3 (S3 rfl (by rfl') (by rfl')) (B3 (S3 rfl (by rfl') (by rfl')) (B3 (S3 rfl (by rfl') (by rfl')) (B3 (S3 rfl (by rfl') (by rfl')) (B3 (S3 rfl (by rfl') (by rfl')) (B3 (S3 rfl (by rfl') (by rfl')) (B3 (S3 rfl (by rfl') (by rfl')) (B3 (S3 rfl (by rfl') (by rfl')) (B3 (S3 rfl (by rfl') (by rfl')) (B3 (Yv rfl (by rfl')) (B3 (Yv rfl (by rfl')) (B3 (Yv rfl (by rfl')) (B3 (Yv rfl (by rfl')) (B3 (Yv rfl (by rfl')) λ_ _=>AA))))))))))))))
def n6(P:Ó):(clsIn (KF P) aC).any (λcd=>!cd.hasDel && !cd.mro.isEmpty)=true:=by rfl'
def b5(P:Ó):HU (H1 P) aC aN where
 iter:=λM=>ĝ (Dq P) (Wq P _)
 eq:=λM=>ĝ (Dq P) (kB P _)
 sub:=λM=>ĝ (Dq P) (d9 P _)
 typ:=λM=>ĝ (Dq P) (cR P _)
 len:=λM=>ĝ (Dq P) (Zp P _)
 lt:=λM=>ĝ (Dq P) (oR P _)
 base:=λM=>ĝ (Dq P) (WJ P _)
 init:=λM=>ĝ (Dq P) (Y3 P _)
 obj:=by
  obtain⟨cd,h1,h2⟩:=any_some (n6 P)
  simp only[ĉ,aC0]at h2
  unfold clsIn at h1
  split at h1
  ·rename_i oc od c sl ho
   cases h1
   exact⟨oc,od,_,sl,Dq P _ _ ho,h2.1,h2.2⟩
  ·cases h1
 made:=λM=>ĝ (Dq P) (Xi P _)
 call:=λM=>ĝ (Dq P) (Vr P _)
 inst:=λM=>ĝ (Dq P) (Wg P _)
 self:=λM=>ĝ (Dq P) (Vw P _)
 top:=λM=>ĝ (Dq P) (ZA P _)
def dD(P:Ó):(HP P).length=nF:=by rfl'
def Ij(P:Ó)(T:É->Option Tr)(init:Option Tr)(new mak:Bool)(frz wk:Pos->Bool):Pm:=⟨KF P,aC,aD,qB,T,init,new,mak,frz,wk⟩
noncomputable abbrev aI:É:=160
def rJ(P:Ó):(recIn (KF P) NM "classmethod").any (λl=>l.head?==some (.ref aM))=true:=by rfl'
def lH(P:Ó) :∃rest,recIn (KF P) NM "classmethod" = some (.ref aM::rest):=by
 obtain⟨l,h1,h2⟩:=any_some (rJ P)
 cases l with
 | nil=>cases h2
 | cons v r=>
  have:v = .ref aM:=by simpa using h2
  subst this
  exact⟨r,h1⟩
variable{w:Ì}{T:É->Option Tr}{init:Option Tr}{new mak:Bool}{frz wk:Pos->Bool}{d:Nat}
def lF(w:Ì):Cd:=⟨pw,w,aC⟩
def U2(fn :∀f tr,T f=some tr->BW (lF w) (H1 w.params) (d+1) (.ref f) tr)(hn:new=true->BW (lF w) (H1 w.params) d (.ref aN) (Kl aC))(hm:mak=true->BW (lF w) (H1 w.params) d (.ref aM) (Hb aC))
  (hi :∀tr,init=some tr->BW (lF w) (H1 w.params) d (.ref aI) tr):O3 (lF w) (H1 w.params) (Ij w.params T init new mak frz wk) d aN Ou aM NM aI where
 hC:=rfl
 K:=Dq _
 N:=b5 _
 Y:=⟨by rfl',by rfl',⟨[],by rfl'⟩⟩
 keepC:=by rfl'
 sys:=by show sysModules<(HP w.params).length;rw[dD];decide
 glob:=XK _
 make:=by rfl'
 cmo:=lH _
 fn:=fn
 new:=hn
 mkOk:=hm
 init:=λtr e=>⟨by rfl',by rfl',by rfl',by rfl',hi tr e⟩
end
noncomputable def CH:List í->Str->List í×Scope
 | [],_=>([],⟨.module,[],false,false,[]⟩)
 | .FunctionDef n a b _ _ _ sc _ _ _::r,x=>if n=x then(b,sc)else CH r x
 | _::r,x=>CH r x
def CV(P:Ó)(a:É):aD9:=match(KF P).lookup a with
 | some ⟨_,_,.func fd,_⟩=>fd
 | _=>default
def BF(P:Ó)(a:É):Bool:=match(KF P).lookup a with
 | some ⟨_,_,.func fd,_⟩=>codeIn (KF P) fd.code fd.qualname&&fd.closure.isEmpty&&fd.scope.names.all (λx=>x.2 != .free) && !fd.scope.isCoroutine && !fd.scope.isGenerator&&fd.scope.kind == .function&&fd.globals==mainGlobals&&fd.builtins==builtinsNs
 | _=>false
def oM(P:Ó):(H1 P).noLimitOk=true:=by rfl'
noncomputable def Sf(sc:Scope)(ps:List Str):Bool:=ps.all λx=>sc.names.lookup x==some .local||sc.names.lookup x==some .cell
def VG{P:Ó}{a:É}{body:List í}{ps:List Str}{dvs:List Value}(h:BF P a=true)(hb:(CV P a).body = .stmts body)(nd:ps.Nodup)(lc:Sf (CV P a).scope ps=true)(bd :∀(s:zY) (vas:List Value),(∀b o,(H1 P).get? b=some o->s.heap.get? b=some o)->vas.length+dvs.length=ps.length->aC1 s (CV P a) ⟨vas,[]⟩ (ps.zip (vas++dvs))):YI (H1 P) a (CV P a) body ps dvs/\(CV P a).globals=mainGlobals/\(CV P a).builtins=builtinsNs:=by
 have lc :∀x∈ps,(CV P a).scope.names.lookup x=some .local\/(CV P a).scope.names.lookup x=some .cell:=λx hx=>(aE7.mp (aH4.mp lc x hx)).imp å å
 unfold BF at h
 unfold CV at hb lc bd ⊢
 split at h
 ·rename_i o1 o2 fd o3 ho
  rw[ho]at hb lc bd
  simp only at hb lc bd
  simp only[ĉ,aC0,beq_iff_eq,aH4,bne_iff_ne,ne_eq,List.isEmpty_iff]at h
  obtain⟨⟨⟨⟨⟨⟨⟨h1,h2⟩,h3⟩,h4⟩,h5⟩,h6⟩,h7⟩,h8⟩:=h
  exact⟨⟨⟨_,Dq P _ _ ho,rfl⟩,.of_ok (oM P),codeRec_of (Dq P) h1,hb,h2,h3,h4,h5,h6,nd,lc,bd⟩,h7,h8⟩
 ·cases h
def pP{w:Ì}{d fuel:Nat}{T:É->Option Tr}{init:Option Tr}{new mak:Bool}{frz wk:Pos->Bool}{a:É}{body:List í}{sc:Scope}{ps:List Str}{tr:Tr}
  (W:O3 (lF w) (H1 w.params) (Ij w.params T init new mak frz wk) d aN Ou aM NM aI) (h:BF w.params a=true) (hb:(CV w.params a).body = .stmts body) (hs:(CV w.params a).scope=sc) (nd:ps.Nodup) (lc:Sf sc ps=true)
  (bd :∀(s:zY) (vas:List Value),(∀b o,(H1 w.params).get? b=some o->s.heap.get? b=some o)->vas.length=ps.length->aC1 s (CV w.params a) ⟨vas,[]⟩ (ps.zip vas))
  (hw :∀as os Q,tr as os Q->(as.length=ps.length/\C4 os)/\wL (Ij w.params T init new mak frz wk) (Fo (Ij w.params T init new mak frz wk) sc fuel) body (A4 (ps.zip as) os) (AJ os.length Q)):BW (lF w) (H1 w.params) (d+2) (.ref a) tr:=by
 obtain⟨K,g1,g2⟩:=VG (dvs:=[]) h hb nd (hs▸lc) λs vas q e=>Eq.mpr (congrArg (λl=>aC1 s (CV w.params a) ⟨vas,[]⟩ (ps.zip l)) (Ô vas)) (bd s vas q e)
 exact Sn K (λX e1 e2 hA h1 h2 h3=>Z5 ⟨e1▸e2▸W,hA,h1.trans g1,h2.trans g2,h3.trans hs,hs▸K.kind⟩ fuel) hw
def wY{es:List AV}{dvs:List Value}{w:Ì}{d fuel:Nat}{T:É->Option Tr}{init:Option Tr}{new mak:Bool}{frz wk:Pos->Bool}{a:É}{body:List í}{sc:Scope}{ps:List Str}{tr:Tr}
  (W:O3 (lF w) (H1 w.params) (Ij w.params T init new mak frz wk) d aN Ou aM NM aI) (h:BF w.params a=true) (hb:(CV w.params a).body = .stmts body) (hs:(CV w.params a).scope=sc) (nd:ps.Nodup) (lc:Sf sc ps=true)
  (bd :∀(s:zY) (vas:List Value),(∀b o,(H1 w.params).get? b=some o->s.heap.get? b=some o)->vas.length+dvs.length=ps.length->aC1 s (CV w.params a) ⟨vas,[]⟩ (ps.zip (vas++dvs)))
  (hdv :∀{L:Cd} {G:Gh} {h:æ} {n:Nat},VAll L G h n es dvs)
  (hw :∀as os Q,tr as os Q->(as.length+es.length=ps.length/\C4 os)/\wL (Ij w.params T init new mak frz wk) (Fo (Ij w.params T init new mak frz wk) sc fuel) body (A4 (ps.zip (as++es)) os) (AJ os.length Q)):BW (lF w) (H1 w.params) (d+2) (.ref a) tr:=by
 obtain⟨K,g1,g2⟩:=VG h hb nd (hs▸lc) bd
 exact Jq K hdv (λX e1 e2 hA h1 h2 h3=>Z5 ⟨e1▸e2▸W,hA,h1.trans g1,h2.trans g2,h3.trans hs,hs▸K.kind⟩ fuel) hw
def Ox{w:Ì}{d fuel:Nat}{T:É->Option Tr}{init:Option Tr}{new mak:Bool}{frz wk:Pos->Bool}{a:É}{body:List í}{sc:Scope}{ps:List Str}{tr:Tr}
  (W:O3 (lF w) (H1 w.params) (Ij w.params T init new mak frz wk) d aN Ou aM NM aI) (h:BF w.params a=true) (hb:(CV w.params a).body = .stmts body) (hs:(CV w.params a).scope=sc) (nd:ps.Nodup) (lc:Sf sc ps=true)
  (bd :∀vas:List Value,vas.length=ps.length->bindArgs (CV w.params a) ⟨vas,[]⟩=pure (ps.zip vas))
  (hw :∀as os Q,tr as os Q->(as.length=ps.length/\C4 os)/\wL (Ij w.params T init new mak frz wk) (Fo (Ij w.params T init new mak frz wk) sc fuel) body (A4 (ps.zip as) os) (AJ os.length Q)):BW (lF w) (H1 w.params) (d+2) (.ref a) tr:=
 pP W h hb hs nd lc (λs vas _ e=>aC1.of_eq (bd vas e)) hw
noncomputable def QN:Pos->Bool:=λ_=>false
abbrev p0(w:Ì):Pm:=Ij w.params (λ_=>none) none false false QN QN
def w0{w:Ì}{d:Nat}:O3 (lF w) (H1 w.params) (p0 w) d aN Ou aM NM aI:=U2 (λ_ _ e=>nomatch e) (λe=>nomatch e) (λe=>nomatch e) (λ_ e=>nomatch e)
abbrev T7:List í:=AZ (pw.main.body[3]?)
def qP:List í:=(CH T7 "__new__").1
def qR:Scope:=(CH T7 "__new__").2
def YM(P:Ó):(CV P 82).body = .stmts qP/\(CV P 82).scope=qR/\BF P 82=true:=⟨by rfl',by rfl',by rfl'⟩
def Yh{α:Type}{m:List α->Prop}(h:m []) :∀v:List α,v.length=0->m v:=λv e=>(ĵ e).symm▸h
def LB{α:Type}{m:List α->Prop}{n:Nat}(h :∀a v,v.length=n->m (a::v)) :∀v:List α,v.length=n+1->m v:=λv=>Ä (motive:=λv=>v.length=n+1->m v) (λe=>Nat.noConfusion e) (λa v _ e=>h a v (Ņ e)) v
def Za{f:aD9}{p q r t:Str}(h :∀a b c d:Value,bindArgs f ⟨[a,b,c,d],[]⟩=pure ([(p,a),(q,b),(r,c),(t,d)])) :∀vas:List Value,vas.length=4->bindArgs f ⟨vas,[]⟩=pure (([p,q,r,t]:List Str).zip vas):=
 LB λa=>LB λb=>LB λc=>LB λd=>Yh (h a b c d)
def yP{w:Ì}{a b c:AV}{Q:AV->List Ob->Prop}:wL (p0 w) (Fo (p0 w) qR 20) qP (A4 ((["_cls","a","b","size"]:List Str).zip [.glo aC,a,b,c]) []) (AJ 0 Q) =
  AJ 0 Q (.ret (.mat [a,b,c])) (A4 [("_cls",.glo aC),("a",a),("b",b),("size",c)] []):=by rfl'
def AW{a:AV}{r:List AV}(h1:a.sub nn=some a)(h2:subAll nn r=some r):subAll nn (a::r)=some (a::r):=by
 show(a.sub nn).bind (λa=>(subAll nn r).map (a :: ·))=_
 rw[h1,h2];rfl
def Ae{k:SK}{vs:List AV}(h:subAll nn vs=some vs):(AV.seq k vs).sub nn=some (.seq k vs):=(congrArg (Ñ (AV.seq k)) h).trans rfl
def Bo:C4 []:=λ_ _=>AA
def YB{w:Ì}{d:Nat}:BW (lF w) (H1 w.params) (d+2) (.ref aN) (Kl aC):=
 Ox w0 (YM _).2.2 (YM _).1 (YM _).2.1 (ps:=["_cls","a","b","size"]) (by decide) (by rfl') (Za λa b c d=>by rfl') λas os Q hh=>by
  obtain⟨a,b,c,ea,eo,hs,hq⟩:=hh
  subst ea;subst eo
  exact⟨⟨rfl,Bo⟩,yP.mpr ⟨_,_,[],rfl,.refl _,Ae (AW hs.1 (AW hs.2.1 (AW hs.2.2 rfl))),rfl,Bo,λ_ _=>AA,hq⟩⟩
def pY:List í:=(CH T7 "_make").1
def pX:Scope:=(CH T7 "_make").2
def Vi(P:Ó):(CV P 89).body = .stmts pY/\(CV P 89).scope=pX/\BF P 89=true:=⟨by rfl',by rfl',by rfl'⟩
def Pd{f:aD9}{p q:Str}(h :∀a b:Value,bindArgs f ⟨[a,b],[]⟩=pure ([(p,a),(q,b)])) :∀vas:List Value,vas.length=2->bindArgs f ⟨vas,[]⟩=pure (([p,q]:List Str).zip vas):=
 LB λa=>LB λb=>Yh (h a b)
def yO{w:Ì}{a b c:AV}{Q:AV->List Ob->Prop}:wL (p0 w) (Fo (p0 w) pX 20) pY (A4 ((["cls","iterable"]:List Str).zip [.glo aC,.tup [a,b,c]]) []) (AJ 0 Q) =
  AJ 0 Q (.ret (.mat [a,b,c])) (A4 [("cls",.glo aC),("iterable",.tup [a,b,c]),("result",.mat [a,b,c])] []):=by rfl'
def pK{vs:List AV}(h:vs.length=3) :∃a b c,vs=[a,b,c]:=by
 match vs,h with
 | [a,b,c],_=>exact⟨a,b,c,rfl⟩
def Tj{w:Ì}{d:Nat}:BW (lF w) (H1 w.params) (d+2) (.ref aM) (Hb aC):=
 Ox w0 (Vi _).2.2 (Vi _).1 (Vi _).2.1 (ps:=["cls","iterable"]) (by decide) (by rfl') (Pd λa b=>by rfl') λas os Q hh=>by
  obtain⟨vs,ea,hl,hs,eo,hq⟩:=hh
  obtain⟨a,b,c,rfl⟩:=pK hl
  subst ea;subst eo
  exact⟨⟨rfl,Bo⟩,yO.mpr ⟨_,_,[],rfl,.refl _,Ae hs,rfl,Bo,λ_ _=>AA,hq⟩⟩
def zs(l:List Int):List AV:=l.map AV.int
def CJ(l:List Int):subAll nn (zs l)=some (zs l):=Ä (motive:=λl=>subAll nn (zs l)=some (zs l)) rfl (λa r ih=>AW rfl ih) l
def EM(l:List Int):BY (zs l)=some (l.map AE.int):=Ä (motive:=λl=>BY (zs l)=some (l.map AE.int)) rfl (λa r ih=>by
 show(BR (AV.int a)).bind (λk=>(BY (zs r)).map (k :: ·))=_
 rw[ih];rfl) l
def A7(l:List Int):(zs l).length=l.length:=z6 ..
noncomputable abbrev Bc(a b mb op fb b2j:AV):List (Str×AV):=[("isjunk",.none),("a",a),("b",b),("autojunk",.bool true),("matching_blocks",mb),("opcodes",op),("fullbcount",fb),("b2j",b2j),("bjunk",.fset []),("bpopular",.fset [])]
noncomputable abbrev VM:List (Str×AV):=[("isjunk",.none),("a",.none),("b",.none),("autojunk",.bool true)]
abbrev LH:List í:=AZ (pw.main.body[5]?)
def UA:List í:=(CH LH "set_seq1").1
def UW:Scope:=(CH LH "set_seq1").2
def SM(P:Ó):(CV P 174).body = .stmts UA/\(CV P 174).scope=UW/\BF P 174=true:=⟨by rfl',by rfl',by rfl'⟩
abbrev wB(P:Pm)(sc:Scope)(b:List í)(ρ:List (Str×AV))(os:List Ob)(Q:AV->List Ob->Prop):Prop:=wL P (Fo P sc 30) b (A4 ρ os) (AJ os.length Q)
def oE{w:Ì}{ys la:List Int}{b mb op fb b2j:AV}{Q:AV->List Ob->Prop}:wB (p0 w) UW UA ((["self","a"]:List Str).zip [.ref 0,.lst (zs ys)]) [(aD,Bc (.lst (zs la)) b mb op fb b2j)] Q =
  GP (zs ys) (zs la) λr=>BI r (AJ 1 Q (.ret .none) (A4 [("self",.ref 0),("a",.lst (zs ys))] [(aD,Bc (.lst (zs la)) b mb op fb b2j)])) (AJ 1 Q .next (A4 [("self",.ref 0),("a",.lst (zs ys))] [(aD,Bc (.lst (zs ys)) b .none .none fb b2j)])):=by rfl'
abbrev eS:AV:=.str ""
def Yz{w:Ì}{ys:List Int}{b mb op fb b2j:AV}{Q:AV->List Ob->Prop}:wB (p0 w) UW UA ((["self","a"]:List Str).zip [.ref 0,.lst (zs ys)]) [(aD,Bc eS b mb op fb b2j)] Q =
  AJ 1 Q .next (A4 [("self",.ref 0),("a",.lst (zs ys))] [(aD,Bc (.lst (zs ys)) b .none .none fb b2j)]):=by rfl'
noncomputable abbrev Ww:List (Str×AV):=[("isjunk",.none),("a",eS),("b",.none),("autojunk",.bool true),("matching_blocks",.none),("opcodes",.none)]
def bQ{w:Ì}{Q:AV->List Ob->Prop}:wB (p0 w) UW UA ((["self","a"]:List Str).zip [.ref 0,eS]) [(aD,VM)] Q=AJ 1 Q .next (A4 [("self",.ref 0),("a",eS)] [(aD,Ww)]):=by rfl'
def CA{o:Ob}(h:AH nn o.2=some o.2):C4 [o]:=λi p e=>by
 cases i with
 | zero=>exact zR e▸h
 | succ i=>exact AA e
def DQ{fl:Bp}{σ τ:St}{r:AV}{D:É}{at_:List (Str×AV)}{Q:AV->List Ob->Prop}(hf:I8 fl r)(hw:A0 σ τ)(h:τ.H.lookup 0=some (.inst D at_))(hr:r.sub nn=some r)(ha:AH nn at_=some at_)(hq:Q r [(D,at_)]):AJ 1 Q fl σ:=
 ⟨r,τ,[(D,at_)],hf,hw,hr,rfl,CA ha,λi p e=>by
  cases i with
  | zero=>exact zR e▸h
  | succ i=>exact AA e,hq⟩
def DP{x:Str}{a:AV}{r:List (Str×AV)}(h1:a.sub nn=some a)(h2:AH nn r=some r):AH nn ((x,a)::r)=some ((x,a)::r):=by
 show(a.sub nn).bind (λb=>(AH nn r).map ((x,b) :: ·))=_
 rw[h1,h2];rfl
def A5(l:List Int):(AV.lst (zs l)).sub nn=some (.lst (zs l)):=Ae (CJ l)
def YZ{l m:List Int}(h:l.map AE.int=m.map AE.int):l=m:=(List.map_inj_right λa b e=>AE.int.inj e).mp h
def T6{xs ys:List Int}{K:Bool->Prop}(h1:K false)(h2:xs=ys->K true):GP (zs xs) (zs ys) K:=by
 unfold GP
 rw[EM,EM]
 exact⟨h1,λe=>h2 (YZ e)⟩
structure BO(a b mb op fb b2j:AV):Prop where
 a:a.sub nn=some a
 b:b.sub nn=some b
 mb:mb.sub nn=some mb
 op:op.sub nn=some op
 fb:fb.sub nn=some fb
 b2j:b2j.sub nn=some b2j
def BO.shut{a b mb op fb b2j:AV}(h:BO a b mb op fb b2j):AH nn (Bc a b mb op fb b2j)=some (Bc a b mb op fb b2j):=
 DP rfl (DP h.a (DP h.b (DP rfl (DP h.mb (DP h.op (DP h.fb (DP h.b2j rfl)))))))
def tR(a:AV)(ys:List Int)(P:List Int->Prop):Prop:=a=eS\/∃la,a = .lst (zs la)/\(ys=la->P la)
def KW:Tr:=λas os Q=>(as=[.ref 0,eS]/\os=[(aD,VM)]/\Q .none [(aD,Ww)])\/∃ys a b mb op fb b2j,as=[.ref 0,.lst (zs ys)]/\os=[(aD,Bc a b mb op fb b2j)]/\BO a b mb op fb b2j/\
 Q .none [(aD,Bc (.lst (zs ys)) b .none .none fb b2j)]/\tR a ys λla=>Q .none [(aD,Bc (.lst (zs la)) b mb op fb b2j)]
def N1{w:Ì}{d:Nat}:BW (lF w) (H1 w.params) (d+2) (.ref 174) KW:=
 Ox w0 (SM _).2.2 (SM _).1 (SM _).2.1 (ps:=["self","a"]) (by decide) (by rfl') (Pd λa b=>by rfl') λas os Q hh=>by
  refine hh.elim (λhh=>?_) λhh=>?_
  ·obtain⟨ea,eo,hq⟩:=hh
   subst ea;subst eo
   exact⟨⟨rfl,CA rfl⟩,bQ.mpr (DQ (fl:=.next) rfl (.refl _) rfl rfl rfl hq)⟩
  ·obtain⟨ys,a,b,mb,op,fb,b2j,ea,eo,S,h1,h2⟩:=hh
   subst ea;subst eo
   have go:AJ 1 Q .next (A4 [("self",.ref 0),("a",.lst (zs ys))] [(aD,Bc (.lst (zs ys)) b .none .none fb b2j)]):=DQ (fl:=.next) rfl (.refl _) rfl rfl (BO.shut ⟨A5 ys,S.b,rfl,rfl,S.fb,S.b2j⟩) h1
   refine⟨⟨rfl,CA S.shut⟩,h2.elim (λe=>by subst e;exact Yz.mpr go) λq=>?_⟩
   obtain⟨la,e,q⟩:=q
   subst e
   exact oE.mpr (T6 go λe=>DQ (fl:=.ret .none) rfl (.refl _) rfl rfl S.shut (q e))
def WZ:List í:=(CH LH "set_seq2").1
def YH:Scope:=(CH LH "set_seq2").2
def SA(P:Ó):(CV P 181).body = .stmts WZ/\(CV P 181).scope=YH/\BF P 181=true:=⟨by rfl',by rfl',by rfl'⟩
noncomputable def XZ(a:É)(tr:Tr):É->Option Tr:=λf=>bif Ù f a then some tr else none
abbrev p1(w:Ì)(a:É)(tr:Tr):Pm:=Ij w.params (XZ a tr) none false false QN QN
def mA{w:Ì}{tr:Tr}{ys:List Int}{a mb op fb b2j:AV}{Q:AV->List Ob->Prop}:wB (p1 w 188 tr) YH WZ ((["self","b"]:List Str).zip [.ref 0,.lst (zs ys)]) [(aD,Bc a eS mb op fb b2j)] Q =
  B7 tr [.ref 0] (A4 [("self",.ref 0),("b",.lst (zs ys))] [(aD,Bc a (.lst (zs ys)) .none .none .none b2j)]) λ_ σ=>AJ 1 Q .next σ:=by rfl'
noncomputable abbrev g5:List (Str×AV):=[("isjunk",.none),("a",eS),("b",eS),("autojunk",.bool true),("matching_blocks",.none),("opcodes",.none),("fullbcount",.none)]
def bU{w:Ì}{tr:Tr}{Q:AV->List Ob->Prop}:wB (p1 w 188 tr) YH WZ ((["self","b"]:List Str).zip [.ref 0,eS]) [(aD,Ww)] Q =
  B7 tr [.ref 0] (A4 [("self",.ref 0),("b",eS)] [(aD,g5)]) λ_ σ=>AJ 1 Q .next σ:=by rfl'
def Sj:List í:=(CH LH "set_seqs").1
def Uj:Scope:=(CH LH "set_seqs").2
def RF(P:Ó):(CV P 167).body = .stmts Sj/\(CV P 167).scope=Uj/\BF P 167=true:=⟨by rfl',by rfl',by rfl'⟩
noncomputable def iC(a:É)(tr:Tr)(b:É)(tr':Tr):É->Option Tr:=λf=>bif Ù f a then some tr else bif Ù f b then some tr' else none
abbrev p2(w:Ì)(a:É)(tr:Tr)(b:É)(tr':Tr):Pm:=Ij w.params (iC a tr b tr') none false false QN QN
def mZ{w:Ì}{t1 t2:Tr}{Q:AV->List Ob->Prop}:wB (p2 w 174 t1 181 t2) Uj Sj ((["self","a","b"]:List Str).zip [.ref 0,eS,eS]) [(aD,VM)] Q =
  B7 t1 [.ref 0,eS] (A4 [("self",.ref 0),("a",eS),("b",eS)] [(aD,VM)]) λ_ σ=>wL (p2 w 174 t1 181 t2) (Fo (p2 w 174 t1 181 t2) Uj 30) (Sj.drop 2) σ (AJ 1 Q):=by rfl'
def E0(s:í):Expr×List í:=ĳ (motive_2:=λ_=>Expr×List í) s (λ_ _ _ _ _ _ _ _ _ _=>(.Name ("":Str) AB,[])) (λ_ _ _ _ _ _ _ _ _ _=>(.Name ("":Str) AB,[])) (λ_ _ _ _ _ _ _ _ _ _ _=>(.Name ("":Str) AB,[])) (λ_ _=>(.Name ("":Str) AB,[])) (λ_ _=>(.Name ("":Str) AB,[])) (λ_ _ _=>(.Name ("":Str) AB,[])) (λ_ _ _ _ _ _ _=>(.Name ("":Str) AB,[])) (λ_ _ _ _=>(.Name ("":Str) AB,[])) (λ_ _ _ _ _=>(.Name ("":Str) AB,[])) (λt i b o _=>(t,b)) (λ_ _ _ _ _=>(.Name ("":Str) AB,[])) (λ_ _ _ _=>(.Name ("":Str) AB,[])) (λ_ _ _ _=>(.Name ("":Str) AB,[])) (λ_ _ _=>(.Name ("":Str) AB,[])) (λ_ _ _=>(.Name ("":Str) AB,[])) (λ_ _ _=>(.Name ("":Str) AB,[])) (λ_ _ _=>(.Name ("":Str) AB,[])) (λ_ _ _ _ _=>(.Name ("":Str) AB,[])) (λ_ _ _ _ _=>(.Name ("":Str) AB,[])) (λ_ _ _=>(.Name ("":Str) AB,[])) (λ_ _=>(.Name ("":Str) AB,[])) (λ_ _ _ _=>(.Name ("":Str) AB,[])) (λ_ _=>(.Name ("":Str) AB,[])) (λ_ _=>(.Name ("":Str) AB,[])) (λ_ _=>(.Name ("":Str) AB,[])) (λ_=>(.Name ("":Str) AB,[])) (λ_=>(.Name ("":Str) AB,[])) (λ_=>(.Name ("":Str) AB,[]))
noncomputable def Aa(s:í):List í:=ĳ (motive_2:=λ_=>List í) s (λ_ _ _ _ _ _ _ _ _ _=>[]) (λ_ _ _ _ _ _ _ _ _ _=>[]) (λ_ _ _ _ _ _ _ _ _ _ _=>[]) (λ_ _=>[]) (λ_ _=>[]) (λ_ _ _=>[]) (λ_ _ _ _ _ _ _=>[]) (λ_ _ _ _=>[]) (λ_ _ _ _ _=>[]) (λ_ _ _ _ _=>[]) (λ_ _ _ _ _=>[]) (λ_ _ _ _=>[]) (λt b o _=>b) (λ_ _ _=>[]) (λ_ _ _=>[]) (λ_ _ _=>[]) (λ_ _ _=>[]) (λ_ _ _ _ _=>[]) (λ_ _ _ _ _=>[]) (λ_ _ _=>[]) (λ_ _=>[]) (λ_ _ _ _=>[]) (λ_ _=>[]) (λ_ _=>[]) (λ_ _=>[]) (λ_=>[]) (λ_=>[]) (λ_=>[])
def GF:List í:=(CH LH "__chain_b").1
def Fy:Scope:=(CH LH "__chain_b").2
def QC(P:Ó):(CV P 188).body = .stmts GF/\(CV P 188).scope=Fy/\BF P 188=true:=⟨by rfl',by rfl',by rfl'⟩
abbrev Ho(w:Ì):WS:=Fo (p0 w) Fy 30
def KU:Expr×List í:=E0 (GF.getD 2 (.Pass AB))
def Mh(w:Ì):AV->St->KS->Prop:=λv σ K=>(ws (p0 w) Fy 29).A KU.1 v σ λσ=>wL (p0 w) (Fo (p0 w) Fy 29) KU.2 σ K
abbrev gS(ys:List Int):List (Str×AV):=[("self",.ref 0),("b",.lst (zs ys)),("b2j",.ref 1)]
noncomputable abbrev Ih(a b mb op fb b2j:AV)(tl:List (Str×AV)):List (Str×AV):=("isjunk",.none)::("a",a)::("b",b)::("autojunk",.bool true)::("matching_blocks",mb)::("opcodes",op)::("fullbcount",fb)::("b2j",b2j)::tl
noncomputable abbrev Yd:List (Str×AV):=[("bjunk",.fset []),("bpopular",.fset [])]
abbrev Wz(ys:List Int)(at_:List (Str×AV))(ds:List (AE×AV))(L:List (Nat×AO))(m:Nat):St:=⟨gS ys,(0,.inst aD at_)::(1,.dict ds)::L,m+2,1⟩
def nY{w:Ì}{ys:List Int}{a mb op fb b2j:AV}{K:KS}:wL (p0 w) (Ho w) GF (A4 [("self",.ref 0)] [(aD,Bc a (.lst (zs ys)) mb op fb b2j)]) K =
  (HW KU.1=true/\subAll nn (zs ys)=some (zs ys)/\D1 (B8 (zs ys)) (Mh w) (wL (p0 w) (Fo (p0 w) Fy 29) []) (Wz ys (Ih a (.lst (zs ys)) mb op fb (.ref 1) Yd) [] [] 0) (λfl υ=>Bp.rec (wL (p0 w) (Ho w) (GF.drop 3) υ K) (K .brk υ) (K .cont υ) (λv=>K (.ret v) υ) fl)):=by rfl'
def Zc{w:Ì}{K:KS}:wL (p0 w) (Ho w) GF (A4 [("self",.ref 0)] [(aD,g5)]) K =
  (("":Str).cps.size=0/\D1 [] (Mh w) (wL (p0 w) (Fo (p0 w) Fy 29) []) ⟨[("self",.ref 0),("b",eS),("b2j",.ref 1)],[(0,.inst aD (Ih eS eS .none .none .none (.ref 1) [])),(1,.dict [])],2,1⟩ (λfl υ=>Bp.rec (wL (p0 w) (Ho w) (GF.drop 3) υ K) (K .brk υ) (K .cont υ) (λv=>K (.ret v) υ) fl)):=by rfl'
abbrev Vy(ys:List Int)(at_:List (Str×AV))(ds:List (AE×AV))(L:List (Nat×AO))(m:Nat)(i:Int)(x:Int)(u:AV):St:=⟨[("self",.ref 0),("b",.lst (zs ys)),("b2j",.ref 1),("i",.int i),("elt",.int x),("indices",u)],(0,.inst aD at_)::(1,.dict ds)::L,m+2,1⟩
def ZM{w:Ì}{ys:List Int}{at_:List (Str×AV)}{ds:List (AE×AV)}{L:List (Nat×AO)}{m:Nat}{i x:Int}{K:KS}:Mh w (.tup [.int i,.int x]) (Wz ys at_ ds L m) K =
  (2=2/\AC ds.length/\((∀u,ds.lookup (.int x)=some u->wL (p0 w) (Fo (p0 w) Fy 29) (KU.2.drop 1) (Vy ys at_ ds (AP L (m+2) (.list [])) (m+1) i x u) K)/\
   (ds.lookup (.int x)=none->wL (p0 w) (Fo (p0 w) Fy 29) (KU.2.drop 1) (Vy ys at_ (dset ds (.int x) (.ref (m+2))) (AP L (m+2) (.list [])) (m+1) i x (.ref (m+2))) K))):=by rfl'
def eT{w:Ì}{ys:List Int}{at_:List (Str×AV)}{ds:List (AE×AV)}{L:List (Nat×AO)}{m q:Nat}{i x:Int}{K:KS}:wL (p0 w) (Fo (p0 w) Fy 29) (KU.2.drop 1) (Vy ys at_ ds L m i x (.ref (q+2))) K =
  A9 (L5 (KF w.params) (.ref (q+2)) "append" (Vy ys at_ ds L m i x (.ref (q+2)))) λg=>Di (p0 w) g.1 (bif g.2 then [.ref (q+2),.int i]else [.int i]) (Vy ys at_ ds L m i x (.ref (q+2))) λ_ σ=>K .next σ:=by rfl'
def Mr{K:aG7}{σ:St}{x:Nat}{vs:List AV}(h:σ.H.lookup x=some (.list vs)):L5 K (.ref x) "append" σ=some (.fn .append,true):=by
 have r:D0 σ (.ref x)=some (x,.list vs):=congrArg (Ñ (x,·)) h
 show J3 (Ñ _ (aN1 (D0 σ (.ref x)) _)) (Ñ _ (J3 (aN1 (aN1 (Ñ _ (D0 σ (.ref x))) AO.lst) _) _))=_
 rw[r];rfl'
def Ml{P:Pm}{σ:St}{x:Nat}{v:AV}{vs:List AV}{Q:AV->St->Prop}(h:σ.H.lookup x=some (.list vs))(hz:AC vs.length)(q:Q .none (σ.set x (.list (vs++[v])))):Di P (.fn .append) [.ref x,v] σ Q:=by
 show A9 (Ñ (x,·) (σ.H.lookup x)) λp=>A9 p.2.lst λvs=>AC vs.length/\Q .none (σ.set p.1 (.list (vs++[v])))
 rw[h]
 exact⟨hz,q⟩
noncomputable abbrev fL(b:AV)(n:Int)(a b2j mb op fb:AV)(tl:List (Str×AV)):St:=⟨[("self",.ref 0),("b",b),("junk",.ref 1),("isjunk",.none),("popular",.ref 2),("n",.int n)],[(0,.inst aD (Ih a b mb op fb b2j [("bjunk",.ref 1),("bpopular",.ref 2)])),(1,.set []),(2,.set [])],3,1⟩
def bL{w:Ì}{ys:List Int}{a mb op fb b2j:AV}{K:KS}:wL (p0 w) (Ho w) (GF.drop 3) ⟨[("self",.ref 0),("b",.lst (zs ys))],[(0,.inst aD (Ih a (.lst (zs ys)) mb op fb b2j Yd))],1,1⟩ K =
  (AC (zs ys).length/\wL (p0 w) (Ho w) (GF.drop 8) (fL (.lst (zs ys)) (zs ys).length a b2j mb op fb []) K):=by rfl'
def e7{w:Ì}{K:KS}:wL (p0 w) (Ho w) (GF.drop 3) ⟨[("self",.ref 0),("b",eS),("b2j",.ref 1)],[(0,.inst aD (Ih eS eS .none .none .none (.ref 1) [])),(1,.dict [])],2,1⟩ K =
  (("":Str).length<1000000/\K .next ⟨[("self",.ref 0),("b",eS),("b2j",.ref 1),("junk",.ref 2),("isjunk",.none),("popular",.ref 3),("n",.int 0)],[(0,.inst aD (Ih eS eS .none .none .none (.ref 1) [("bjunk",.ref 2),("bpopular",.ref 3)])),(1,.dict []),(2,.set []),(3,.set [])],4,1⟩):=by rfl'
abbrev kx(P:Pm)(S:WS)(r:List í)(K:KS):KS:=λfl υ=>Bp.rec (wL P S r υ K) (K .brk υ) (K .cont υ) (λv=>K (.ret v) υ) fl
def Fm{P P':Pm}{S S':WS}{r:List í}{K:KS}{σ:St}:wL P' S' [] σ (kx P S r K)=wL P S r σ K:=rfl
def b9{w:Ì}{b a b2j mb op fb:AV}{n:Int}{K:KS}:wL (p0 w) (Ho w) (GF.drop 8) (fL b n a b2j mb op fb []) K =
  BI (decide ((200:Int)<=n)) (wL (p0 w) (Fo (p0 w) Fy 29) (Aa (GF.getD 8 (.Pass AB))) (fL b n a b2j mb op fb []) (kx (p0 w) (Ho w) [] K)) (K .next (fL b n a b2j mb op fb [])):=by rfl'
def A0.less{ρ ρ':List (Str×AV)}{H H':List (Nat×AO)}{n a:Nat}(hρ :∀x v,ρ'.lookup x=some v->ρ.lookup x=some v)(hH :∀i o,H'.lookup i=some o->H.lookup i=some o):A0 ⟨ρ,H,n,a⟩ ⟨ρ',H',n,a⟩:=λX G s R=>⟨G,.refl _ _,R.base,R.keep,R.size,R.mutHs,R.ownB,R.ownLt,R.gens,R.os,
 R.loc.casesOn λm hm r=>⟨m,hm,λx av e1 e2=>r x av (hρ x av e1) e2⟩,λx a e=>(R.cel x a e).casesOn λv hv r=>⟨v,hv,λav e1 e2=>r av (hρ x av e1) e2⟩,R.celAll,R.tloc,R.tcel,λx o e=>have q:=R.obj x o (hH x o e);⟨q.lt,q.tag,q.rel⟩,R.anc⟩
noncomputable def Ci(ys:List Int)(i:Nat)(x:Int):List Nat:=(Ë i).filter λj=>decide (ys[j]?=some x)
def j6(ys:List Int)(i:Nat)(x:Int):List Int:=(Ci ys i x).map λ(j:Nat)=>(j:Int)
abbrev Bq(ys:List Int)(i:Nat)(x:Int):List AV:=zs (j6 ys i x)
section
variable{ys:List Int}{i:Nat}{x:Int}
def HT:Ci ys (i+1) x=Ci ys i x++[i].filter λj=>decide (ys[j]?=some x):=(congrArg _ ľ).trans (List.filter_append ..)
def Ll(h:ys[i]?=some x):Bq ys (i+1) x=Bq ys i x++[.int (i:Int)]:=by
 show ĕ _ (ĕ _ _)=ĕ _ (ĕ _ _)++_
 rw[HT,List.filter_cons_of_pos (p:=λj=>decide (ys[j]?=some x)) (decide_eq_true h),ù,ù];rfl
def IL(h:Ci ys i x=[]):Bq ys i x=[]:=congrArg (λl=>zs (ĕ (λj:Nat=>(j:Int)) l)) h
def Fp(h:ys[i]?≠some x):Ci ys (i+1) x=Ci ys i x:=by
 rw[HT,List.filter_cons_of_neg (p:=λj=>decide (ys[j]?=some x)) (λz=>h (of_decide_eq_true z))];exact Ô _
def K6(h:ys[i]?≠some x):Bq ys (i+1) x=Bq ys i x:=congrArg (λl=>zs (ĕ _ l)) (Fp h)
def IS:(Bq ys i x).length<=i:=by
 show(ĕ _ (ĕ _ _)).length<=i
 rw[z6,z6]
 exact zP (List.length_filter_le _ _) (Â ó)
end
def BJ(ys:List Int)(ds:List (AE×AV)):Prop:=subDict nn ds=some ds/\∀x:Int,(ds.lookup (.int x)).getD (.lst []) = .lst (Bq ys ys.length x)
def JH{es:List (Int×Nat)}{f:Int×Nat->AV}{x:Int}:(∃p∈es,p.1=x/\(es.map λp=>(AE.int p.1,f p)).lookup (.int x)=some (f p))\/((∀p∈es,p.1≠x)/\(es.map λp=>(AE.int p.1,f p)).lookup (.int x)=none):=
 Ä (motive:=λes=>(∃p∈es,p.1=x/\(es.map λp=>(AE.int p.1,f p)).lookup (.int x)=some (f p))\/((∀p∈es,p.1≠x)/\(es.map λp=>(AE.int p.1,f p)).lookup (.int x)=none)) (.inr ⟨λ_ h=>(nomatch h),rfl⟩) (λp r ih=>by
  by_cases h:p.1=x
  ·refine .inl ⟨p,z8 ..,h,?_⟩
   rw[Ć,AU,<-h,show(AE.int p.1==AE.int p.1)=true from beq_self_eq_true _];rfl
  ·have e:(AE.int x==AE.int p.1)=false:=beq_eq_false_iff_ne.mpr λz=>h (AE.int.inj z).symm
   rw[Ć,AU,e]
   exact ih.imp (λq=>q.imp λ_ q=>⟨À _ q.1,q.2⟩) λq=>⟨λy hy=>(È.mp hy).elim (λz=>z▸h) (q.1 y),q.2⟩) es
noncomputable def KL(es:List (Int×Nat)):List (AE×AV):=es.map λp=>(AE.int p.1,.ref (p.2+2))
def Hl(ys:List Int)(es:List (Int×Nat)):List (AE×AV):=es.map λp=>(AE.int p.1,.lst (Bq ys ys.length p.1))
structure CI(ys:List Int)(i:Nat)(es:List (Int×Nat))(L:List (Nat×AO))(m:Nat):Prop where
 lt :∀p∈es,p.2<m
 at_ :∀p∈es,L.lookup (p.2+2)=some (.list (Bq ys i p.1))
 k :∀p∈es,∀q∈es,p.1=q.1->p.2=q.2
 v :∀p∈es,∀q∈es,p.2=q.2->p.1=q.1
 no :∀x,(∀p∈es,p.1≠x)->Ci ys i x=[]
section
variable{ys:List Int}{i m:Nat}{x:Int}{es:List (Int×Nat)}{L:List (Nat×AO)}
def ns{a b:Nat}(h:a<b):a+2≠b+2:=λz=>ß h (Ź z)
def FS{β:Type}{l:List (Nat×β)}{x y:Nat}{v:β}(h:y≠x):(AP l x v).lookup y=l.lookup y:=by rw[Dv,beq_eq_false_iff_ne.mpr h];rfl
def Dp{β:Type}{l:List (Nat×β)}{x:Nat}{v:β}:(AP l x v).lookup x=some v:=by rw[Dv,beq_self_eq_true];rfl
def CI.gar(h:CI ys i es L m){o:AO}:CI ys i es (AP L (m+2) o) (m+1):=⟨λp hp=>ã (h.lt p hp),λp hp=>(FS (ns (h.lt p hp))).trans (h.at_ p hp),h.k,h.v,h.no⟩
def CI.fresh(h:CI ys i es L m)(hx :∀p∈es,p.1≠x):CI ys i (es++[(x,m)]) (AP L (m+2) (.list [])) (m+1):=by
 have g:=h.gar (o:=.list [])
 have go :∀{P:Int×Nat->Prop},(∀p∈es,P p)->P (x,m)->∀p∈es++[(x,m)],P p:=λa b p hp=>(Á.mp hp).elim (a p) λz=>z9.mp z▸b
 exact⟨go g.lt (Ê m),go g.at_ (Dp.trans (congrArg (λl=>some (AO.list l)) (IL (h.no x hx)).symm)),
  go (λp hp=>go (h.k p hp) λz=>absurd z (hx p hp)) (go (λq hq z=>absurd z.symm (hx q hq)) λ_=>rfl),
  go (λp hp=>go (h.v p hp) λz=>absurd z (ß (h.lt p hp))) (go (λq hq z=>absurd z.symm (ß (h.lt q hq))) λ_=>rfl),
  λy hy=>h.no y λp hp=>hy p (List.mem_append_left _ hp)⟩
def CI.add(h:CI ys i es L m){p:Int×Nat}(hp:p∈es)(hx:ys[i]?=some p.1):CI ys (i+1) es (AP L (p.2+2) (.list (Bq ys i p.1++[.int (i:Int)]))) m:=by
 refine⟨h.lt,λq hq=>?_,h.k,h.v,λy hy=>(Fp λz=>hy p hp (zR (hx.symm.trans z))).trans (h.no y hy)⟩
 by_cases e:q.2=p.2
 ·have e':=h.v q hq p hp e
  rw[e,e',Ll hx];exact Dp
 ·rw[K6 λz=>e (h.k q hq p hp (zR (z.symm.trans hx)))]
  exact(FS λz=>e (Ź z)).trans (h.at_ q hq)
def CI.nil:CI ys 0 [] [] 0:=⟨λ_ h=>(nomatch h),λ_ h=>(nomatch h),λ_ h=>(nomatch h),λ_ h=>(nomatch h),λ_ _=>rfl⟩
def KC{g:Nat->Option AV}{x:Str}{a a':AV}{r r':List (Str×AV)}(h1:a.sub g=some a')(h2:AH g r=some r'):AH g ((x,a)::r)=some ((x,a')::r'):=by
 show(a.sub g).bind (λb=>(AH g r).map ((x,b) :: ·))=_
 rw[h1,h2];rfl
def YS{g:Nat->Option AV}{D:É}{r r':List (Str×AV)}(h:AH g r=some r'):(AO.inst D r).sub g=some (.inst D r'):=congrArg (Ñ (AO.inst D)) h
def Qt{g:Nat->Option AV}{a b mb op fb u v:AV}{tl tl':List (Str×AV)}(S:BO a b mb op fb .none)(h:u.sub g=some v)(ht:AH g tl=some tl'):(AO.inst aD (Ih a b mb op fb u tl)).sub g=some (.inst aD (Ih a b mb op fb v tl')):=
 YS (KC rfl (KC (Ag _ _ S.a) (KC (Ag _ _ S.b) (KC rfl (KC (Ag _ _ S.mb) (KC (Ag _ _ S.op) (KC (Ag _ _ S.fb) (KC h ht))))))))
def HD{g:Nat->Option AV}{u v:Int×Nat->AV} :∀{es:List (Int×Nat)},(∀p∈es,(u p).sub g=some (v p))->subDict g (es.map λp=>(AE.int p.1,u p))=some (es.map λp=>(AE.int p.1,v p)):=
 λ{es}=>Ä (motive:=λes=>(∀p∈es,(u p).sub g=some (v p))->subDict g (es.map λp=>(AE.int p.1,u p))=some (es.map λp=>(AE.int p.1,v p))) (λ_=>rfl) (λp r ih h=>by
  show((u p).sub g).bind (λb=>(subDict g (r.map λp=>(AE.int p.1,u p))).map ((AE.int p.1,b) :: ·))=_
  rw[h p (z8 ..),ih λq hq=>h q (À _ hq)];rfl) es
def CI.fin{a mb op fb:AV}{tl:List (Str×AV)}(h:CI ys ys.length es L m)(S:BO a (.lst (zs ys)) mb op fb .none)(ht:AH nn tl=some tl) :
  BJ ys (Hl ys es)/\A0 (Wz ys (Ih a (.lst (zs ys)) mb op fb (.ref 1) tl) (KL es) L m) ⟨[("self",.ref 0),("b",.lst (zs ys))],[(0,.inst aD (Ih a (.lst (zs ys)) mb op fb (.dct (Hl ys es)) tl))],1,1⟩:=by
 have hb:subDict nn (Hl ys es)=some (Hl ys es):=HD λp _=>A5 _
 refine⟨⟨hb,λx=>(JH (es:=es) (f:=λp=>.lst (Bq ys ys.length p.1)) (x:=x)).elim (λq=>q.elim λp q=>by
  show((Hl ys es).lookup _).getD _=_
  rw[show(Hl ys es).lookup _=_ from q.2.2,q.2.1];rfl) λq=>by
  show((Hl ys es).lookup _).getD _=_
  rw[show(Hl ys es).lookup _=_ from q.2,IL (h.no x q.1)];rfl⟩,?_⟩
 have fl :∀{es':List (Int×Nat)} {y:Nat},(∀p∈es',p∈es)->(∃p∈es,p.2+2=y/\(es'.map λp=>(p.2+2,AV.lst (Bq ys ys.length p.1))).lookup y=some (.lst (Bq ys ys.length p.1)))\/((∀p∈es',p.2+2≠y)/\(es'.map λp=>(p.2+2,AV.lst (Bq ys ys.length p.1))).lookup y=none):=λ{es' y}=>Ä (motive:=λes'=>(∀p∈es',p∈es)->(∃p∈es,p.2+2=y/\(es'.map λp=>(p.2+2,AV.lst (Bq ys ys.length p.1))).lookup y=some (.lst (Bq ys ys.length p.1)))\/((∀p∈es',p.2+2≠y)/\(es'.map λp=>(p.2+2,AV.lst (Bq ys ys.length p.1))).lookup y=none)) (λ_=>.inr ⟨λ_ h=>(nomatch h),rfl⟩) (λp r ih hs=>by
  rw[Ć,AU]
  by_cases e:p.2+2=y
  ·rw[show(y==p.2+2)=true from beq_iff_eq.mpr e.symm]
   exact .inl ⟨p,hs p (z8 ..),e,rfl⟩
  ·rw[show(y==p.2+2)=false from beq_eq_false_iff_ne.mpr λz=>e z.symm]
   exact(ih λq hq=>hs q (À _ hq)).imp id λq=>⟨λz hz=>(È.mp hz).elim (λw=>w▸e) (q.1 z),q.2⟩) es'
 have S1:A0 (Wz ys (Ih a (.lst (zs ys)) mb op fb (.ref 1) tl) (KL es) L m) ⟨gS ys,[(0,.inst aD (Ih a (.lst (zs ys)) mb op fb (.ref 1) tl)),(1,.dict (Hl ys es))],2,1⟩:=
  A0.re [0,1] (es.map λp=>(p.2+2,.lst (Bq ys ys.length p.1))) rfl rfl rfl rfl (λy w e=>(fl (y:=y) λ_=>id).elim (λq=>q.elim λp q=>by
   rw[q.2.2]at e
   rw[<-zR e,<-q.2.1]
   exact⟨rfl,_,h.at_ p q.1,rfl,A5 _⟩) λq=>AA (q.2.symm.trans e))
   (Ay rfl rfl (Ay rfl (Ag _ _ (A5 ys)) (Ay rfl rfl BU)))
   (E9 rfl rfl (Qt S rfl (DX ht)) (E9 rfl rfl (congrArg (Ñ AO.dict) (HD λp hp=>(fl (y:=p.2+2) λ_=>id).elim (λq=>q.elim λp' q=>by
    rw[<-h.v p' q.1 p hp (Ź q.2.1)]
    exact q.2.2) λq=>absurd rfl (q.1 p hp))) BS))
 exact S1.trans (A0.re [0] [(1,.dct (Hl ys es))] rfl rfl rfl rfl (BQ rfl rfl rfl (congrArg (Ñ AV.dct) hb) Br) (Ay rfl rfl (Ay rfl (Ag _ _ (A5 ys)) BU)) (E9 rfl rfl (Qt S rfl (DX ht)) BS))
end
def bH:Tr:=λas os Q=>as=[.ref 0]/\((os=[(aD,g5)]/\Q .none [(aD,Bc eS eS .none .none .none (.dct []))])\/∃(ys:List Int) (a mb op fb b2j:AV),ys.length<200/\
 os=[(aD,Bc a (.lst (zs ys)) mb op fb b2j)]/\BO a (.lst (zs ys)) mb op fb b2j/\∀ds,BJ ys ds->Q .none [(aD,Bc a (.lst (zs ys)) mb op fb (.dct ds))])
section
variable{ys:List Int}{a mb op fb:AV}{tl:List (Str×AV)}{w:Ì}{Q:AV->List Ob->Prop}
def fW(ys:List Int)(a mb op fb:AV)(tl:List (Str×AV))(i:Nat)(τ:St):Prop:=(i<ys.length->∃es L m,τ=Wz ys (Ih a (.lst (zs ys)) mb op fb (.ref 1) tl) (KL es) L m/\CI ys i es L m/\es.length<=i)/\
 (i=ys.length->∃ds,BJ ys ds/\τ=⟨[("self",.ref 0),("b",.lst (zs ys))],[(0,.inst aD (Ih a (.lst (zs ys)) mb op fb (.dct ds) tl))],1,1⟩)
def PY{i m:Nat}{es:List (Int×Nat)}{L:List (Nat×AO)}(S:BO a (.lst (zs ys)) mb op fb .none)(ht:AH nn tl=some tl)(h:CI ys i es L m)(hl:es.length<=i)(hi:i<=ys.length) :
  ∃τ,A0 (Wz ys (Ih a (.lst (zs ys)) mb op fb (.ref 1) tl) (KL es) L m) τ/\fW ys a mb op fb tl i τ:=
 (ú hi).elim (λz=>⟨_,.refl _,λ_=>⟨es,L,m,rfl,h,hl⟩,λe=>absurd e (ß z)⟩) λz=>by
  subst z
  have q:=CI.fin h S ht
  exact⟨_,q.2,λe=>absurd e (ò _),λ_=>⟨_,q.1,rfl⟩⟩
def Sx{H:List (Nat×AO)}{n:Nat}{u v t:AV}:A0 ⟨[("self",.ref 0),("b",.lst (zs ys)),("b2j",.ref 1),("i",u),("elt",v),("indices",t)],H,n,1⟩ ⟨gS ys,H,n,1⟩:=
 .less (ρ':=gS ys) (λy v e=>Bv e (λa b=>by subst a;subst b;rfl) λe=>Bv e (λa b=>by subst a;subst b;rfl) λe=>Bv e (λa b=>by subst a;subst b;rfl) AA) λ_ _=>id
def Mq{i m:Nat}{es:List (Int×Nat)}{L:List (Nat×AO)}{p:Int×Nat}{K:KS}(S:BO a (.lst (zs ys)) mb op fb .none)(ht:AH nn tl=some tl)(h:CI ys i es L m)(hl:es.length<=i+1)(hp:p∈es)(hx:ys[i]?=some p.1)(hn:ys.length<=100000) :
  wL (p0 w) (Fo (p0 w) Fy 29) (KU.2.drop 1) (Vy ys (Ih a (.lst (zs ys)) mb op fb (.ref 1) tl) (KL es) L m i p.1 (.ref (p.2+2))) (turn (λσ=>∃τ,A0 σ τ/\fW ys a mb op fb tl (i+1) τ) K):=by
 have hi:=(zT.mp hx).1
 have e:=h.at_ p hp
 have e':(Vy ys (Ih a (.lst (zs ys)) mb op fb (.ref 1) tl) (KL es) L m i p.1 (.ref (p.2+2))).H.lookup (p.2+2)=some (.list (Bq ys i p.1)):=e
 rw[eT,Mr e']
 obtain⟨τ,q1,q2⟩:=PY S ht (h.add hp hx) hl hi
 exact Ml (P:=p0 w) (v:=.int (i:Int)) (Q:=λ_ σ=>∃τ,A0 σ τ/\fW ys a mb op fb tl (i+1) τ) e' (zP IS (zP (Û hi) (zP hn (by decide)))) ⟨τ,Sx.trans q1,q2⟩
def CM{P:Pm}{S:WS}{σ:St}{Q:KS}:wL P S [] σ Q=Q .next σ:=rfl
def bS{c:Bool}{A B:Prop}(h:c=false):BI c A B=B:=by rw[h];rfl
def Uo(S:BO a (.lst (zs ys)) mb op fb .none)(ht':AH nn Yd=some Yd)(hn2:ys.length<200)(hq :∀ds,BJ ys ds->Q .none [(aD,Bc a (.lst (zs ys)) mb op fb (.dct ds))]) :
  HW KU.1=true/\subAll nn (zs ys)=some (zs ys)/\D1 (B8 (zs ys)) (Mh w) (wL (p0 w) (Fo (p0 w) Fy 29) []) (Wz ys (Ih a (.lst (zs ys)) mb op fb (.ref 1) Yd) [] [] 0) (λfl υ=>Bp.rec (wL (p0 w) (Ho w) (GF.drop 3) υ (AJ 1 Q)) (AJ 1 Q .brk υ) (AJ 1 Q .cont υ) (λv=>AJ 1 Q (.ret v) υ) fl):=by
 have hn:ys.length<=100000:=zP (Û hn2) (by decide)
 have en:(B8 (zs ys)).length=ys.length:=(DV _).trans (A7 ys)
 refine⟨by rfl',CJ ys,fW ys a mb op fb Yd,PY S ht' CI.nil (zX _) (Õ _),λi τ v hv hI=>?_,λτ hI=>?_⟩
 ·have hi:i<ys.length:=en▸(zT.mp hv).1
  obtain⟨es,L,m,rfl,h,hl⟩:=hI.1 hi
  have hx:ys[i]?=some (ys[i]'hi):=zV hi
  have hv':some v=some (.tup [.int (i:Int),.int (ys[i]'hi)]):=hv.symm.trans (EW ((Ð ..).trans (congrArg (Ñ AV.int) hx)))
  generalize ys[i]'hi=x at hx hv'
  cases hv'
  rw[ZM]
  refine⟨rfl,zP (Â (z6 ..)) (zP hl (zP (Û hi) (zP hn (by decide)))),λu hu=>?_,λhu=>?_⟩
  ·refine(JH (es:=es) (f:=λp=>.ref (p.2+2)) (x:=x)).elim (λq=>?_) λq=>AA (q.2.symm.trans hu)
   obtain⟨p,hp,e1,e2⟩:=q
   cases zR (e2.symm.trans hu)
   subst e1
   exact Mq S ht' h.gar (ð hl) hp hx hn
  ·refine(JH (es:=es) (f:=λp=>.ref (p.2+2)) (x:=x)).elim (λq=>q.elim λp q=>AA (hu.symm.trans q.2.2)) λq=>?_
   have:dset (KL es) (.int x) (.ref (m+2))=KL (es++[(x,m)]):=by
    unfold dset
    rw[if_neg]
    ·exact(ù (l₁:=es) (l₂:=[(x,m)]) (f:=λp:Int×Nat=>(AE.int p.1,AV.ref (p.2+2)))).symm
    ·intro z
     obtain⟨r,r1,r2⟩:=aD0.mp z
     obtain⟨p,p1,rfl⟩:=Ğ.mp r1
     exact q.1 p p1 (AE.int.inj (of_decide_eq_true r2))
   rw[this]
   exact Mq S ht' (h.fresh q.1) (zP (Â zU) (ý hl)) (p:=(x,m)) (List.mem_append_right _ (z9.mpr rfl)) hx hn
 ·rw[en]at hI
  obtain⟨ds,hB,rfl⟩:=hI.2 rfl
  rw[CM]
  refine bL.mpr ⟨zP (Â (A7 ys)) (zP hn (by decide)),?_⟩
  rw[b9,bS (decide_eq_false (by rw[A7];exists[_],0xf0000c89390000c89018,hn2))]
  have hd:(AV.dct ds).sub nn=some (.dct ds):=congrArg (Ñ AV.dct) hB.1
  exact DQ (fl:=.next) (τ:=⟨[],[(0,.inst aD (Bc a (.lst (zs ys)) mb op fb (.dct ds)))],1,1⟩) rfl
   (A0.re [0] [(1,.fset []),(2,.fset [])] rfl rfl rfl rfl (BQ rfl rfl rfl rfl (BQ rfl rfl rfl rfl Br)) BU (E9 rfl rfl (Qt S (Ag _ _ hd) rfl) BS)) rfl rfl (BO.shut ⟨S.a,S.b,S.mb,S.op,S.fb,hd⟩) (hq ds hB)
def NG{f:aD9}{p:Str}(h :∀a:Value,bindArgs f ⟨[a],[]⟩=pure ([(p,a)])) :∀vas:List Value,vas.length=1->bindArgs f ⟨vas,[]⟩=pure (([p]:List Str).zip vas):=
 LB λa=>Yh (h a)
def RO{d:Nat}:BW (lF w) (H1 w.params) (d+2) (.ref 188) bH:=
 Ox w0 (QC _).2.2 (QC _).1 (QC _).2.1 (ps:=["self"]) (by decide) (by rfl') (NG λa=>by rfl') λas os Q hh=>by
  obtain⟨ea,hh⟩:=hh
  subst ea
  refine hh.elim (λhh=>?_) λhh=>?_
  ·obtain⟨eo,hq⟩:=hh
   subst eo
   refine⟨⟨rfl,CA rfl⟩,Zc.mpr ⟨rfl,λ_ τ=>τ=⟨[("self",.ref 0),("b",eS),("b2j",.ref 1)],[(0,.inst aD (Ih eS eS .none .none .none (.ref 1) [])),(1,.dict [])],2,1⟩,⟨_,.refl _,rfl⟩,λi τ v hv=>AA hv,λτ hI=>?_⟩⟩
   subst hI
   rw[CM]
   refine e7.mpr ⟨by decide,?_⟩
   exact DQ (fl:=.next) (τ:=⟨[],[(0,.inst aD (Bc eS eS .none .none .none (.dct [])))],1,1⟩) rfl
    (A0.re [0] [(1,.dct []),(2,.fset []),(3,.fset [])] rfl rfl rfl rfl (BQ rfl rfl rfl rfl (BQ rfl rfl rfl rfl (BQ rfl rfl rfl rfl Br))) BU (E9 rfl rfl rfl BS)) rfl rfl rfl hq
  ·obtain⟨ys,a,mb,op,fb,b2j,hn,eo,S,hq⟩:=hh
   subst eo
   exact⟨⟨rfl,CA S.shut⟩,nY.mpr (Uo ⟨S.a,S.b,S.mb,S.op,S.fb,rfl⟩ rfl hn hq)⟩
end
section
def Fn{tr:Tr}{ρ:List (Str×AV)}{H:List (Nat×AO)}{n k:Nat}{D:É}{at_:List (Str×AV)}{as as':List AV}{Q:AV->St->Prop}(hs:AH nn at_=some at_)(hr:BV as=[0])(ha:subAll (KO [0]) as=some as')
  (h:tr as' [(D,at_)] λr os'=>Q r (St.sets ⟨ρ,(0,.inst D at_)::H,n,k⟩ [0] os')):B7 tr as ⟨ρ,(0,.inst D at_)::H,n,k⟩ Q:=by
 refine .inl ?_
 unfold ID
 rw[hr,ha]
 exact⟨CA hs,h⟩
def MN:Tr:=λas os Q=>(as=[.ref 0,eS]/\os=[(aD,Ww)]/\Q .none [(aD,Bc eS eS .none .none .none (.dct []))])\/∃(ys:List Int) (a mb op fb b2j:AV),as=[.ref 0,.lst (zs ys)]/\ys.length<200/\os=[(aD,Bc a eS mb op fb b2j)]/\BO a eS mb op fb b2j/\
 ∀ds,BJ ys ds->Q .none [(aD,Bc a (.lst (zs ys)) .none .none .none (.dct ds))]
def G1{ys:List Int}{ds:List (AE×AV)}(h:BJ ys ds):(AV.dct ds).sub nn=some (.dct ds):=congrArg (Ñ AV.dct) h.1
variable{w:Ì}{d:Nat}
def w1{a:É}{tr:Tr}(h:BW (lF w) (H1 w.params) (d+1) (.ref a) tr):O3 (lF w) (H1 w.params) (p1 w a tr) d aN Ou aM NM aI:=
 U2 (λf t e=>BL (b:=Ù f a) (x:=some tr) (y:=none) e (λq e=>Å q▸zR e▸h) AA) (λe=>nomatch e) (λe=>nomatch e) (λ_ e=>nomatch e)
def w2{a b:É}{tr t2:Tr}(h:BW (lF w) (H1 w.params) (d+1) (.ref a) tr)(h2:BW (lF w) (H1 w.params) (d+1) (.ref b) t2):O3 (lF w) (H1 w.params) (p2 w a tr b t2) d aN Ou aM NM aI:=
 U2 (λf t e=>BL (b:=Ù f a) (x:=some tr) e (λq e=>Å q▸zR e▸h) λe=>BL (b:=Ù f b) (x:=some t2) (y:=none) e (λq e=>Å q▸zR e▸h2) AA) (λe=>nomatch e) (λe=>nomatch e) (λ_ e=>nomatch e)
def M4:BW (lF w) (H1 w.params) (d+3) (.ref 181) MN:=
 Ox (w1 RO) (SA _).2.2 (SA _).1 (SA _).2.1 (ps:=["self","b"]) (by decide) (by rfl') (Pd λa b=>by rfl') λas os Q hh=>by
  refine hh.elim (λhh=>?_) λhh=>?_
  ·obtain⟨ea,eo,hq⟩:=hh
   subst ea;subst eo
   exact⟨⟨rfl,CA rfl⟩,bU.mpr (Fn (D:=aD) (at_:=g5) (as':=[.ref 0]) rfl rfl rfl ⟨rfl,.inl ⟨rfl,DQ (fl:=.next) rfl (.refl _) rfl rfl rfl hq⟩⟩)⟩
  ·obtain⟨ys,a,mb,op,fb,b2j,ea,hn,eo,S,hq⟩:=hh
   subst ea;subst eo
   exact⟨⟨rfl,CA S.shut⟩,mA.mpr (Fn (D:=aD) (at_:=Bc a (.lst (zs ys)) .none .none .none b2j) (as':=[.ref 0]) (BO.shut ⟨S.a,A5 ys,rfl,rfl,rfl,S.b2j⟩) rfl rfl
    ⟨rfl,.inr ⟨ys,a,.none,.none,.none,b2j,hn,rfl,⟨S.a,A5 ys,rfl,rfl,rfl,S.b2j⟩,λds hB=>DQ (fl:=.next) rfl (.refl _) rfl rfl (BO.shut ⟨S.a,A5 ys,rfl,rfl,rfl,G1 hB⟩) (hq ds hB)⟩⟩)⟩
def eB:Tr:=λas os Q=>as=[.ref 0,eS,eS]/\os=[(aD,VM)]/\Q .none [(aD,Bc eS eS .none .none .none (.dct []))]
def ZH{t1 t2:Tr}{Q:AV->List Ob->Prop}:wL (p2 w 174 t1 181 t2) (Fo (p2 w 174 t1 181 t2) Uj 30) (Sj.drop 2) (A4 [("self",.ref 0),("a",eS),("b",eS)] [(aD,Ww)]) (AJ 1 Q) =
  B7 t2 [.ref 0,eS] (A4 [("self",.ref 0),("a",eS),("b",eS)] [(aD,Ww)]) λ_ σ=>AJ 1 Q .next σ:=by rfl'
def NV{f:aD9}{p q r:Str}(h :∀a b c:Value,bindArgs f ⟨[a,b,c],[]⟩=pure ([(p,a),(q,b),(r,c)])) :∀vas:List Value,vas.length=3->bindArgs f ⟨vas,[]⟩=pure (([p,q,r]:List Str).zip vas):=
 LB λa=>LB λb=>LB λc=>Yh (h a b c)
def Uq:BW (lF w) (H1 w.params) (d+4) (.ref 167) eB:=
 Ox (w2 (N1 (d:=d+1)) M4) (RF _).2.2 (RF _).1 (RF _).2.1 (ps:=["self","a","b"]) (by decide) (by rfl') (NV λa b c=>by rfl') λas os Q hh=>by
  obtain⟨ea,eo,hq⟩:=hh
  subst ea;subst eo
  exact⟨⟨rfl,CA rfl⟩,mZ.mpr (Fn (D:=aD) (at_:=VM) (as':=[.ref 0,eS]) rfl rfl rfl (.inl ⟨rfl,rfl,ZH.mpr (Fn (D:=aD) (at_:=Ww) (as':=[.ref 0,eS]) rfl rfl rfl
   (.inl ⟨rfl,rfl,DQ (fl:=.next) rfl (.refl _) rfl rfl rfl hq⟩))⟩))⟩
noncomputable def kb(fd:aD9)(vs:List Value):{k:Option (Array Value)->Sem (List (Str×Value)) // bindArgs fd ⟨vs,[]⟩=seqItems? fd.defaults >>= k}:=⟨_,rfl⟩
def Ex(P:Ó)(a:É):Option (Array Value):=match(KF P).lookup a with
 | some ⟨_,_,.seq it _,_⟩=>some it
 | _=>none
def Py{P:Ó}{a:É}{it:Array Value}(h:Ex P a=some it) :∃o n,(H1 P).get? a=some o/\o.data = .seq it n:=by
 unfold Ex at h
 split at h
 ·rename_i o1 o2 it' n o3 ho
  cases h
  exact⟨_,_,Dq P _ _ ho,rfl⟩
 ·cases h
def ZV{P:Ó}{f T:É}{p q r t u:Str}(hd:(CV P f).defaults = .ref T)(hi:Ex P T=some ((Ex P T).getD #[]))(h :∀a b c d e:Value,(kb (CV P f) [a,b,c,d,e]).1 (some ((Ex P T).getD #[]))=pure ([(p,a),(q,b),(r,c),(t,d),(u,e)]))(s:zY)(vas:List Value)(hb :∀b o,(H1 P).get? b=some o->s.heap.get? b=some o):vas.length=5->aC1 s (CV P f) ⟨vas,[]⟩ (([p,q,r,t,u]:List Str).zip vas):=by
 refine LB (m:=λvas=>aC1 s (CV P f) ⟨vas,[]⟩ (([p,q,r,t,u]:List Str).zip vas)) (λx=>LB λy=>LB λz=>LB λt=>LB λu=>Yh ?_) vas
 obtain⟨ob,n,q1,q2⟩:=Py hi
 exact aC1.of_defaults (T:=T) (k:=(kb (CV P f) [x,y,z,t,u]).1) hd (hb _ _ q1) q2 (kb _ _).2 (h x y z t u)
def e8:List í:=(CH LH "__init__").1
def dW:Scope:=(CH LH "__init__").2
def P7(P:Ó):(CV P 160).body = .stmts e8/\(CV P 160).scope=dW/\BF P 160=true:=⟨by rfl',by rfl',by rfl'⟩
def De(P:Ó):List Value:=((Ex P 153).getD #[]).toList
def HV(P:Ó):De P=[.none,(De P).getD 1 .none,(De P).getD 2 .none,.bool true]/\At (.str "") ((De P).getD 1 .none)=true/\At (.str "") ((De P).getD 2 .none)=true:=⟨by rfl',by rfl',by rfl'⟩
def Rx{P:Ó}{L:Cd}{G:Gh}{h:æ}{n:Nat}:VAll L G h n [.none,eS,eS,.bool true] (De P):=by
 rw[(HV P).1]
 exact⟨_,_,rfl,rfl,_,_,rfl,(HV P).2.1,_,_,rfl,(HV P).2.2,_,_,rfl,rfl,rfl⟩
def TE(P:Ó)(a:Value):(kb (CV P 160) [a]).1 (some ((Ex P 153).getD #[]))=pure ((["self","isjunk","a","b","autojunk"]:List Str).zip ([a]++De P)):=by rfl'
def P0{P:Ó}(s:zY)(vas:List Value)(hb :∀b o,(H1 P).get? b=some o->s.heap.get? b=some o)(e:vas.length+(De P).length=5):aC1 s (CV P 160) ⟨vas,[]⟩ ((["self","isjunk","a","b","autojunk"]:List Str).zip (vas++De P)):=by
 have e1:vas.length=1:=Ź (e.trans (congrArg (1 + ·) (show(De P).length=4 by rfl')).symm:vas.length+(De P).length=1+(De P).length)
 refine LB (m:=λvas=>aC1 s (CV P 160) ⟨vas,[]⟩ ((["self","isjunk","a","b","autojunk"]:List Str).zip (vas++De P))) (λx=>Yh ?_) vas e1
 obtain⟨ob,n,q1,q2⟩:=Py (P:=P) (a:=153) (it:=(Ex P 153).getD #[]) (by rfl')
 exact aC1.of_defaults (T:=153) (k:=(kb (CV P 160) [x]).1) (by rfl') (hb _ _ q1) q2 (kb _ _).2 (TE P x)
def lC{tr:Tr}{Q:AV->List Ob->Prop}:wB (p1 w 167 tr) dW e8 ((["self","isjunk","a","b","autojunk"]:List Str).zip ([.ref 0]++[.none,eS,eS,.bool true])) [(aD,[])] Q =
  B7 tr [.ref 0,eS,eS] (A4 [("self",.ref 0),("isjunk",.none),("a",eS),("b",eS),("autojunk",.bool true)] [(aD,VM)]) λ_ σ=>AJ 1 Q .next σ:=by rfl'
def RH:Tr:=λas os Q=>as=[.ref 0]/\os=[(aD,[])]/\Q .none [(aD,Bc eS eS .none .none .none (.dct []))]
def Ul:BW (lF w) (H1 w.params) (d+5) (.ref 160) RH:=
 wY (es:=[.none,eS,eS,.bool true]) (w1 Uq) (P7 _).2.2 (P7 _).1 (P7 _).2.1 (ps:=["self","isjunk","a","b","autojunk"]) (by decide) (by rfl') P0 Rx λas os Q hh=>by
  obtain⟨ea,eo,hq⟩:=hh
  subst ea;subst eo
  exact⟨⟨rfl,CA rfl⟩,lC.mpr (Fn (D:=aD) (at_:=VM) (as':=[.ref 0,eS,eS]) rfl rfl rfl ⟨rfl,rfl,DQ (fl:=.next) rfl (.refl _) rfl rfl rfl hq⟩)⟩
end
def Xk(s:í):Expr×List í:=ĳ (motive_2:=λ_=>Expr×List í) s (λ_ _ _ _ _ _ _ _ _ _=>(.Name ("":Str) AB,[])) (λ_ _ _ _ _ _ _ _ _ _=>(.Name ("":Str) AB,[])) (λ_ _ _ _ _ _ _ _ _ _ _=>(.Name ("":Str) AB,[])) (λ_ _=>(.Name ("":Str) AB,[])) (λ_ _=>(.Name ("":Str) AB,[])) (λ_ _ _=>(.Name ("":Str) AB,[])) (λ_ _ _ _ _ _ _=>(.Name ("":Str) AB,[])) (λ_ _ _ _=>(.Name ("":Str) AB,[])) (λ_ _ _ _ _=>(.Name ("":Str) AB,[])) (λ_ _ _ _ _=>(.Name ("":Str) AB,[])) (λ_ _ _ _ _=>(.Name ("":Str) AB,[])) (λt b o _=>(t,b)) (λ_ _ _ _=>(.Name ("":Str) AB,[])) (λ_ _ _=>(.Name ("":Str) AB,[])) (λ_ _ _=>(.Name ("":Str) AB,[])) (λ_ _ _=>(.Name ("":Str) AB,[])) (λ_ _ _=>(.Name ("":Str) AB,[])) (λ_ _ _ _ _=>(.Name ("":Str) AB,[])) (λ_ _ _ _ _=>(.Name ("":Str) AB,[])) (λ_ _ _=>(.Name ("":Str) AB,[])) (λ_ _=>(.Name ("":Str) AB,[])) (λ_ _ _ _=>(.Name ("":Str) AB,[])) (λ_ _=>(.Name ("":Str) AB,[])) (λ_ _=>(.Name ("":Str) AB,[])) (λ_ _=>(.Name ("":Str) AB,[])) (λ_=>(.Name ("":Str) AB,[])) (λ_=>(.Name ("":Str) AB,[])) (λ_=>(.Name ("":Str) AB,[]))
noncomputable def Ax(s:í):List Expr:=ĳ (motive_2:=λ_=>List Expr) s (λ_ _ _ _ _ _ _ _ _ _=>[]) (λ_ _ _ _ _ _ _ _ _ _=>[]) (λ_ _ _ _ _ _ _ _ _ _ _=>[]) (λ_ _=>[]) (λ_ _=>[]) (λts e _=>ts) (λ_ _ _ _ _ _ _=>[]) (λ_ _ _ _=>[]) (λ_ _ _ _ _=>[]) (λ_ _ _ _ _=>[]) (λ_ _ _ _ _=>[]) (λ_ _ _ _=>[]) (λ_ _ _ _=>[]) (λ_ _ _=>[]) (λ_ _ _=>[]) (λ_ _ _=>[]) (λ_ _ _=>[]) (λ_ _ _ _ _=>[]) (λ_ _ _ _ _=>[]) (λ_ _ _=>[]) (λ_ _=>[]) (λ_ _ _ _=>[]) (λ_ _=>[]) (λ_ _=>[]) (λ_ _=>[]) (λ_=>[]) (λ_=>[]) (λ_=>[])
def Fx:List í:=(CH LH "find_longest_match").1
def Ff:Scope:=(CH LH "find_longest_match").2
def QJ(P:Ó):(CV P 196).body = .stmts Fx/\(CV P 196).scope=Ff/\BF P 196=true:=⟨by rfl',by rfl',by rfl'⟩
noncomputable def Xc:Pos->Bool:=λp=>Ù p.line 312
abbrev Bd(w:Ì):Pm:=Ij w.params (λ_=>none) none true false Xc QN
abbrev DM(w:Ì)(f:Nat):WS:=Fo (Bd w) Ff f
def fO:Expr×List í:=E0 (Fx.getD 7 (.Pass AB))
def fI:Expr×List í:=E0 (fO.2.getD 2 (.Pass AB))
def kY:List Expr:=Ax (fI.2.getD 2 (.Pass AB))
def kW(w:Ì):AV->St->KS->Prop:=λv σ K=>(ws (Bd w) Ff 29).A fO.1 v σ λσ=>wL (Bd w) (DM w 29) fO.2 σ K
def gG(w:Ì):AV->St->KS->Prop:=λv σ K=>(ws (Bd w) Ff 28).A fI.1 v σ λσ=>wL (Bd w) (DM w 28) fI.2 σ K
abbrev pW(la lb:List Int)(ds:List (AE×AV))(alo ahi blo bhi bi bj bk:Int)(tl:List (Str×AV)):List (Str×AV):=("self",.ref 0)::("alo",.int alo)::("ahi",.int ahi)::("blo",.int blo)::("bhi",.int bhi)::("a",.lst (zs la))::("b",.lst (zs lb))::("b2j",.dct ds)::("isbjunk",.bm .has (.fset []))::("besti",.int bi)::("bestj",.int bj)::("bestsize",.int bk)::tl
abbrev Zt(la lb:List Int)(mb op fb:AV)(ds:List (AE×AV)):AO:=.inst aD (Bc (.lst (zs la)) (.lst (zs lb)) mb op fb (.dct ds))
abbrev Ha(la lb:List Int)(mb op fb:AV)(ds:List (AE×AV))(alo ahi blo bhi bi bj bk:Int)(es:List (AE×AV)):St:=⟨pW la lb ds alo ahi blo bhi bi bj bk [("j2len",.dct es),("nothing",.lst [])],[(0,Zt la lb mb op fb ds)],1,1⟩
abbrev aY(la lb:List Int)(mb op fb:AV)(ds:List (AE×AV))(alo ahi blo bhi:Int):St:=⟨[("self",.ref 0),("alo",.int alo),("ahi",.int ahi),("blo",.int blo),("bhi",.int bhi),("a",.lst (zs la)),("b",.lst (zs lb)),("b2j",.dct ds),("isbjunk",.bm .has (.fset [])),("bestsize",.int 0),("bestj",.int blo),("besti",.int alo),("j2len",.ref 1),("nothing",.lst [])],[(0,Zt la lb mb op fb ds),(1,.dict [])],2,1⟩
abbrev LG(la lb:List Int)(mb op fb:AV)(ds:List (AE×AV))(alo ahi blo bhi bi bj bk:Int)(es es2:List (AE×AV))(i:Int)(u:AV)(tl:List (Str×AV)):St:=⟨pW la lb ds alo ahi blo bhi bi bj bk (("j2len",u)::("nothing",.lst [])::("i",.int i)::("j2lenget",.bm .get (.dct es))::("newj2len",.ref 1)::tl),[(0,Zt la lb mb op fb ds),(1,.dict es2)],2,1⟩
section
variable{w:Ì}{la lb:List Int}{mb op fb:AV}{ds es es2:List (AE×AV)}{alo ahi blo bhi bi bj bk i j r:Int}{K:KS}{Q:AV->List Ob->Prop}{R:Bool->St->Prop}
def mQ:wB (Bd w) Ff Fx ((["self","alo","ahi","blo","bhi"]:List Str).zip [.ref 0,.int alo,.int ahi,.int blo,.int bhi]) [(aD,Bc (.lst (zs la)) (.lst (zs lb)) mb op fb (.dct ds))] Q =
  (4=4/\3=3/\Au alo ahi/\D1 (Ao alo (ahi-alo).toNat) (kW w) (wL (Bd w) (DM w 29) []) (aY la lb mb op fb ds alo ahi blo bhi) (kx (Bd w) (DM w 30) (Fx.drop 8) (AJ 1 Q))):=by rfl'
def fC:kW w (.int i) (Ha la lb mb op fb ds alo ahi blo bhi bi bj bk es) K =
  (BH i/\∃v,CF (zs la) i=some v/\Di (Bd w) (.fn .get) [.dct ds,v,.lst []] (LG la lb mb op fb ds alo ahi blo bhi bi bj bk es [] i (.dct es) []) λu σ=>Ö (A9 (IK u) λes=>D1 (DB es) (gG w) (wL (Bd w) (DM w 28) []) σ (kx (Bd w) (DM w 29) (fO.2.drop 3) K)) (λvs=>subAll nn vs=some vs/\D1 vs (gG w) (wL (Bd w) (DM w 28) []) σ (kx (Bd w) (DM w 29) (fO.2.drop 3) K)) (P8 u)):=by rfl'
def fE{u:AV}:wL (Bd w) (DM w 29) (fO.2.drop 3) (LG la lb mb op fb ds alo ahi blo bhi bi bj bk es es2 i u []) K=K .next (LG la lb mb op fb ds alo ahi blo bhi bi bj bk es es2 i (.ref 1) []):=by rfl'
def Yw{u:AV}:gG w (.int j) (LG la lb mb op fb ds alo ahi blo bhi bi bj bk es es2 i u []) K=BI (decide (j<blo)) (K .cont (LG la lb mb op fb ds alo ahi blo bhi bi bj bk es es2 i u [("j",.int j)])) (BI (decide (bhi<=j)) (K .brk (LG la lb mb op fb ds alo ahi blo bhi bi bj bk es es2 i u [("j",.int j)]))
  (ET .Add ((es.lookup (.int (j-1))).getD (.int 0)) (.int 1) (LG la lb mb op fb ds alo ahi blo bhi bi bj bk es es2 i u [("j",.int j)]) λv σ=>As (ws (Bd w) Ff 27).A kY v σ λσ=>wL (Bd w) (DM w 28) (fI.2.drop 3) σ K)):=by rfl'
def aX{u:AV}:(As (ws (Bd w) Ff 27).A kY (.int r) (LG la lb mb op fb ds alo ahi blo bhi bi bj bk es es2 i u [("j",.int j)]) λσ=>wL (Bd w) (DM w 28) (fI.2.drop 3) σ K) =
  (AC es2.length/\BI (decide (bk<r)) (3=3/\K .next (LG la lb mb op fb ds alo ahi blo bhi (i-r+1) (j-r+1) r es (dset es2 (.int j) (.int r)) i u [("j",.int j),("k",.int r)])) (K .next (LG la lb mb op fb ds alo ahi blo bhi bi bj bk es (dset es2 (.int j) (.int r)) i u [("j",.int j),("k",.int r)]))):=by rfl'
def wh(n:Nat):Expr×List í:=Xk (Fx.getD n (.Pass AB))
abbrev fT(w:Ì)(n:Nat)(σ:St)(K:KS):Prop:=FZ ((ws (Bd w) Ff 29).B (wh n).1) (wL (Bd w) (DM w 29) (wh n).2) (wL (Bd w) (DM w 29) []) σ (kx (Bd w) (DM w 30) (Fx.drop (n+1)) K)
def Me{σ:St}:(wL (Bd w) (DM w 30) (Fx.drop 8) σ K=fT w 8 σ K/\wL (Bd w) (DM w 30) (Fx.drop 9) σ K=fT w 9 σ K)/\wL (Bd w) (DM w 30) (Fx.drop 10) σ K=fT w 10 σ K/\wL (Bd w) (DM w 30) (Fx.drop 11) σ K=fT w 11 σ K:=⟨⟨by rfl',by rfl'⟩,by rfl',by rfl'⟩
abbrev nt(l:List Int)(k:Int)(X:AV->Prop):Prop:=BH k/\∃v,CF (zs l) k=some v/\X v
def mM:(ws (Bd w) Ff 29).B (wh 8).1 (Ha la lb mb op fb ds alo ahi blo bhi bi bj bk es) R=BI (decide (alo<bi)) (BI (decide (blo<bj)) (nt lb (bj-1) λv=>A9 (BR v) λ_=>nt la (bi-1) λu=>nt lb (bj-1) λv=>Nk .Eq u v (Ha la lb mb op fb ds alo ahi blo bhi bi bj bk es) λr σ=>Ca r σ λb σ=>BI b (R true σ) (R false σ))
  (R false (Ha la lb mb op fb ds alo ahi blo bhi bi bj bk es))) (R false (Ha la lb mb op fb ds alo ahi blo bhi bi bj bk es)):=by rfl'
def jK:(ws (Bd w) Ff 29).B (wh 9).1 (Ha la lb mb op fb ds alo ahi blo bhi bi bj bk es) R=BI (decide (bi+bk<ahi)) (BI (decide (bj+bk<bhi)) (nt lb (bj+bk) λv=>A9 (BR v) λ_=>nt la (bi+bk) λu=>nt lb (bj+bk) λv=>Nk .Eq u v (Ha la lb mb op fb ds alo ahi blo bhi bi bj bk es) λr σ=>Ca r σ λb σ=>BI b (R true σ) (R false σ))
  (R false (Ha la lb mb op fb ds alo ahi blo bhi bi bj bk es))) (R false (Ha la lb mb op fb ds alo ahi blo bhi bi bj bk es)):=by rfl'
def aP:(ws (Bd w) Ff 29).B (wh 10).1 (Ha la lb mb op fb ds alo ahi blo bhi bi bj bk es) R=BI (decide (alo<bi)) (BI (decide (blo<bj)) (nt lb (bj-1) λv=>A9 (BR v) λ_=>R false (Ha la lb mb op fb ds alo ahi blo bhi bi bj bk es))
  (R false (Ha la lb mb op fb ds alo ahi blo bhi bi bj bk es))) (R false (Ha la lb mb op fb ds alo ahi blo bhi bi bj bk es)):=by rfl'
def eE:(ws (Bd w) Ff 29).B (wh 11).1 (Ha la lb mb op fb ds alo ahi blo bhi bi bj bk es) R=BI (decide (bi+bk<ahi)) (BI (decide (bj+bk<bhi)) (nt lb (bj+bk) λv=>A9 (BR v) λ_=>R false (Ha la lb mb op fb ds alo ahi blo bhi bi bj bk es))
  (R false (Ha la lb mb op fb ds alo ahi blo bhi bi bj bk es))) (R false (Ha la lb mb op fb ds alo ahi blo bhi bi bj bk es)):=by rfl'
def cU:wL (Bd w) (DM w 30) (Fx.drop 12) (Ha la lb mb op fb ds alo ahi blo bhi bi bj bk es) K=(((AV.int bi).sub nn=some (.int bi)/\(AV.int bj).sub nn=some (.int bj)/\(AV.int bk).sub nn=some (.int bk))/\K (.ret (.mat [.int bi,.int bj,.int bk])) (Ha la lb mb op fb ds alo ahi blo bhi bi bj bk es)):=by rfl'
end
end Mine
end
namespace Mine
section
variable{α:Type} [DecidableEq α]
noncomputable def DZ(la lb:List α)(alo blo i j:Nat):Bool:=decide (alo<=i)&&decide (blo<=j)&&(match la[i]?,lb[j]? with | some x,some y=>decide (x=y) | _,_=>false)
noncomputable def AS(la lb:List α)(alo blo:Nat):Nat->Nat->Nat
 | 0,j=>if DZ la lb alo blo 0 j then 1 else 0
 | i+1,0=>if DZ la lb alo blo (i+1) 0 then 1 else 0
 | i+1,j+1=>if DZ la lb alo blo (i+1) (j+1)then AS la lb alo blo i j+1 else 0
def Sk(la lb:List α)(alo ahi blo bhi i j k:Nat):Prop:=alo<=i/\blo<=j/\i+k<=ahi/\j+k<=bhi/\∀d,d<k->∃x,la[i+d]?=some x/\lb[j+d]?=some x
def CE{la lb:List α}{alo blo i j:Nat}:DZ la lb alo blo i j=true↔alo<=i/\blo<=j/\∃x,la[i]?=some x/\lb[j]?=some x:=by
 unfold DZ
 simp only[ĉ,decide_eq_true_eq,and_assoc]
 refine and_congr_right λ_=>and_congr_right λ_=>?_
 cases la[i]?<;>cases lb[j]?<;>simp
 exact eq_comm
theorem Fg{la lb:List α}{alo blo:Nat} :∀(i j n:Nat),n<=AS la lb alo blo i j->∀d,d<n->d<=i/\d<=j/\DZ la lb alo blo (i-d) (j-d)=true
 | 0,j,n,h,d,hd=>by
  unfold AS at h
  split at h
  ·rename_i e
   have:d=0:=by exists[_,_],0x802181081018,hd,h
   subst this
   exact⟨zX _,Õ _,e⟩
  ·exact z7 (ql [_,_] 0xa081081018 (by rfl') hd h)
 | i+1,0,n,h,d,hd=>by
  unfold AS at h
  split at h
  ·rename_i e
   have:d=0:=by exists[_,_],0x802181081018,hd,h
   subst this
   exact⟨Õ _,zX _,e⟩
  ·exact z7 (ql [_,_] 0xa081081018 (by rfl') hd h)
 | i+1,j+1,n,h,d,hd=>by
  unfold AS at h
  split at h
  ·rename_i e
   cases d with
   | zero=>exact⟨Õ _,Õ _,e⟩
   | succ d=>
    obtain⟨h1,h2,h3⟩:=Fg (la:=la) (lb:=lb) (alo:=alo) (blo:=blo) i j (n-1) (by exists[_,_],0x1180b0181a008,h) d (by exists[_,_],0x181b011180a18,hd)
    refine⟨by(exists[_,_],0x181a180a01008,h1),by(exists[_,_],0x181a180a01008,h2),?_⟩
    rw[aC2,aC2]
    exact h3
  ·exact z7 (ql [_,_] 0xa081081018 (by rfl') hd h)
theorem L6{la lb:List α}{alo blo:Nat} :∀(i j n:Nat),(∀d,d<n->d<=i/\d<=j/\DZ la lb alo blo (i-d) (j-d)=true)->n<=AS la lb alo blo i j
 | _,_,0,_=>Õ _
 | 0,j,n+1,h=>by
  have h0:=(h 0 (by exists[_],0x180a081)).2.2
  simp only[aI4]at h0
  unfold AS
  rw[if_pos h0]
  have:n=0:=by
   cases n with
   | zero=>rfl
   | succ n=>have:=(h 1 (by exists[_],0x18180aa181)).1;exists[_],0x8180a2081808,this
  exists[_],0x18180a008028,this
 | i+1,0,n+1,h=>by
  have h0:=(h 0 (by exists[_],0x180a081)).2.2
  simp only[aI4]at h0
  unfold AS
  rw[if_pos h0]
  have:n=0:=by
   cases n with
   | zero=>rfl
   | succ n=>have:=(h 1 (by exists[_],0x18180aa181)).2.1;exists[_],0x8180a2081808,this
  exists[_],0x18180a008028,this
 | i+1,j+1,n+1,h=>by
  have h0:=(h 0 (by exists[_],0x180a081)).2.2
  simp only[aI4]at h0
  unfold AS
  rw[if_pos h0]
  have:=L6 i j n λd hd=>by
   obtain⟨h1,h2,h3⟩:=h (d+1) (by exists[_,_],0x181a180a11018,hd)
   rw[aC2,aC2]at h3
   exact⟨by(exists[_,_],0x100181a180a08,h1),by(exists[_,_],0x100181a180a08,h2),h3⟩
  exists[_,_],0x181a180a01008,this
end
section
variable{α:Type} [DecidableEq α]
def Nt(i j i' j':Nat):Prop:=i<i'\/(i=i'/\j<j')
structure Cy(la lb:List α)(alo blo bhi i j bi bj bk:Nat):Prop where
 zero:bk=0->bi=alo/\bj=blo
 here:0<bk->∃ei ej,Nt ei ej i j/\ej<bhi/\AS la lb alo blo ei ej=bk/\bi+bk=ei+1/\bj+bk=ej+1/\∀i' j',Nt i' j' ei ej->j'<bhi->AS la lb alo blo i' j'<bk
 all :∀i' j',Nt i' j' i j->j'<bhi->AS la lb alo blo i' j'<=bk
def Cy.start{la lb:List α}{alo blo bhi:Nat}:Cy la lb alo blo bhi alo 0 alo blo 0:=by
 refine⟨λ_=>⟨rfl,rfl⟩,λh=>absurd h (by exists[],0x80819),λi' j' h hj=>?_⟩
 refine Ü λz=>?_
 have:=(Fg i' j' 1 z 0 (by exists[],0x18081)).2.2
 have:=(CE.mp this).1
 rcases h with h | h
 ·exists[_,_],0xa0118081b008,this,h
 ·exists[_],0xa08018,h.2
def Cy.skip{la lb:List α}{alo blo bhi i j bi bj bk:Nat}(h:Cy la lb alo blo bhi i j bi bj bk)(hr:j<bhi->AS la lb alo blo i j<=bk):Cy la lb alo blo bhi i (j+1) bi bj bk:=by
 refine⟨h.zero,λz=>?_,λi' j' hb hj=>?_⟩
 ·obtain⟨ei,ej,h1,h2⟩:=h.here z
  exact⟨ei,ej,by rcases h1 with h1 | h1<;>unfold Nt<;>omega,h2⟩
 ·by_cases e:i'=i/\j'=j
  ·obtain⟨rfl,rfl⟩:=e;exact hr hj
  ·exact h.all i' j' (by unfold Nt at *;exists[_,_,_,_],0x32110261017183a21102610178322102698,e,hb) hj
def Cy.take{la lb:List α}{alo blo bhi i j bi bj bk:Nat}(h:Cy la lb alo blo bhi i j bi bj bk)(hj:j<bhi)(hr:bk<AS la lb alo blo i j){ci cj:Nat}(hi:ci+AS la lb alo blo i j=i+1)(hjj:cj+AS la lb alo blo i j=j+1) :
  Cy la lb alo blo bhi i (j+1) ci cj (AS la lb alo blo i j):=by
 refine⟨λz=>absurd z (by exists[_,_],0x81291018,hr),λ_=>⟨i,j,.inr ⟨rfl,by exists[_],0x180a01⟩,hj,rfl,hi,hjj,λi' j' hb hj'=>Í (h.all i' j' hb hj') hr⟩,λi' j' hb hj'=>?_⟩
 by_cases e:i'=i/\j'=j
 ·obtain⟨rfl,rfl⟩:=e;exact zX _
 ·exact Û (Í (h.all i' j' (by unfold Nt at *;exists[_,_,_,_],0x32110261017183a21102610178322102698,e,hb) hj') hr)
def Cy.row{la lb:List α}{alo blo bhi i j bi bj bk:Nat}(h:Cy la lb alo blo bhi i j bi bj bk)(hr :∀j',j<=j'->j'<bhi->AS la lb alo blo i j'<=bk):Cy la lb alo blo bhi (i+1) 0 bi bj bk:=by
 refine⟨h.zero,λz=>?_,λi' j' hb hj=>?_⟩
 ·obtain⟨ei,ej,h1,h2⟩:=h.here z
  exact⟨ei,ej,by unfold Nt at *;(exists[_,_,_,_],0x821181a026181a017321102610178,h1),h2⟩
 ·by_cases e:i'=i/\j<=j'
  ·obtain⟨rfl,e⟩:=e;exact hr j' e hj
  ·exact h.all i' j' (by unfold Nt at *;exists[_,_,_,_],0x231102610170831181a026181a0178320102698,e,hb) hj
def Cy.jump{la lb:List α}{alo blo bhi i j j' bi bj bk:Nat}(h:Cy la lb alo blo bhi i j bi bj bk)(hj:j<=j')(hr :∀x,j<=x->x<j'->x<bhi->AS la lb alo blo i x<=bk):Cy la lb alo blo bhi i j' bi bj bk:=by
 refine⟨h.zero,λz=>?_,λi' x hb hx=>?_⟩
 ·obtain⟨ei,ej,h1,h2⟩:=h.here z
  exact⟨ei,ej,by unfold Nt at *;(exists[_,_,_,_,_],0x141322632170413226321781008,hj,h1),h2⟩
 ·by_cases e:i'=i/\j<=x
  ·obtain⟨rfl,e⟩:=e;exact hr x e (by unfold Nt at hb;exists[_,_,_],0x211211002600178,hb) hx
  ·exact h.all i' x (by unfold Nt at *;exists[_,_,_,_,_],0x23110261017431102610178320102698,e,hb) hx
structure LM(la lb:List α)(alo ahi blo bhi i j k:Nat):Prop where
 str:Sk la lb alo ahi blo bhi i j k
 max :∀i' j' k',Sk la lb alo ahi blo bhi i' j' k'->k'<=k
 fst:0<k->∀i' j',Sk la lb alo ahi blo bhi i' j' k->i<i'\/(i=i'/\j<=j')
 zero:k=0->i=alo/\j=blo
def ND{la lb:List α}{alo ahi blo bhi i j k:Nat}(h:Sk la lb alo ahi blo bhi i j k)(hk:0<k):k<=AS la lb alo blo (i+k-1) (j+k-1):=by
 obtain⟨h1,h2,h3,h4,h5⟩:=h
 refine L6 _ _ _ λd hd=>⟨by(exists[_,_,_],0x1812ab001018,hd),by(exists[_,_,_],0x1812ab001018,hd),CE.mpr ⟨by(exists[_,_,_,_],0x21831abb0032181008,h1,hd),by(exists[_,_,_,_],0x21831abb0032181008,h2,hd),?_⟩⟩
 obtain⟨x,x1,x2⟩:=h5 (k-1-d) (by exists[_,_],0x1180bb100818,hk)
 exact⟨x,by rw[<-x1];congr 1;(exists[_,_,_],0x181bb2a01812abb21018,hd),by rw[<-x2];congr 1;exists[_,_,_],0x181bb2a01812abb21018,hd⟩
def Cy.done{la lb:List α}{alo ahi blo bhi bi bj bk:Nat}(ha:alo<=ahi)(hb:blo<=bhi)(h:Cy la lb alo blo bhi ahi 0 bi bj bk):LM la lb alo ahi blo bhi bi bj bk:=by
 refine⟨?_,λi' j' k' hs=>?_,λhk i' j' hs=>?_,h.zero⟩
 ·by_cases z:bk=0
  ·obtain⟨rfl,rfl⟩:=h.zero z
   subst z
   exact⟨zX _,zX _,ha,hb,λd hd=>absurd hd (by exists[_],0x8019)⟩
  ·obtain⟨ei,ej,h1,h2,h3,h4,h5,h6⟩:=h.here (by exists[_],0x81080298,z)
   have hit :∀d,d<bk->_:=λd hd=>Fg ei ej bk (Â h3.symm) d hd
   have hl:=CE.mp (hit (bk-1) (by exists[_],0x180b1080298,z)).2.2
   refine⟨by(exists[_,_,_,_],0x30181b2b308182a10a28,h4,hl.1),by(exists[_,_,_,_],0x30181b2b308182a10a28,h5,hl.2.1),by unfold Nt at h1;(exists[_,_,_,_,_],0x310a00841322632178182a10a28,h4,h1),by(exists[_,_,_,_],0x132a0180a32a281018,h2,h5),λd hd=>?_⟩
   obtain⟨_,_,x,x1,x2⟩:=CE.mp (hit (bk-1-d) (by exists[_,_],0x10181bb11018,hd)).2.2
   exact⟨x,by rw[<-x1];congr 1;(exists[_,_,_,_],0x3181bb2b30a21318182a10a28,h4,hd),by rw[<-x2];congr 1;exists[_,_,_,_],0x3181bb2b30a21318182a10a28,h5,hd⟩
 ·by_cases z:k'=0
  ·exists[_,_],0x10008028,z
  ·obtain⟨h1,h2,h3,h4,h5⟩:=hs
   exact zP (ND ⟨h1,h2,h3,h4,h5⟩ (by exists[_],0x81080298,z)) (h.all _ _ (.inl (by exists[_,_,_],0x21810ab1081298210a08,h3,z)) (by exists[_,_,_],0x21810ab1081298210a08,h4,z))
 ·obtain⟨ei,ej,h1,h2,h3,h4,h5,h6⟩:=h.here hk
  have r:=ND hs hk
  obtain⟨s1,s2,s3,s4,s5⟩:=hs
  refine ü λz=>?_
  have:=h6 (i'+bk-1) (j'+bk-1) (by unfold Nt;exists[_,_,_,_,_,_,_],0x41806ab121805ab2621805ab176305126511798184a03a28182a01a2800818,hk,h4,h5,z) (by exists[_,_,_],0x21801ab1201a0800818,hk,s4)
  exists[_,_],0xa01181008,r,this
end
end Mine
section
open PySem PySem.W PyProof.Rows
namespace Mine
section
variable{β:Type}{k k':AE}{v:β}{es:List (AE×β)}
def Xg:(es.map (λkv=>if kv.1=k then(kv.1,v)else kv)).lookup k'=if k'=k then(es.lookup k').map λ_=>v else es.lookup k':=
 Ä (motive:=λes=>(es.map (λkv=>if kv.1=k then(kv.1,v)else kv)).lookup k'=if k'=k then(es.lookup k').map λ_=>v else es.lookup k') (by by_cases e:k'=k<;>(first | rw[if_pos e] | rw[if_neg e])<;>rfl) (λp r ih=>by
  rw[Ć,AU,AU,ih]
  by_cases h:p.1=k
  ·rw[if_pos h]
   by_cases e:k'=k
   ·rw[if_pos e,if_pos e,h,show(k'==k)=true from beq_iff_eq.mpr e];rfl
   ·rw[if_neg e,if_neg e,h,show(k'==k)=false from beq_eq_false_iff_ne.mpr e];rfl
  ·rw[if_neg h]
   by_cases e:k'=k
   ·rw[if_pos e,if_pos e,show(k'==p.1)=false from beq_eq_false_iff_ne.mpr λz=>h (z.symm.trans e)];rfl
   ·rw[if_neg e,if_neg e]) es
def Pv:(es.any λkv=>decide (kv.1=k))=(es.lookup k).isSome:=
 Ä (motive:=λes=>(es.any λkv=>decide (kv.1=k))=(es.lookup k).isSome) rfl (λp r ih=>by
  rw[List.any_cons,AU,ih]
  by_cases h:p.1=k
  ·rw[decide_eq_true h,show(k==p.1)=true from beq_iff_eq.mpr h.symm];rfl
  ·rw[decide_eq_false h,show(k==p.1)=false from beq_eq_false_iff_ne.mpr λz=>h z.symm];rfl) es
def P3:(es++[(k,v)]).lookup k'=if(es.lookup k').isSome then es.lookup k' else if k'=k then some v else none:=
 Ä (motive:=λes=>(es++[(k,v)]).lookup k'=if(es.lookup k').isSome then es.lookup k' else if k'=k then some v else none) (by
  show((k,v)::[]).lookup k'=_
  rw[AU]
  by_cases e:k'=k
  ·rw[show(k'==k)=true from beq_iff_eq.mpr e,if_pos e];rfl
  ·rw[show(k'==k)=false from beq_eq_false_iff_ne.mpr e,if_neg e];rfl) (λp r ih=>by
  rw[List.cons_append,AU,AU,ih]
  cases k'==p.1<;>rfl) es
def Kx:(dset es k v).lookup k'=if k'=k then some v else es.lookup k':=by
 unfold dset
 rw[Pv]
 cases h:es.lookup k with
 | none=>
  rw[if_neg (by exact λz=>nomatch z),P3]
  by_cases e:k'=k
  ·rw[if_pos e,if_pos e,e,h];rfl
  ·rw[if_neg e,if_neg e];cases es.lookup k'<;>rfl
 | some u=>
  rw[if_pos (show(some u).isSome=true from rfl),Xg]
  by_cases e:k'=k
  ·rw[if_pos e,if_pos e,e,h];rfl
  ·rw[if_neg e,if_neg e]
def K5:(dset es k v).length<=es.length+1:=by
 unfold dset
 by_cases h:(es.any λkv=>decide (kv.1=k))=true
 ·rw[if_pos h,z6];exact ć _
 ·rw[if_neg h,zU];exact zX _
end
def Kc{es:List (AE×AV)}:subDict nn es=some es↔∀p∈es,p.2.sub nn=some p.2:=
 Ä (motive:=λes=>subDict nn es=some es↔∀p∈es,p.2.sub nn=some p.2) ⟨λ_ _ h=>(nomatch h),λ_=>rfl⟩ (λp r ih=>Prod.casesOn (motive:=λp=>subDict nn (p::r)=some (p::r)↔∀q∈p::r,q.2.sub nn=some q.2) p λk x=>⟨λe=>by
  obtain⟨b,e1,e⟩:=bind_some (show(x.sub nn).bind (λb=>(subDict nn r).map ((k,b) :: ·))=_ from e)
  obtain⟨c,e2,e3⟩:=map_some e
  obtain⟨h1,h2⟩:=aO7.inj e3
  exact λq hq=>(È.mp hq).elim (λz=>z▸e1.trans (congrArg (λq:AE×AV=>some q.2) h1)) (ih.mp (e2.trans (congrArg some h2)) q),
  λh=>by
  show(x.sub nn).bind (λb=>(subDict nn r).map ((k,b) :: ·))=_
  rw[show x.sub nn=some x from h (k,x) (z8 ..),ih.mpr λq hq=>h q (À _ hq)];rfl⟩) es
def OX{es:List (AE×AV)}{k:AE}{v:AV}(h:subDict nn es=some es)(hv:v.sub nn=some v):subDict nn (dset es k v)=some (dset es k v):=by
 have h:=Kc.mp h
 refine Kc.mpr λp hp=>?_
 unfold dset at hp
 by_cases c:(es.any λkv=>decide (kv.1=k))=true
 ·rw[if_pos c]at hp
  obtain⟨q,h1,rfl⟩:=Ğ.mp hp
  by_cases e:q.1=k
  ·rw[if_pos e];exact hv
  ·rw[if_neg e];exact h q h1
 ·rw[if_neg c]at hp
  exact(Á.mp hp).elim (h p) λz=>z9.mp z▸hv
def FC{α:Type} [DecidableEq α] {la lb:List α} {alo blo i j:Nat}:0<AS la lb alo blo i j↔DZ la lb alo blo i j=true:=
 ⟨λh=>(Fg i j 1 h 0 (Ê 0)).2.2,λh=>L6 i j 1 λd hd=>by
  obtain rfl:d=0:=aC3.mp hd
  exact⟨Õ _,Õ _,h⟩⟩
section
variable(la lb:List Int)(alo blo bhi:Nat)
def NJ(i J:Nat)(es:List (AE×AV)):Prop:=subDict nn es=some es/\∀z:Int,es.lookup (.int z)=if 0<=z/\z<J/\z<bhi/\0<AS la lb alo blo i z.toNat then some (.int (AS la lb alo blo i z.toNat:Int))else none
def PJ(i:Nat)(es:List (AE×AV)):Prop:=subDict nn es=some es/\∀j:Nat,j<bhi->DZ la lb alo blo i j=true->(es.lookup (.int ((j:Int)-1))).getD (.int 0) = .int ((AS la lb alo blo i j:Int)-1)
end
section
variable{la lb:List Int}{alo blo bhi:Nat}
def NJ.nil{i:Nat}:NJ la lb alo blo bhi i 0 []:=⟨rfl,λz=>(if_neg λh=>absurd (aF2 h.1 h.2.1) (Int.lt_irrefl 0)).symm⟩
def PJ.nil:PJ la lb alo blo bhi alo []:=by
 refine⟨rfl,λj hj hh=>?_⟩
 have h1:=FC.mpr hh
 have:AS la lb alo blo alo j=1:=by
  refine Ĥ (Ü λz=>?_) h1
  have:=Fg alo j 2 z 1 (by decide)
  have:=(CE.mp this.2.2).1
  rename_i u0;exists[_],0xa180b00801808,u0.1,this
 rw[this]
 rfl
def NJ.next{i J:Nat}{es:List (AE×AV)}(h:NJ la lb alo blo bhi i J es)(hn :∀y,J<=y->y<bhi->AS la lb alo blo i y=0):PJ la lb alo blo bhi (i+1) es:=by
 refine⟨h.1,λj hj hh=>?_⟩
 rw[h.2]
 cases j with
 | zero=>
  rw[if_neg (by exists[_,_,_],0x208110f18080fb4600f18080fb4618080fb08369)]
  unfold AS
  rw[if_pos hh]
  rfl
 | succ y=>
  have e:((y+1:Nat):Int)-1=(y:Int):=Int.add_sub_cancel (y:Int) 1
  rw[e]
  have e2:AS la lb alo blo (i+1) (y+1)=AS la lb alo blo i y+1:=by
   conv=>lhs;unfold AS
   rw[if_pos hh]
  rw[e2,œ]
  by_cases z:0<AS la lb alo blo i y
  ·have:y<J:=aH2 λq=>absurd z (hn y q (aG3 hj)▸ò 0)
   rw[if_pos ⟨ą y,Ç.mpr this,Ç.mpr (aG3 hj),z⟩]
   exact congrArg AV.int (Int.add_sub_cancel _ 1).symm
  ·rw[if_neg λq=>z q.2.2.2,Ť z]
   rfl
def NJ.jump{i J J':Nat}{es:List (AE×AV)}(h:NJ la lb alo blo bhi i J es)(hJ:J<=J')(hr :∀x,J<=x->x<J'->x<bhi->AS la lb alo blo i x=0):NJ la lb alo blo bhi i J' es:=by
 refine⟨h.1,λz=>?_⟩
 rw[h.2]
 by_cases c:0<=z/\z<J/\z<bhi/\0<AS la lb alo blo i z.toNat
 ·rw[if_pos c,if_pos ⟨c.1,aA6 c.2.1 (ħ.mpr hJ),c.2.2⟩]
 ·rw[if_neg c,if_neg]
  rintro ⟨c1,c2,c3,c4⟩
  have:=hr z.toNat (by exists[_,_,_,_],[_],0x230108100f04630f0460083698080e20f581081800f04800838,c1,c3,c4,(Ý _),c) (by exists[_,_],[_],0x11080e10f5800f04800838,c1,c2,(Ý _)) (by exists[_,_],[_],0x11080e10f5800f04800838,c1,c3,(Ý _))
  exact absurd c4 (this▸ò 0)
def NJ.take{i j:Nat}{es:List (AE×AV)}(h:NJ la lb alo blo bhi i j es)(hj:j<bhi)(hr:0<AS la lb alo blo i j):NJ la lb alo blo bhi i (j+1) (dset es (.int (j:Int)) (.int (AS la lb alo blo i j:Int))):=by
 refine⟨OX h.1 rfl,λz=>?_⟩
 rw[Kx,h.2]
 by_cases e:z=(j:Int)
 ·subst e
  rw[if_pos rfl,œ,if_pos ⟨ą j,Ç.mpr (Ê j),Ç.mpr hj,hr⟩]
 ·rw[if_neg λq=>e (AE.int.inj q)]
  by_cases c:0<=z/\z<j/\z<bhi/\0<AS la lb alo blo i z.toNat
  ·rw[if_pos c,if_pos ⟨c.1,Ż c.2.1 (Ç.mpr (Ê j)),c.2.2⟩]
  ·rw[if_neg c,if_neg λq=>c ⟨q.1,Int.lt_iff_le_and_ne.mpr ⟨Int.le_of_lt_add_one q.2.1,e⟩,q.2.2⟩]
end
def IR{ys:List Int}{x:Int}{y:Nat}:y∈Ci ys ys.length x↔ys[y]?=some x:=by
 unfold Ci
 rw[Ũ,ű]
 exact⟨λh=>of_decide_eq_true h.2,λh=>⟨(zT.mp h).1,decide_eq_true h⟩⟩
def I0(ys:List Int)(n:Nat)(x:Int):(Ci ys n x).Pairwise (· < ·):=aG9.filter _ List.pairwise_lt_range
structure CK(la lb:List Int)(alo blo bhi i:Nat)(ps:List Nat)(t bi bj bk:Nat)(es:List (AE×AV)):Prop where
 ex :∃J,Cy la lb alo blo bhi i J bi bj bk/\NJ la lb alo blo bhi i J es/\(∀p∈ps.drop t,J<=p)/\(∀y,J<=y->DZ la lb alo blo i y=true->y∈ps.drop t)
 len:es.length<=t
def CK.start{la lb:List Int}{alo blo bhi i bi bj bk:Nat}{x:Int}(hk:la[i]?=some x)(h:Cy la lb alo blo bhi i 0 bi bj bk):CK la lb alo blo bhi i (Ci lb lb.length x) 0 bi bj bk []:=by
 refine⟨⟨0,h,NJ.nil,λ_ _=>Õ _,λy _ hy=>?_⟩,zX _⟩
 obtain⟨_,_,x,x1,x2⟩:=CE.mp hy
 rw[x1]at hk
 cases hk
 exact IR.mpr x2
def JU(la lb:List Int)(alo blo bhi i bi bj bk:Nat)(es:List (AE×AV)):Prop:=Cy la lb alo blo bhi (i+1) 0 bi bj bk/\PJ la lb alo blo bhi (i+1) es
def R3{la lb:List Int}{alo blo bhi i J bi bj bk:Nat}{es:List (AE×AV)}(h:Cy la lb alo blo bhi i J bi bj bk)(hn:NJ la lb alo blo bhi i J es)(hz :∀y,J<=y->y<bhi->DZ la lb alo blo i y=true->False):JU la lb alo blo bhi i bi bj bk es:=by
 have z :∀y,J<=y->y<bhi->AS la lb alo blo i y=0:=λy h1 h2=>Ť λq=>hz y h1 h2 (FC.mp q)
 exact⟨h.row λj h1 h2=>by rw[z j h1 h2];exact Õ _,hn.next z⟩
def CK.fin{la lb:List Int}{alo blo bhi i bi bj bk:Nat}{ps:List Nat}{es:List (AE×AV)}(h:CK la lb alo blo bhi i ps ps.length bi bj bk es):JU la lb alo blo bhi i bi bj bk es:=by
 obtain⟨⟨J,h1,h2,h3,h4⟩,h5⟩:=h
 refine R3 h1 h2 λy y1 y2 y3=>?_
 have:=h4 y y1 y3
 rw[aD5]at this
 exact nomatch this
def IH{α:Type}{l:List α}{t:Nat}{x:α}(h:l[t]?=some x):l.drop t=x::l.drop (t+1):=by
 obtain⟨h1,h2⟩:=zT.mp h
 rw[è h1,h2]
section
variable{la lb:List Int}{alo blo bhi i t j bi bj bk:Nat}{ps:List Nat}{es:List (AE×AV)}
def CK.brk(h:CK la lb alo blo bhi i ps t bi bj bk es)(hs:ps.Pairwise (· < ·))(hj:ps[t]?=some j)(hb:bhi<=j):JU la lb alo blo bhi i bi bj bk es:=by
 obtain⟨⟨J,h1,h2,h3,h4⟩,h5⟩:=h
 refine R3 h1 h2 λy y1 y2 y3=>?_
 have:=h4 y y1 y3
 have hs:=hs.sublist (Ů t ps)
 rw[IH hj]at this hs
 exact(È.mp this).elim (λz=>absurd (z▸y2) (Đ.mpr hb)) λz=>absurd (ő ((ñ.mp hs).1 y z) y2) (Đ.mpr hb)
def CK.upto(h:CK la lb alo blo bhi i ps t bi bj bk es)(hs:ps.Pairwise (· < ·))(hj:ps[t]?=some j):Cy la lb alo blo bhi i j bi bj bk/\NJ la lb alo blo bhi i j es/\(∀p∈ps.drop (t+1),j+1<=p)/\(∀y,j+1<=y->DZ la lb alo blo i y=true->y∈ps.drop (t+1)):=by
 obtain⟨⟨J,h1,h2,h3,h4⟩,h5⟩:=h
 have hs:=hs.sublist (Ů t ps)
 rw[IH hj]at h3 h4 hs
 have hJ:=h3 j (z8 ..)
 have hs:=(ñ.mp hs).1
 have z :∀x,J<=x->x<j->x<bhi->AS la lb alo blo i x=0:=λx x1 x2 x3=>Ť λq=>
  (È.mp (h4 x x1 (FC.mp q))).elim (λe=>absurd x2 (e▸ò _)) λe=>absurd (hs x e) (Nat.lt_asymm x2)
 exact⟨h1.jump hJ λx x1 x2 x3=>by rw[z x x1 x2 x3];exact Õ _,h2.jump hJ z,λp hp=>hs p hp,λy y1 y2=>
  (È.mp (h4 y (zP hJ (õ y1)) y2)).elim (λe=>absurd (e▸y1) (Ŗ _)) id⟩
def CK.cont(h:CK la lb alo blo bhi i ps t bi bj bk es)(hs:ps.Pairwise (· < ·))(hj:ps[t]?=some j)(hb:j<blo):CK la lb alo blo bhi i ps (t+1) bi bj bk es:=by
 obtain⟨h1,h2,h3,h4⟩:=h.upto hs hj
 have z:AS la lb alo blo i j=0:=Ť λq=>absurd (CE.mp (FC.mp q)).2.1 (ŷ.mpr hb)
 exact⟨⟨j+1,h1.skip λ_=>z▸Õ _,h2.jump (ć _) λx x1 x2 x3=>Ĥ (î x2) x1▸z,h3,h4⟩,ð h.len⟩
def CK.keep(h:CK la lb alo blo bhi i ps t bi bj bk es)(hs:ps.Pairwise (· < ·))(hj:ps[t]?=some j)(hb:j<bhi)(hr:0<AS la lb alo blo i j)(hk:AS la lb alo blo i j<=bk):CK la lb alo blo bhi i ps (t+1) bi bj bk (dset es (.int (j:Int)) (.int (AS la lb alo blo i j:Int))):=by
 obtain⟨h1,h2,h3,h4⟩:=h.upto hs hj
 exact⟨⟨j+1,h1.skip λ_=>hk,h2.take hb hr,h3,h4⟩,zP K5 (ý h.len)⟩
def CK.better(h:CK la lb alo blo bhi i ps t bi bj bk es)(hs:ps.Pairwise (· < ·))(hj:ps[t]?=some j)(hb:j<bhi)(hk:bk<AS la lb alo blo i j){ci cj:Nat}(hi:ci+AS la lb alo blo i j=i+1)(hjj:cj+AS la lb alo blo i j=j+1) :
  CK la lb alo blo bhi i ps (t+1) ci cj (AS la lb alo blo i j) (dset es (.int (j:Int)) (.int (AS la lb alo blo i j:Int))):=by
 obtain⟨h1,h2,h3,h4⟩:=h.upto hs hj
 exact⟨⟨j+1,h1.take hb hk hi hjj,h2.take hb (Nat.zero_lt_of_lt hk),h3,h4⟩,zP K5 (ý h.len)⟩
end
def N6{α:Type} [DecidableEq α] {la lb:List α} {alo blo i j:Nat}:AS la lb alo blo i j<=i+1/\AS la lb alo blo i j<=j+1:=by
 by_cases h:AS la lb alo blo i j=0
 ·exists[_,_,_],0x182a00181a00608028,h
 ·have:=Fg (la:=la) (lb:=lb) (alo:=alo) (blo:=blo) i j _ (zX _) (AS la lb alo blo i j-1) (by exists[_],0x180b1080298,h)
  exists[_,_,_],0x182a00181a0062180b081180b08,this.1,this.2.1
def To{la lb:List Int}{alo ahi blo bhi i j k:Nat}{x:Int}(h:LM la lb alo ahi blo bhi i j k)(hi:alo<i)(hj:blo<j)(hx:la[i-1]?=some x)(hy:lb[j-1]?=some x):False:=by
 obtain⟨s1,s2,s3,s4,s5⟩:=h.str
 have:=h.max (i-1) (j-1) (k+1) ⟨by(exists[_,_],0x181b001018,hi),by(exists[_,_],0x181b001018,hj),by(exists[_,_,_,_],0x3182a181ba0321a081018,hi,s3),by(exists[_,_,_,_],0x3182a181ba0321a081018,hj,s4),λd hd=>?_⟩
 ·exact absurd this (Ŗ k)
 ·cases d with
  | zero=>exact⟨x,hx,hy⟩
  | succ d=>
   obtain⟨z,z1,z2⟩:=s5 d (aB9 hd)
   exact⟨z,by rw[<-z1];congr 1;(exists[_,_,_],0x21a182a181ba21018,hi),by rw[<-z2];congr 1;exists[_,_,_],0x21a182a181ba21018,hj⟩
def fG{la lb:List Int}{alo ahi blo bhi i j k:Nat}{x:Int}(h:LM la lb alo ahi blo bhi i j k)(hi:i+k<ahi)(hj:j+k<bhi)(hx:la[i+k]?=some x)(hy:lb[j+k]?=some x):False:=by
 obtain⟨s1,s2,s3,s4,s5⟩:=h.str
 refine absurd (h.max i j (k+1) ⟨s1,s2,hi,hj,λd hd=>?_⟩) (Ŗ k)
 by_cases e:d=k
 ·exact e▸⟨x,hx,hy⟩
 ·exact s5 d (Nat.lt_iff_le_and_ne.mpr ⟨î hd,e⟩)
def Ew{p:Prop} [Decidable p] {A B:Prop} (a:p->A) (b:¬ p->B):BI (decide p) A B:=
 if h:p then(decide_eq_true h).symm▸a h else(decide_eq_false h).symm▸b h
def big{n:Nat}(h:n<=100000):AC n:=zP h (by decide)
def VI{n:Nat}(h:n<=100000):BH (n:Int):=⟨ż (by decide) (ą n),aF2 (ħ.mpr h) (by decide)⟩
def F7{l:List Int}{i:Nat}{x:Int}(h:l[i]?=some x):CF (zs l) (i:Int)=some (.int x):=by
 have hl:=(zT.mp h).1
 have e:seqIndex? (i:Int) (zs l).length=some i:=by
  unfold seqIndex?
  rw[if_neg (aF3.mpr (ą i)),A7,if_pos (ê.mpr ⟨decide_eq_true (ą i),decide_eq_true (Ç.mpr hl)⟩)];rfl
 unfold CF
 rw[e]
 exact(Ð ..).trans (congrArg (Ñ AV.int) h)
def Fu{l:List Int}{k:Int}{n:Nat}{y:Int}{X:AV->Prop}(hk:k=(n:Int))(h:l[n]?=some y)(hl:l.length<=100000)(x:X (.int y)):nt l k X:=by
 subst hk
 exact⟨VI (zP (Û (zT.mp h).1) hl),_,F7 h,x⟩
def CT{l m:List (Str×AV)}{x:Str}{v:AV}(h:l.lookup x=some v):(l++m).lookup x=some v:=by
 rw[List.lookup_append,h];rfl
def Dl{test:St->(Bool->St->Prop)->Prop}{body els:St->KS->Prop}{σ:St}{Q:KS}(h :∀R:Bool->St->Prop,R false σ->test σ R)(fin:els σ Q):FZ test body els σ Q:=
 ⟨λ_ τ=>τ=σ,0,⟨σ,.refl σ,rfl⟩,λm τ e=>by subst e;exact h _ fin⟩
def KQ{x y:Int}{σ:St}{R:Bool->St->Prop}(h1:x=y->R true σ)(h2:R false σ):Nk .Eq (.int x) (.int y) σ λr σ=>Ca r σ λb σ=>BI b (R true σ) (R false σ):=by
 show BI (decide (AE.int x=AE.int y)) (R true σ) (R false σ)
 exact Ew (λe=>h1 (AE.int.inj e)) λ_=>h2
def Tw{P:Pm}{ds:List (AE×AV)}{x:Int}{d:AV}{σ:St}{Q:AV->St->Prop}:Di P (.fn .get) [.dct ds,.int x,d] σ Q=Q ((ds.lookup (.int x)).getD d) σ:=rfl
def ZR{l:List Int}{n:Nat}(h:n<l.length) :∃x,l[n]?=some x:=⟨_,zV h⟩
def BP:Tr:=λas os Q=>∃(la lb:List Int) (mb op fb:AV) (ds:List (AE×AV)) (alo ahi blo bhi:Nat),as=[.ref 0,.int (alo:Int),.int (ahi:Int),.int (blo:Int),.int (bhi:Int)]/\os=[(aD,Bc (.lst (zs la)) (.lst (zs lb)) mb op fb (.dct ds))]/\(BO (.lst (zs la)) (.lst (zs lb)) mb op fb (.dct ds)/\BJ lb ds)/\(la.length<=100000/\lb.length<=100000)/\
 (alo<=ahi/\ahi<=la.length)/\(blo<=bhi/\bhi<=lb.length)/\∀(i j k:Nat),LM la lb alo ahi blo bhi i j k->Q (.mat [.int (i:Int),.int (j:Int),.int (k:Int)]) [(aD,Bc (.lst (zs la)) (.lst (zs lb)) mb op fb (.dct ds))]
section
variable{w:Ì}{la lb:List Int}{mb op fb:AV}{ds es es2:List (AE×AV)}{alo ahi blo bhi bi bj bk i j r:Int}{K:KS}{u:AV}
def Pk{g:Nat->Option AV}(S:BO (.lst (zs la)) (.lst (zs lb)) mb op fb (.dct ds)):(Zt la lb mb op fb ds).sub g=some (Zt la lb mb op fb ds):=EN (congrArg (Ñ (AO.inst aD)) S.shut)
def W1(S:BO (.lst (zs la)) (.lst (zs lb)) mb op fb (.dct ds)):A0 (aY la lb mb op fb ds alo ahi blo bhi) (Ha la lb mb op fb ds alo ahi blo bhi alo blo 0 []):=
 .re [0] [(1,.dct [])] rfl rfl rfl rfl (BQ rfl rfl rfl rfl Br) (Ay rfl rfl (Ay rfl rfl (Ay rfl rfl (Ay rfl rfl (Ay rfl rfl (Ay rfl (Ag _ _ (A5 la)) (Ay rfl (Ag _ _ (A5 lb)) (Ay rfl (Ag _ _ S.b2j) (Ay rfl rfl (Ay rfl rfl (Ay rfl rfl (Ay rfl rfl (Ay rfl rfl (Ay rfl rfl BU)))))))))))))) (E9 rfl rfl (Pk S) BS)
def Xm(S:BO (.lst (zs la)) (.lst (zs lb)) mb op fb (.dct ds))(h:subDict nn es2=some es2):A0 (LG la lb mb op fb ds alo ahi blo bhi bi bj bk es es2 i (.ref 1) []) (Ha la lb mb op fb ds alo ahi blo bhi bi bj bk es2):=
 .re [0] [(1,.dct es2)] rfl rfl rfl rfl (BQ rfl rfl rfl (congrArg (Ñ AV.dct) h) Br) (Ay rfl rfl (Ay rfl rfl (Ay rfl rfl (Ay rfl rfl (Ay rfl rfl (Ay rfl (Ag _ _ (A5 la)) (Ay rfl (Ag _ _ (A5 lb)) (Ay rfl (Ag _ _ S.b2j) (Ay rfl rfl (Ay rfl rfl (Ay rfl rfl (Ay rfl rfl (Ay rfl rfl (Ay rfl rfl BU)))))))))))))) (E9 rfl rfl (Pk S) BS)
def J2{tl:List (Str×AV)}:A0 (LG la lb mb op fb ds alo ahi blo bhi bi bj bk es es2 i u tl) (LG la lb mb op fb ds alo ahi blo bhi bi bj bk es es2 i u []):=
 .less (ρ:=(LG la lb mb op fb ds alo ahi blo bhi bi bj bk es es2 i u []).ρ++tl) (λx v e=>CT e) λ_ _=>id
end
section
variable{w:Ì}{la lb:List Int}{mb op fb:AV}{ds es es2:List (AE×AV)}{alo ahi blo bhi bi bj bk i:Nat}{K:KS}{x:Int}
def oI(la lb:List Int)(mb op fb:AV)(ds:List (AE×AV))(alo ahi blo bhi i:Nat)(σ:St):Prop:=∃bi bj bk es,Cy la lb alo blo bhi i 0 bi bj bk/\PJ la lb alo blo bhi i es/\σ=Ha la lb mb op fb ds alo ahi blo bhi bi bj bk es
def iI(la lb:List Int)(mb op fb:AV)(ds:List (AE×AV))(alo ahi blo bhi:Nat)(es:List (AE×AV))(i:Nat)(ps:List Nat)(t:Nat)(σ:St):Prop:=∃bi bj bk es2,CK la lb alo blo bhi i ps t bi bj bk es2/\σ=LG la lb mb op fb ds alo ahi blo bhi bi bj bk es es2 i (.dct es) []
def NT(S:BO (.lst (zs la)) (.lst (zs lb)) mb op fb (.dct ds))(h:JU la lb alo blo bhi i bi bj bk es2):kx (Bd w) (DM w 29) (fO.2.drop 3) (turn (λσ=>∃τ,A0 σ τ/\oI la lb mb op fb ds alo ahi blo bhi (i+1) τ) K) .next (LG la lb mb op fb ds alo ahi blo bhi bi bj bk es es2 i (.dct es) []):=
 fE.mpr ⟨_,Xm S h.2.1,bi,bj,bk,es2,h.1,h.2,rfl⟩
def O8{t:Nat}{v:AV}(h:(Bq lb lb.length x)[t]?=some v) :∃j:Nat,(Ci lb lb.length x)[t]?=some j/\v = .int (j:Int):=by
 obtain⟨z,h1,h2⟩:=ť.mp ((Ð ..).symm.trans h)
 obtain⟨j,h3,h4⟩:=ť.mp ((Ð ..).symm.trans h1)
 exact⟨j,h3,by rw[<-h2,<-h4]⟩
def UZ{t:Nat}{v:AV}{σ:St}(S:BO (.lst (zs la)) (.lst (zs lb)) mb op fb (.dct ds))(hl:lb.length<=100000)(hp:PJ la lb alo blo bhi i es)(ha:alo<=i)(hk:la[i]?=some x)(hv:(Bq lb lb.length x)[t]?=some v)(hI:iI la lb mb op fb ds alo ahi blo bhi es i (Ci lb lb.length x) t σ) :
  gG w v σ (turn (λσ=>∃τ,A0 σ τ/\iI la lb mb op fb ds alo ahi blo bhi es i (Ci lb lb.length x) (t+1) τ) (kx (Bd w) (DM w 29) (fO.2.drop 3) (turn (λσ=>∃τ,A0 σ τ/\oI la lb mb op fb ds alo ahi blo bhi (i+1) τ) K))):=by
 obtain⟨bi,bj,bk,es2,hI,rfl⟩:=hI
 obtain⟨j,hj,rfl⟩:=O8 hv
 have hs:=I0 lb lb.length x
 have hjb:=IR.mp (Ò hj)
 have htl:t<lb.length:=zZ (zT.mp hv).1 IS
 rw[Yw]
 refine Ew (λc=>⟨_,J2,bi,bj,bk,es2,hI.cont hs hj (Ç.mp c),rfl⟩) λc1=>Ew (λc=>⟨_,J2,NT S (hI.brk hs hj (ħ.mp c))⟩) λc2=>?_
 have h1:blo<=j:=ħ.mp (aF3.mp c1)
 have h2:j<bhi:=Ç.mp (aN8.mp c2)
 have hh:DZ la lb alo blo i j=true:=CE.mpr ⟨ha,h1,x,hk,hjb⟩
 have hr:=FC.mpr hh
 have hrb:=N6 (la:=la) (lb:=lb) (alo:=alo) (blo:=blo) (i:=i) (j:=j)
 rw[hp.2 j h2 hh]
 show As (ws (Bd w) Ff 27).A kY (.int ((AS la lb alo blo i j:Int)-1+1)) _ _
 rw[Int.sub_add_cancel]
 refine aX.mpr ⟨zP hI.len (big (zP (Û htl) hl)),Ew (λc3=>⟨rfl,_,J2,i+1-AS la lb alo blo i j,j+1-AS la lb alo blo i j,AS la lb alo blo i j,_,hI.better hs hj h2 (Ç.mp c3) (Nat.sub_add_cancel hrb.1) (Nat.sub_add_cancel hrb.2),?_⟩) λc3=>⟨_,J2,bi,bj,bk,_,hI.keep hs hj h2 hr (ħ.mp (aF3.mp c3)),rfl⟩⟩
 rw[show(i:Int)-(AS la lb alo blo i j:Int)+1=((i+1-AS la lb alo blo i j:Nat):Int)by(exists[_,_],0x181ab0f1800f10fba5181a008,hrb.1),show(j:Int)-(AS la lb alo blo i j:Int)+1=((j+1-AS la lb alo blo i j:Nat):Int)by exists[_,_],0x181ab0f1800f10fba5181a008,hrb.2]
def Rn{σ:St}(S:BO (.lst (zs la)) (.lst (zs lb)) mb op fb (.dct ds))(hB:BJ lb ds)(hla:la.length<=100000)(hl:lb.length<=100000)(ha:alo<=i)(hi:i<la.length)(hI:oI la lb mb op fb ds alo ahi blo bhi i σ) :
  kW w (.int (i:Int)) σ (turn (λσ=>∃τ,A0 σ τ/\oI la lb mb op fb ds alo ahi blo bhi (i+1) τ) K):=by
 obtain⟨bi,bj,bk,es,hb,hp,rfl⟩:=hI
 obtain⟨x,hx⟩:=ZR hi
 rw[fC]
 refine⟨VI (zP (Û hi) hla),_,F7 hx,?_⟩
 rw[Tw,hB.2 x]
 refine⟨CJ _,iI la lb mb op fb ds alo ahi blo bhi es i (Ci lb lb.length x),⟨_,.refl _,bi,bj,bk,[],CK.start hx hb,rfl⟩,λt σ v hv hI=>UZ S hl hp ha hx hv hI,λσ hI=>?_⟩
 obtain⟨ci,cj,ck,es2,hI,rfl⟩:=hI
 rw[show(Bq lb lb.length x).length=(Ci lb lb.length x).length from(z6 ..).trans (z6 ..)]at hI
 rw[Fm]
 exact NT S hI.fin
def Wo{Q:AV->List Ob->Prop}(S:BO (.lst (zs la)) (.lst (zs lb)) mb op fb (.dct ds))(hla:la.length<=100000)(hl:lb.length<=100000)(hL:LM la lb alo ahi blo bhi bi bj bk)(h2:ahi<=la.length)(h4:bhi<=lb.length)
  (hq:Q (.mat [.int (bi:Int),.int (bj:Int),.int (bk:Int)]) [(aD,Bc (.lst (zs la)) (.lst (zs lb)) mb op fb (.dct ds))]):wL (Bd w) (DM w 30) (Fx.drop 8) (Ha la lb mb op fb ds alo ahi blo bhi bi bj bk es) (AJ 1 Q):=by
 obtain⟨s1,s2,s3,s4,s5⟩:=hL.str
 have sa:=zP s3 h2
 have sb:=zP s4 h4
 have bk1 :∀{a:Nat},(alo:Int)<(a:Int)->a+bk<=la.length->∃y,a=(a-1)+1/\(a:Int)-1=((a-1:Nat):Int)/\la[a-1]?=some y:=λ{a} c e=>by
  have:=Ç.mp c
  obtain⟨y,hy⟩:=ZR (l:=la) (n:=a-1) (by exists[_,_,_,_],0x3181b1321a0810f00f48,c,e)
  exact⟨y,by(exists[_,_],0x18181ba1210f00f48,c),by(exists[_,_],0x181b0f1810fb510f00f48,c),hy⟩
 have bk2 :∀{b:Nat},(blo:Int)<(b:Int)->b+bk<=lb.length->∃y,(b:Int)-1=((b-1:Nat):Int)/\lb[b-1]?=some y:=λ{b} c e=>by
  have:=Ç.mp c
  obtain⟨y,hy⟩:=ZR (l:=lb) (n:=b-1) (by exists[_,_,_,_],0x3181b1321a0810f00f48,c,e)
  exact⟨y,by(exists[_,_],0x181b0f1810fb510f00f48,c),hy⟩
 have on2:(bj:Int)+(bk:Int)<(bhi:Int)->∃y,lb[bj+bk]?=some y:=λc=>ZR (zZ (Ç.mp c) h4)
 rw[Me.1.1]
 refine Dl (λR hR=>mM.mpr (Ew (λc1=>Ew (λc2=>?_) λ_=>hR) λ_=>hR)) ?_
 ·obtain⟨x,e0,e1,hx⟩:=bk1 c1 sa
  obtain⟨y,e2,hy⟩:=bk2 c2 sb
  exact Fu e2 hy hl (Fu e1 hx hla (Fu e2 hy hl (KQ (λe=>(To hL (Ç.mp c1) (Ç.mp c2) hx (e▸hy)).elim) hR)))
 rw[Fm]
 rw[Me.1.2]
 refine Dl (λR hR=>jK.mpr (Ew (λc1=>Ew (λc2=>?_) λ_=>hR) λ_=>hR)) ?_
 ·obtain⟨x,hx⟩:=ZR (zZ (Ç.mp c1) h2)
  obtain⟨y,hy⟩:=on2 c2
  exact Fu rfl hy hl (Fu rfl hx hla (Fu rfl hy hl (KQ (λe=>(fG hL (Ç.mp c1) (Ç.mp c2) hx (e▸hy)).elim) hR)))
 rw[Fm]
 rw[Me.2.1]
 refine Dl (λR hR=>aP.mpr (Ew (λc1=>Ew (λc2=>?_) λ_=>hR) λ_=>hR)) ?_
 ·obtain⟨y,e2,hy⟩:=bk2 c2 sb
  exact Fu e2 hy hl hR
 rw[Fm]
 rw[Me.2.2]
 refine Dl (λR hR=>eE.mpr (Ew (λc1=>Ew (λc2=>?_) λ_=>hR) λ_=>hR)) ?_
 ·obtain⟨y,hy⟩:=on2 c2
  exact Fu rfl hy hl hR
 rw[Fm]
 rw[cU]
 exact⟨⟨rfl,rfl,rfl⟩,DQ (fl:=.ret _) rfl (.refl _) rfl rfl S.shut hq⟩
end
def Tz(P:Ó)(a b c d e:Value):(kb (CV P 196) [a,b,c,d,e]).1 (some ((Ex P 189).getD #[]))=pure ([(("self":Str),a),(("alo":Str),b),(("ahi":Str),c),(("blo":Str),d),(("bhi":Str),e)]):=by rfl'
def mB{w:Ì}{d:Nat}:O3 (lF w) (H1 w.params) (Bd w) (d+2) aN Ou aM NM aI:=U2 (λ_ _ e=>nomatch e) (λ_=>YB) (λe=>nomatch e) (λ_ e=>nomatch e)
def PE{w:Ì}{d:Nat}:BW (lF w) (H1 w.params) (d+4) (.ref 196) BP:=
 pP mB (QJ _).2.2 (QJ _).1 (QJ _).2.1 (ps:=["self","alo","ahi","blo","bhi"]) (by decide) (by rfl') (ZV (T:=189) (by rfl') (by rfl') (Tz _)) λas os Q hh=>by
  obtain⟨la,lb,mb,op,fb,ds,alo,ahi,blo,bhi,ea,eo,⟨S,hB⟩,⟨hla,hl⟩,⟨h1,h2⟩,⟨h3,h4⟩,hq⟩:=hh
  subst ea;subst eo
  have en:(Ao (alo:Int) ((ahi:Int)-(alo:Int)).toNat).length=ahi-alo:=(AY _ _).trans (by exists[_,_,_],0x21b020820f10fbe00f58,(Ý _))
  refine⟨⟨rfl,CA S.shut⟩,mQ.mpr ⟨rfl,rfl,⟨by(exists[_],0xf0f424091f3),by(exists[_,_,_],0xf4240910f3020821080186a09008,hla,h1,h2),by(exists[_],0xf0f424091f3),by exists[_,_],0xf4240910f301080186a09008,hla,h2⟩,λt σ=>oI la lb mb op fb ds alo ahi blo bhi (alo+t) σ,⟨_,W1 S,alo,blo,0,[],Cy.start,PJ.nil,rfl⟩,λt σ v hv hI=>?_,λσ hI=>?_⟩⟩
  ·have ht:=(zT.mp hv).1
   rw[en]at ht
   have hi:alo+t<la.length:=by exists[_,_,_,_],0x123a130b2181008,h2,ht
   have e:some v=some (.int ((alo+t:Nat):Int)):=hv.symm.trans (B5 (by exists[_,_,_,_],0x3010820f10fbe30f5821b018,ht,(Ý _)))
   cases zR e
   exact Rn S hB hla hl (Æ _ _) hi hI
  ·rw[en,ř h1]at hI
   obtain⟨bi,bj,bk,es,hb,hp,rfl⟩:=hI
   rw[Fm]
   exact Wo S hla hl (hb.done h1 h3) h2 h4 (hq bi bj bk (hb.done h1 h3))
def D5(s:í):Expr:=ĳ (motive_2:=λ_=>Expr) s (λ_ _ _ _ _ _ _ _ _ _=>(.Name ("":Str) AB)) (λ_ _ _ _ _ _ _ _ _ _=>(.Name ("":Str) AB)) (λ_ _ _ _ _ _ _ _ _ _ _=>(.Name ("":Str) AB)) (λ_ _=>(.Name ("":Str) AB)) (λ_ _=>(.Name ("":Str) AB)) (λts e _=>e) (λ_ _ _ _ _ _ _=>(.Name ("":Str) AB)) (λ_ _ _ _=>(.Name ("":Str) AB)) (λ_ _ _ _ _=>(.Name ("":Str) AB)) (λ_ _ _ _ _=>(.Name ("":Str) AB)) (λ_ _ _ _ _=>(.Name ("":Str) AB)) (λ_ _ _ _=>(.Name ("":Str) AB)) (λ_ _ _ _=>(.Name ("":Str) AB)) (λ_ _ _=>(.Name ("":Str) AB)) (λ_ _ _=>(.Name ("":Str) AB)) (λ_ _ _=>(.Name ("":Str) AB)) (λ_ _ _=>(.Name ("":Str) AB)) (λ_ _ _ _ _=>(.Name ("":Str) AB)) (λ_ _ _ _ _=>(.Name ("":Str) AB)) (λ_ _ _=>(.Name ("":Str) AB)) (λ_ _=>(.Name ("":Str) AB)) (λ_ _ _ _=>(.Name ("":Str) AB)) (λ_ _=>(.Name ("":Str) AB)) (λ_ _=>(.Name ("":Str) AB)) (λ_ _=>(.Name ("":Str) AB)) (λ_=>(.Name ("":Str) AB)) (λ_=>(.Name ("":Str) AB)) (λ_=>(.Name ("":Str) AB))
def C2:List í:=(CH LH "get_matching_blocks").1
def GJ:Scope:=(CH LH "get_matching_blocks").2
def PW(P:Ó):(CV P 203).body = .stmts C2/\(CV P 203).scope=GJ/\BF P 203=true:=⟨by rfl',by rfl',by rfl'⟩
noncomputable def Ze:Pos->Bool:=λp=>Ù p.line 368
abbrev BB(w:Ì)(tr:Tr):Pm:=Ij w.params (XZ 196 tr) none false true QN Ze
abbrev BX(w:Ì)(tr:Tr)(f:Nat):WS:=Fo (BB w tr) GJ f
abbrev Ld(w:Ì)(tr:Tr)(f:Nat):WA:=(ws (BB w tr) GJ f).A
def NK:Expr×List í:=Xk (C2.getD 5 (.Pass AB))
def qN:List Expr:=Ax (NK.2.getD 0 (.Pass AB))
def pQ:List Expr:=Ax (NK.2.getD 1 (.Pass AB))
def bk:List í:=Aa (NK.2.getD 2 (.Pass AB))
def fN:Expr×List í:=E0 (C2.getD 9 (.Pass AB))
def qL:í:=C2.getD 7 (.Pass AB)
def fH:Expr:=D5 (C2.getD 12 (.Pass AB))
def pR:List Expr:=Ax (C2.getD 12 (.Pass AB))
def nE(w:Ì)(tr:Tr):AV->St->KS->Prop:=λv σ K=>Ld w tr 29 fN.1 v σ λσ=>wL (BB w tr) (BX w tr 29) fN.2 σ K
abbrev gA(la lb:List Int)(mb op fb:AV)(ds:List (AE×AV)):AO:=.inst aD (Bc (.lst (zs la)) (.lst (zs lb)) mb op fb (.dct ds))
abbrev Er(la lb:List Int)(mb op fb:AV)(ds:List (AE×AV))(n m:Int)(qs ms:List AV)(tl:List (Str×AV)):St:=⟨("self",.ref 0)::("lb",.int m)::("la",.int n)::("queue",.ref 1)::("matching_blocks",.ref 2)::tl,[(0,gA la lb mb op fb ds),(1,.list qs),(2,.list ms)],3,1⟩
abbrev qI(alo ahi blo bhi:Int):List (Str×AV):=[("alo",.int alo),("ahi",.int ahi),("blo",.int blo),("bhi",.int bhi)]
abbrev M1(alo ahi blo bhi i j k:Int):List (Str×AV):=[("alo",.int alo),("ahi",.int ahi),("blo",.int blo),("bhi",.int bhi),("i",.int i),("j",.int j),("k",.int k),("x",.mat [.int i,.int j,.int k])]
abbrev qD(la lb:List Int)(mb op fb:AV)(ds:List (AE×AV))(n m:Int)(ms:List AV):St:=⟨[("self",.ref 0),("lb",.int m),("la",.int n),("matching_blocks",.lst ms)],[(0,gA la lb mb op fb ds)],1,1⟩
abbrev Fa(la lb:List Int)(mb op fb:AV)(ds:List (AE×AV))(n m:Int)(ms:List AV)(i j k:Int)(na:List AV)(tl:List (Str×AV)):St:=⟨("self",.ref 0)::("lb",.int m)::("la",.int n)::("matching_blocks",.lst ms)::("i1",.int i)::("j1",.int j)::("k1",.int k)::("non_adjacent",.ref 1)::tl,[(0,gA la lb mb op fb ds),(1,.list na)],2,1⟩
abbrev Es(i j k:Int):AV:=.tup [.int i,.int j,.int k]
abbrev L3(i j k:Int):AV:=.mat [.int i,.int j,.int k]
abbrev Qy(a b c d:Int):AV:=.tup [.int a,.int b,.int c,.int d]
section
variable{w:Ì}{tr:Tr}{la lb:List Int}{mb op fb:AV}{ds:List (AE×AV)}{alo ahi blo bhi i j k n m i1 j1 k1:Int}{qs ms na out:List AV}{K:KS}{Q:AV->List Ob->Prop}{R:Bool->St->Prop}{σ:St}
def g9:wB (BB w tr) GJ C2 ((["self"]:List Str).zip [.ref 0]) [(aD,Bc (.lst (zs la)) (.lst (zs lb)) .none op fb (.dct ds))] Q =
  (AC (zs la).length/\AC (zs lb).length/\2=2/\FZ ((ws (BB w tr) GJ 29).B NK.1) (wL (BB w tr) (BX w tr 29) NK.2) (wL (BB w tr) (BX w tr 29) []) (Er la lb .none op fb ds (zs la).length (zs lb).length [Qy 0 (zs la).length 0 (zs lb).length] [] []) (kx (BB w tr) (BX w tr 30) (C2.drop 6) (AJ 1 Q))):=by rfl'
def ZB:wB (BB w tr) GJ C2 (((["self"]:List Str).zip [.ref 0])) [(aD,Bc (.lst (zs la)) (.lst (zs lb)) (.lst out) op fb (.dct ds))] Q=AJ 1 Q (.ret (.lst out)) (A4 [("self",.ref 0)] [(aD,Bc (.lst (zs la)) (.lst (zs lb)) (.lst out) op fb (.dct ds))]):=by rfl'
def cK:(ws (BB w tr) GJ 29).B NK.1 (Er la lb mb op fb ds n m qs ms []) R=(AC qs.length/\R (!qs.isEmpty) (Er la lb mb op fb ds n m qs ms [])):=by rfl'
def aA:wL (BB w tr) (BX w tr 29) NK.2 (Er la lb mb op fb ds n m qs ms []) K=(AC qs.length/\∃v,qs.getLast?=some v/\As (Ld w tr 28) qN v (Er la lb mb op fb ds n m qs.dropLast ms []) λσ=>wL (BB w tr) (BX w tr 29) (NK.2.drop 1) σ K):=by rfl'
def Zx:(As (Ld w tr 28) qN (Qy alo ahi blo bhi) (Er la lb mb op fb ds n m qs ms []) λσ=>wL (BB w tr) (BX w tr 29) (NK.2.drop 1) σ K) =
  (4=4/\B7 tr [.ref 0,.int alo,.int ahi,.int blo,.int bhi] (Er la lb mb op fb ds n m qs ms (qI alo ahi blo bhi)) λr σ=>As (Ld w tr 28) pQ r σ λσ=>wL (BB w tr) (BX w tr 29) (NK.2.drop 2) σ K):=by rfl'
def bK:(As (Ld w tr 28) pQ (L3 i j k) (Er la lb mb op fb ds n m qs ms (qI alo ahi blo bhi)) λσ=>wL (BB w tr) (BX w tr 29) (NK.2.drop 2) σ K) =
  (3=3/\BI (k != 0) (AC ms.length/\BI (decide (alo<i)) (BI (decide (blo<j)) (AC qs.length/\wL (BB w tr) (BX w tr 28) (bk.drop 2) (Er la lb mb op fb ds n m (qs++[Qy alo i blo j]) (ms++[L3 i j k]) (M1 alo ahi blo bhi i j k)) (kx (BB w tr) (BX w tr 29) [] K))
   (wL (BB w tr) (BX w tr 28) (bk.drop 2) (Er la lb mb op fb ds n m qs (ms++[L3 i j k]) (M1 alo ahi blo bhi i j k)) (kx (BB w tr) (BX w tr 29) [] K))) (wL (BB w tr) (BX w tr 28) (bk.drop 2) (Er la lb mb op fb ds n m qs (ms++[L3 i j k]) (M1 alo ahi blo bhi i j k)) (kx (BB w tr) (BX w tr 29) [] K)))
   (K .next (Er la lb mb op fb ds n m qs ms (M1 alo ahi blo bhi i j k)))):=by rfl'
def a6:wL (BB w tr) (BX w tr 28) (bk.drop 2) (Er la lb mb op fb ds n m qs ms (M1 alo ahi blo bhi i j k)) K=BI (decide (i+k<ahi)) (BI (decide (j+k<bhi)) (AC qs.length/\K .next (Er la lb mb op fb ds n m (qs++[Qy (i+k) ahi (j+k) bhi]) ms (M1 alo ahi blo bhi i j k)))
  (K .next (Er la lb mb op fb ds n m qs ms (M1 alo ahi blo bhi i j k)))) (K .next (Er la lb mb op fb ds n m qs ms (M1 alo ahi blo bhi i j k))):=by rfl'
def cA:wL (BB w tr) (BX w tr 30) (C2.drop 6) (Er la lb mb op fb ds n m qs ms []) K=HJ [.ref 2] (Er la lb mb op fb ds n m qs ms []) λ_ σ=>wL (BB w tr) (BX w tr 30) (C2.drop 7) σ K:=by rfl'
def aS:wL (BB w tr) (BX w tr 30) (C2.drop 7) σ K =∃τ,A0 σ τ/\BX w tr 30 qL τ (kx (BB w tr) (BX w tr 30) (C2.drop 8) K):=by rfl'
def bY:BX w tr 30 qL (qD la lb mb op fb ds n m ms) (kx (BB w tr) (BX w tr 30) (C2.drop 8) K)=(subAll nn ms=some ms/\D1 ms (nE w tr) (wL (BB w tr) (BX w tr 29) []) (Fa la lb mb op fb ds n m ms 0 0 0 [] []) (kx (BB w tr) (BX w tr 30) (C2.drop 10) K)):=by rfl'
def aK:nE w tr (L3 i j k) (Fa la lb mb op fb ds n m ms i1 j1 k1 na []) K=(3=3/\BI (decide (AE.int (i1+k1)=AE.int i)) (BI (decide (AE.int (j1+k1)=AE.int j)) (K .next (Fa la lb mb op fb ds n m ms i1 j1 (k1+k) na [("i2",.int i),("j2",.int j),("k2",.int k)]))
  (BI (k1 != 0) (AC na.length/\3=3/\K .next (Fa la lb mb op fb ds n m ms i j k (na++[Es i1 j1 k1]) [("i2",.int i),("j2",.int j),("k2",.int k)])) (3=3/\K .next (Fa la lb mb op fb ds n m ms i j k na [("i2",.int i),("j2",.int j),("k2",.int k)]))))
  (BI (k1 != 0) (AC na.length/\3=3/\K .next (Fa la lb mb op fb ds n m ms i j k (na++[Es i1 j1 k1]) [("i2",.int i),("j2",.int j),("k2",.int k)])) (3=3/\K .next (Fa la lb mb op fb ds n m ms i j k na [("i2",.int i),("j2",.int j),("k2",.int k)])))):=by rfl'
def ZC:wL (BB w tr) (BX w tr 30) (C2.drop 10) (Fa la lb mb op fb ds n m ms i1 j1 k1 na []) K=BI (k1 != 0) (AC na.length/\wL (BB w tr) (BX w tr 30) (C2.drop 11) (Fa la lb mb op fb ds n m ms i1 j1 k1 (na++[Es i1 j1 k1]) []) K) (wL (BB w tr) (BX w tr 30) (C2.drop 11) (Fa la lb mb op fb ds n m ms i1 j1 k1 na []) K):=by rfl'
def eO:wL (BB w tr) (BX w tr 30) (C2.drop 11) (Fa la lb mb op fb ds n m ms i1 j1 k1 na []) K=(AC na.length/\Zh (BB w tr) GJ (Ai fH).1 (Ai fH).2.1 (Fa la lb mb op fb ds n m ms i1 j1 k1 (na++[Es n m 0]) []) λv σ=>As (Ld w tr 29) pR v σ λσ=>wL (BB w tr) (BX w tr 30) (C2.drop 13) σ K):=by rfl'
def dM:(As (Ld w tr 29) pR (.lst out) (Fa la lb mb op fb ds n m ms i1 j1 k1 na []) λσ=>wL (BB w tr) (BX w tr 30) (C2.drop 13) σ K)=K (.ret (.lst out)) (Fa la lb (.lst out) op fb ds n m ms i1 j1 k1 na []):=by rfl'
end
end Mine
end
namespace Mine
section
variable{α:Type} [DecidableEq α]
abbrev Ab:=Nat×Nat×Nat
inductive Ej(la lb:List α):Nat->Nat->Nat->Nat->List Ab->Prop
 | zero {alo ahi blo bhi i j:Nat} (h:LM la lb alo ahi blo bhi i j 0):Ej la lb alo ahi blo bhi []
 | step {alo ahi blo bhi i j k:Nat} {L R:List Ab} (h:LM la lb alo ahi blo bhi i j k) (hk:0<k) (l:Ej la lb alo i blo j L) (r:Ej la lb (i+k) ahi (j+k) bhi R):Ej la lb alo ahi blo bhi (L++(i,j,k)::R)
def SE{la lb:List α}{alo ahi blo bhi:Nat}(ha:alo<=ahi)(hb:blo<=bhi)(h:¬ (alo<ahi/\blo<bhi)):LM la lb alo ahi blo bhi alo blo 0:=
 ⟨⟨zX _,zX _,ha,hb,λd hd=>absurd hd (by exists[_],0x8019)⟩,λi' j' k' ⟨h1,h2,h3,h4,_⟩=>by(exists[_,_,_,_,_,_,_],0x840621501698643a08541a0832081008,h1,h2,h3,h4,h),λh=>absurd h (by exists[],0x80819),λ_=>⟨rfl,rfl⟩⟩
def Oh{la lb:List α}{alo ahi blo bhi:Nat}(ha:alo<=ahi)(hb:blo<=bhi)(h:¬ (alo<ahi/\blo<bhi)):Ej la lb alo ahi blo bhi []:=.zero (SE ha hb h)
abbrev JW:=Nat×Nat×Nat×Nat
def Rs(la lb:List α):List JW->List Ab->Prop
 | [],B=>B=[]
 | (alo,ahi,blo,bhi)::q,B=>∃L B',Ej la lb alo ahi blo bhi L/\Rs la lb q B'/\B=L++B'
def HX(la lb:List α)(n m:Nat)(st:List JW)(ms:List Ab):Prop:=∀B,Rs la lb st B->∃bs,Ej la lb 0 n 0 m bs/\bs.Perm (ms++B)
def HX.start{la lb:List α}{n m:Nat}:HX la lb n m [(0,n,0,m)] []:=by
 rintro B ⟨L,B',h1,h2,rfl⟩
 have h2:B'=[]:=h2
 subst h2
 exact⟨L,h1,by simp⟩
theorem HX.zero{la lb:List α}{n m alo ahi blo bhi i j:Nat}{st:List JW}{ms:List Ab}(h:HX la lb n m ((alo,ahi,blo,bhi)::st) ms)(hL:LM la lb alo ahi blo bhi i j 0):HX la lb n m st ms:=λB hB=>h B ⟨[],B,.zero hL,hB,rfl⟩
def HX.fin{la lb:List α}{n m:Nat}{ms:List Ab}(h:HX la lb n m [] ms) :∃bs,Ej la lb 0 n 0 m bs/\bs.Perm ms:=by
 obtain⟨bs,h1,h2⟩:=h [] rfl
 exact⟨bs,h1,by simpa using h2⟩
noncomputable def psh(c:Bool)(w:JW)(st:List JW):List JW:=if c then w::st else st
theorem Rs.psh{la lb:List α}{c:Bool}{alo ahi blo bhi:Nat}{st:List JW}{B:List Ab}(ha:alo<=ahi)(hb:blo<=bhi)(hc:c=decide (alo<ahi/\blo<bhi))(h:Rs la lb (psh c (alo,ahi,blo,bhi) st) B) :∃L B',Ej la lb alo ahi blo bhi L/\Rs la lb st B'/\B=L++B':=by
 cases c with
 | true=>exact h
 | false=>exact⟨[],B,Oh ha hb (of_decide_eq_false hc.symm),h,rfl⟩
theorem HX.step{la lb:List α}{n m alo ahi blo bhi i j k:Nat}{st:List JW}{ms:List Ab}{c d:Bool}(h:HX la lb n m ((alo,ahi,blo,bhi)::st) ms)(hL:LM la lb alo ahi blo bhi i j k)(hk:0<k)(hc:c=decide (alo<i/\blo<j))(hd:d=decide (i+k<ahi/\j+k<bhi)) :
  HX la lb n m (psh d (i+k,ahi,j+k,bhi) (psh c (alo,i,blo,j) st)) (ms++[(i,j,k)]):=by
 intro B hB
 obtain⟨s1,s2,s3,s4,s5⟩:=hL.str
 obtain⟨R,B1,r1,r2,rfl⟩:=Rs.psh s3 s4 hd hB
 obtain⟨L,B2,l1,l2,rfl⟩:=Rs.psh s1 s2 hc r2
 obtain⟨bs,b1,b2⟩:=h ((L++(i,j,k)::R)++B2) ⟨_,_,.step hL hk l1 r1,l2,rfl⟩
 refine⟨bs,b1,b2.trans ?_⟩
 rw[Ï ms]
 refine aC9 ms ?_
 rw[Ï]
 refine(List.perm_append_comm_assoc L _ B2).trans ?_
 simp only[List.cons_append,aA3]
 exact aK3.refl _
noncomputable def wt:List JW->Nat
 | []=>0
 | (alo,ahi,_,_)::q=>2*(ahi-alo)+1+wt q
def PD(c:Bool)(alo ahi blo bhi:Nat)(st:List JW):wt (psh c (alo,ahi,blo,bhi) st)<=2*(ahi-alo)+1+wt st:=by
 cases c
 ·show wt st<=_;exact id (ql [_,_,_] 0x1821b02caa00 (by rfl'))
 ·exact zX _
def Tu{la lb:List α}{alo ahi blo bhi i j k:Nat}{st:List JW}{c d:Bool}(hL:LM la lb alo ahi blo bhi i j k)(hk:0<k):wt (psh d (i+k,ahi,j+k,bhi) (psh c (alo,i,blo,j) st))<wt ((alo,ahi,blo,bhi)::st):=by
 obtain⟨s1,s2,s3,s4,s5⟩:=hL.str
 have h1:=PD d (i+k) ahi (j+k) bhi (psh c (alo,i,blo,j) st)
 have h2:=PD c alo i blo j st
 show _<2*(ahi-alo)+1+wt st
 exact id (ql [_,_,_,_,_,_,_] 0x61813b02caa4161812b02caa50851802a3b02caa408302a08210800818 (by rfl') hk s1 s3 h1 h2)
def fF(n m:Nat)(st:List JW):Prop:=∀x∈st,x.1<=x.2.1/\x.2.1<=n/\x.2.2.1<=x.2.2.2/\x.2.2.2<=m
theorem fF.psh{n m:Nat}{st:List JW}{c:Bool}{x:JW}(h:fF n m st)(hx:x.1<=x.2.1/\x.2.1<=n/\x.2.2.1<=x.2.2.2/\x.2.2.2<=m):fF n m (psh c x st):=by
 cases c
 ·exact h
 ·intro y hy
  rcases È.mp hy with rfl | hy
  ·exact hx
  ·exact h y hy
theorem Qj :∀st:List JW,st.length<=wt st
 | []=>zX _
 | (a,b,c,d)::r=>by
  have:=Qj r
  show r.length+1<=2*(b-a)+1+wt r
  exact id (ql [_,_,_,_] 0x11832b02caa180a01008 (by rfl') this)
def Ej.within{la lb:List α}{alo ahi blo bhi:Nat}{bs:List Ab}(h:Ej la lb alo ahi blo bhi bs) :∀b∈bs,alo<=b.1/\b.1+b.2.2<=ahi/\blo<=b.2.1/\b.2.1+b.2.2<=bhi/\0<b.2.2:=by
 induction h with
 | zero h=>intro b hb;cases hb
 | step h hk l r ihl ihr=>
  obtain⟨s1,s2,s3,s4,s5⟩:=h.str
  intro b hb
  rcases Á.mp hb with hb | hb
  ·have:=ihl b hb;exists[_,_,_,_,_,_,_,_,_,_],0x7081473fa063f2f06276a06650670818373fa083f2f08076a086508413a08210a08,s3,s4,this.1,this.2.1,this.2.2.1,this.2.2.2.1,this.2.2.2.2
  ·rcases È.mp hb with rfl | hb
   ·exact⟨s1,s3,s2,s4,hk⟩
   ·have:=ihr b hb;exists[_,_,_,_,_,_,_,_,_,_],0x60813f62fa062f206765a065006608183f62fa082f43a08765a08541a0832081008,s1,s2,this.1,this.2.1,this.2.2.1,this.2.2.2.1,this.2.2.2.2
def Ej.sorted{la lb:List α}{alo ahi blo bhi:Nat}{bs:List Ab}(h:Ej la lb alo ahi blo bhi bs):bs.Pairwise λa b=>a.1+a.2.2<=b.1/\a.2.1+a.2.2<=b.2.1:=by
 induction h with
 | zero h=>exact .nil
 | step h hk l r ihl ihr=>
  obtain⟨s1,s2,s3,s4,s5⟩:=h.str
  rw[ź]
  refine⟨ihl,ñ.mpr ⟨λb hb=>?_,ihr⟩,λa ha b hb=>?_⟩
  ·have:=r.within b hb
   exact⟨this.1,this.2.2.1⟩
  ·have h1:=l.within a ha
   rcases È.mp hb with rfl | hb
   ·exact⟨h1.2.1,h1.2.2.2.1⟩
   ·have h2:=r.within b hb;exists[_,_,_,_,_,_,_,_],0x713a0610a06754a08652a08413a08210a08,h1.2.1,h1.2.2.2.1,h2.1,h2.2.2.1
noncomputable def FR:Ab->List Ab->List Ab
 | (i,j,k),[]=>if k=0 then []else [(i,j,k)]
 | (i,j,k),(i2,j2,k2)::r=>if i+k=i2/\j+k=j2 then FR (i,j,k+k2) r else if k=0 then FR (i2,j2,k2) r else(i,j,k)::FR (i2,j2,k2) r
end
end Mine
section
open PySem PySem.W PyProof.Rows
namespace Mine
def Us{k:Nat}{A B:Prop}(a:0<k->A)(b:k=0->B):BI ((k:Int) != 0) A B:=by
 by_cases h:k=0
 ·subst h;exact b rfl
 ·rw[show((k:Int) != 0)=true from bne_iff_ne.mpr λz=>h (ŗ z)];exact a (Į h)
def Te{p q:Prop} [Decidable p] [Decidable q] {A B:Prop} (a:p/\q->A) (b:¬ (p/\q)->B):BI (decide p) (BI (decide q) A B) B:=Ew (λh=>Ew (λh'=>a ⟨h,h'⟩) λh'=>b λz=>h' z.2) λh=>b λz=>h z.1
noncomputable abbrev nI(x:Nat):Int:=x
def GH(b:Ab):AV:=L3 (nI b.1) (nI b.2.1) (nI b.2.2)
def aT(b:Ab):AV:=Es (nI b.1) (nI b.2.1) (nI b.2.2)
def Mj(x:JW):AV:=Qy (nI x.1) (nI x.2.1) (nI x.2.2.1) (nI x.2.2.2)
def Z0(b:Ab):List AV:=[.int (nI b.1),.int (nI b.2.1),.int (nI b.2.2)]
def Cq{α:Type}{f:α->AV}(h :∀b,(f b).sub nn=some (f b))(l:List α):subAll nn (l.map f)=some (l.map f):=Ä (motive:=λl=>subAll nn (l.map f)=some (l.map f)) rfl (λa r ih=>AW (h a) ih) l
def Y6{α:Type}{g:AV->Option Int}{f:α->AV}{x:α->Int}(h :∀b,g (f b)=some (x b))(l:List α):IJ g (l.map f)=some (l.map x):=Ä (motive:=λl=>IJ g (l.map f)=some (l.map x)) rfl (λa r ih=>by
 show(g (f a)).bind (λy=>(IJ g (r.map f)).map (y :: ·))=_
 rw[h,ih];rfl) l
def OE{α:Type}{x:α->Int}{as bs:List α}(h:as.Perm bs)(h1:(as.map x).Pairwise (· < ·))(h2:(bs.map x).Pairwise (· < ·)):as=bs:=
 aK3.eq_of_pairwise (le:=λa b=>x a<x b) (λa b _ _ p q=>absurd (Ż p q) (Int.lt_irrefl _)) (ŕ.mp h1) (ŕ.mp h2) h
def NB{α β:Type}{d:α}{e:β}(f:α->β)(ms:List α){p:List Nat}(hp:p.Perm (Ë ms.length)):(p.map λi=>(ms.map f).getD i e)=(p.map λi=>ms.getD i d).map f:=by
 rw[Ĳ]
 refine ŀ λi hi=>?_
 have hi:=ű.mp (hp.mem_iff.mp hi)
 show(ms.map f).getD i e=f (ms.getD i d)
 rw[Ø,Ø,Ð,zV hi];rfl
def Lk{α:Type}{g:AV->Option Int}{f:α->AV}{x:α->Int}(h :∀b,g (f b)=some (x b)){ms bs:List α}(hp:bs.Perm ms)(hs:(bs.map x).Pairwise (· < ·))(hl:bs.length<64)(d:α){K:List AV->Prop}(q:K (bs.map f)):O0 g (ms.map f) K:=by
 have hl2:(ms.map x).length=ms.length:=z6 ..
 refine⟨ms.map x,Y6 h ms,⟨hl2▸hp.length_eq▸hl,(hp.map x).nodup_iff.mp (hs.imp λz=>Int.ne_of_lt z)⟩,λp h1 h2=>?_⟩
 rw[hl2]at h1
 rw[NB (d:=d) x ms h1]at h2
 have hpp:(p.map λi=>ms.getD i d).Perm ms:=by
  have z:=h1.map λi=>ms.getD i d
  rw[DF]at z
  exact z
 rw[NB (d:=d) f ms h1,OE (hpp.trans hp.symm) h2 hs]
 exact q
def OW{α:Type} [DecidableEq α] {la lb:List α} {a b c d:Nat} {bs:List Ab} (h:Ej la lb a b c d bs):(bs.map λb=>nI b.1).Pairwise (· < ·):=
 ŕ.mpr (aG9.imp_of_mem (λ{a b} ha _ z=>Ç.mpr (zZ (Þ (h.within a ha).2.2.2.2) z.1)) h.sorted)
def WL{w:Ì}{tr:Tr}{la lb:List Int}{mb op fb:AV}{ds:List (AE×AV)}{n m i j k:Int}{ms na:List AV}{Q:AV->St->Prop}{vss:List (List AV)}(e:na=vss.map .tup)(ht:Gv vss)(hl:vss.length<=1000000)(q:Q (.lst (ES vss)) (Fa la lb mb op fb ds n m ms i j k na [])) :
  Zh (BB w tr) GJ (Ai fH).1 (Ai fH).2.1 (Fa la lb mb op fb ds n m ms i j k na []) Q:=by
 refine⟨"list",⟨380,31,380,35⟩,"map",⟨380,36,380,39⟩,"Match",⟨380,40,380,45⟩,⟨380,40,380,51⟩,"non_adjacent",⟨380,53,380,65⟩,⟨380,36,380,66⟩,⟨by rfl',by rfl'⟩,by rfl',⟨by rfl',by rfl',by rfl'⟩,⟨by rfl',by rfl',by rfl'⟩,?_⟩
 have h:(∃vss,Ak (Fa la lb mb op fb ds n m ms i j k na []) (.ref 1)=some (vss.map .tup)/\Gv vss/\vss.length<=1000000/\Q (.lst (ES vss)) (Fa la lb mb op fb ds n m ms i j k na [])):=⟨vss,congrArg some e,ht,hl,q⟩
 exact(show(∃vss,Ak (Fa la lb mb op fb ds n m ms i j k na []) (.ref 1)=some (vss.map .tup)/\Gv vss/\vss.length<=1000000/\Q (.lst (ES vss)) (Fa la lb mb op fb ds n m ms i j k na []))=HQ (BB w tr) GJ "non_adjacent" (Fa la lb mb op fb ds n m ms i j k na []) (λv σ=>∃vss,Ak σ v=some (vss.map .tup)/\Gv vss/\vss.length<=1000000/\Q (.lst (ES vss)) σ)from by rfl').mp h
def EU(bs:List Ab)(n m:Nat):List AV:=(FR (0,0,0) bs++[(n,m,0)]).map GH
def Nr(bs:List Ab)(n m:Nat):(AV.lst (EU bs n m)).sub nn=some (.lst (EU bs n m)):=Ae (Cq (λ_=>rfl) _)
def Q9{c:Bool}{x:JW}{st:List JW}:((psh c x st).map Mj).reverse=(st.map Mj).reverse++bif c then [Mj x]else []:=by
 cases c with
 | true=>exact(congrArg aI5 (Ć ..)).trans (ġ ..)
 | false=>exact(Ô _).symm
section
variable{w:Ì}{la lb:List Int}{mb op fb:AV}{ds:List (AE×AV)}{n m:Int}{alo ahi blo bhi:Nat}{qs ms:List AV}{K:KS}
def RA{a b c d x y z:Int}:A0 (Er la lb mb op fb ds n m qs ms (M1 a b c d x y z)) (Er la lb mb op fb ds n m qs ms []):=
 .less (ρ:=(Er la lb mb op fb ds n m qs ms []).ρ++M1 a b c d x y z) (λx v e=>CT e) λ_ _=>id
def Uu{a b c d:Int}:subAll (KO [0]) [.ref 0,.int a,.int b,.int c,.int d]=some [.ref 0,.int a,.int b,.int c,.int d]:=rfl
def YQ(S:BO (.lst (zs la)) (.lst (zs lb)) mb op fb (.dct ds))(hB:BJ lb ds)(hla:la.length<=100000/\lb.length<=100000)(ha:alo<=ahi/\ahi<=la.length)(hb:blo<=bhi/\bhi<=lb.length)(hq:qs.length+2<=1000000)(hm:ms.length<=1000000)
  (h :∀i j k,LM la lb alo ahi blo bhi i j k->(k=0->K .next (Er la lb mb op fb ds n m qs ms (M1 alo ahi blo bhi i j k)))/\(0<k->K .next (Er la lb mb op fb ds n m (qs++(bif decide (alo<i/\blo<j)then [Mj (alo,i,blo,j)]else [])++(bif decide (i+k<ahi/\j+k<bhi)then [Mj (i+k,ahi,j+k,bhi)]else [])) (ms++[GH (i,j,k)]) (M1 alo ahi blo bhi i j k)))) :
  wL (BB w BP) (BX w BP 29) NK.2 (Er la lb mb op fb ds n m (qs++[Mj (alo,ahi,blo,bhi)]) ms []) K:=by
 rw[aA]
 refine⟨zP (Â zU) (õ hq),_,List.getLast?_concat,?_⟩
 rw[List.dropLast_concat]
 refine Zx.mpr ⟨rfl,Fn (D:=aD) (at_:=Bc (.lst (zs la)) (.lst (zs lb)) mb op fb (.dct ds)) S.shut rfl Uu ⟨la,lb,mb,op,fb,ds,alo,ahi,blo,bhi,rfl,rfl,⟨S,hB⟩,hla,ha,hb,λi j k hL=>?_⟩⟩
 obtain⟨h0,h1⟩:=h i j k hL
 refine bK.mpr ⟨rfl,Us (λhk=>⟨hm,?_⟩) h0⟩
 have h1:=h1 hk
 have fin :∀q:List AV,q.length<=1000000->K .next (Er la lb mb op fb ds n m (q++(bif decide (i+k<ahi/\j+k<bhi)then [Mj (i+k,ahi,j+k,bhi)]else [])) (ms++[GH (i,j,k)]) (M1 alo ahi blo bhi i j k))->wL (BB w BP) (BX w BP 28) (bk.drop 2) (Er la lb mb op fb ds n m q (ms++[L3 i j k]) (M1 alo ahi blo bhi i j k)) (kx (BB w BP) (BX w BP 29) [] K):=λq hq z=>by
  refine a6.mpr (Te (λc=>⟨hq,?_⟩) λc=>?_)
  ·rw[decide_eq_true (show i+k<ahi/\j+k<bhi from⟨Ç.mp c.1,Ç.mp c.2⟩)]at z
   exact z
  ·rw[decide_eq_false (show ¬ (i+k<ahi/\j+k<bhi)from λz=>c ⟨Ç.mpr z.1,Ç.mpr z.2⟩)]at z
   exact(Ô q)▸z
 refine Te (λc=>⟨õ (õ hq),fin _ (zP (Â zU) (õ hq)) ?_⟩) λc=>fin _ (õ (õ hq)) ?_
 ·rw[decide_eq_true (show alo<i/\blo<j from⟨Ç.mp c.1,Ç.mp c.2⟩)]at h1
  exact h1
 ·rw[decide_eq_false (show ¬ (alo<i/\blo<j)from λz=>c ⟨Ç.mpr z.1,Ç.mpr z.2⟩)]at h1
  exact(Ô qs)▸h1
end
section
section
variable{w:Ì}{la lb:List Int}{mb op fb:AV}{ds:List (AE×AV)}{K:KS}{Q:AV->List Ob->Prop}{n m:Nat}{bs ms:List Ab}
def Lb{n m a b c:Int}{x y z:Int}{ms na:List AV}:A0 (Fa la lb mb op fb ds n m ms a b c na [("i2",.int x),("j2",.int y),("k2",.int z)]) (Fa la lb mb op fb ds n m ms a b c na []):=
 .less (ρ:=(Fa la lb mb op fb ds n m ms a b c na []).ρ++([("i2",.int x),("j2",.int y),("k2",.int z)]:List (Str×AV))) (λx v e=>CT e) λ_ _=>id
def jI(la lb:List Int)(mb op fb:AV)(ds:List (AE×AV))(n m:Nat)(bs:List Ab)(t:Nat)(σ:St):Prop:=∃(i j k:Nat) (na:List Ab),na++FR (i,j,k) (bs.drop t)=FR (0,0,0) bs/\na.length<=t/\σ=Fa la lb mb op fb ds (nI n) (nI m) (bs.map GH) (nI i) (nI j) (nI k) (na.map aT) []
def JC{α:Type}{f:α->AV}{na:List α}{t:Nat}(h:na.length<=t)(ht:t<=100):AC (na.map f).length:=zP (Â (z6 ..)) (zP h (zP ht (by decide)))
def FB{α:Type}{f:α->AV}{na:List α}{b:α}:na.map f++[f b]=(na++[b]).map f:=(ù (l₁:=na) (l₂:=[b]) (f:=f)).symm
def Zn(l:List Ab):l.map aT=(l.map Z0).map .tup:=(Ĳ (l:=l) (f:=Z0) (g:=AV.tup)).symm
def bI(l:List Ab):ES (l.map Z0)=l.map GH:=Ĳ (l:=l) (f:=Z0) (g:=AV.mat)
def Wk{t:Nat}{v:AV}{σ:St}(hl:bs.length<64)(hv:(bs.map GH)[t]?=some v)(hI:jI la lb mb op fb ds n m bs t σ):nE w BP v σ (turn (λσ=>∃τ,A0 σ τ/\jI la lb mb op fb ds n m bs (t+1) τ) K):=by
 obtain⟨i,j,k,na,h1,h2,rfl⟩:=hI
 obtain⟨b,hb,rfl⟩:=ť.mp ((Ð ..).symm.trans hv)
 obtain⟨ht,hb⟩:=zT.mp hb
 rw[è ht,hb]at h1
 obtain⟨i2,j2,k2⟩:=b
 have hsz:na.length<=63:=zP h2 (î (zZ ht (Û hl)))
 have ne:¬ (AE.int (nI i+nI k)=AE.int (nI i2)/\AE.int (nI j+nI k)=AE.int (nI j2))->¬ (i+k=i2/\j+k=j2):=λc z=>c ⟨z.1▸rfl,z.2▸rfl⟩
 refine aK.mpr ⟨rfl,Te (λc=>⟨_,Lb,i,j,k+k2,na,?_,ð h2,rfl⟩) λc=>Us (λhk=>⟨JC hsz (by decide),rfl,_,Lb,i2,j2,k2,na++[(i,j,k)],?_,zP (Â zU) (ý h2),?_⟩) λhk=>⟨rfl,_,Lb,i2,j2,k2,na,?_,ð h2,rfl⟩⟩
 ·have e:i+k=i2/\j+k=j2:=⟨ŗ (AE.int.inj c.1),ŗ (AE.int.inj c.2)⟩
  rw[FR,if_pos e]at h1
  exact h1
 ·rw[FR,if_neg (ne c),if_neg (ń hk)]at h1
  rw[Ï]
  exact h1
 ·exact congrArg (λl=>Fa la lb mb op fb ds (nI n) (nI m) (bs.map GH) (nI i2) (nI j2) (nI k2) l []) (FB (f:=aT) (b:=(i,j,k)))
 ·rw[FR,if_neg (ne c),if_pos hk]at h1
  exact h1
def eV{σ:St}(S:BO (.lst (zs la)) (.lst (zs lb)) mb op fb (.dct ds))(hl:bs.length<64)(hI:jI la lb mb op fb ds n m bs bs.length σ)(hq:Q (.lst (EU bs n m)) [(aD,Bc (.lst (zs la)) (.lst (zs lb)) (.lst (EU bs n m)) op fb (.dct ds))]):wL (BB w BP) (BX w BP 30) (C2.drop 10) σ (AJ 1 Q):=by
 obtain⟨i,j,k,na,h1,h2,rfl⟩:=hI
 rw[aD5]at h1
 have fin :∀na':List Ab,na'=FR (0,0,0) bs->na'.length<=64->wL (BB w BP) (BX w BP 30) (C2.drop 11) (Fa la lb mb op fb ds (nI n) (nI m) (bs.map GH) (nI i) (nI j) (nI k) (na'.map aT) []) (AJ 1 Q):=λna' e hz=>by
  subst e
  have so:=Nr bs n m
  refine eO.mpr ⟨JC hz (by decide),WL (vss:=(FR (0,0,0) bs++[(n,m,0)]).map Z0) ((FB (f:=aT) (b:=(n,m,0))).trans (Zn _)) (λa vs e=>?_) (zP (Â ((z6 ..).trans zU)) (zP (ý hz) (by decide))) (dM.mpr ?_)⟩
  ·obtain⟨b,_,rfl⟩:=ť.mp ((Ð ..).symm.trans e)
   exact⟨rfl,rfl⟩
  ·rw[bI (FR (0,0,0) bs++[(n,m,0)])]
   exact DQ (fl:=.ret _) (at_:=Bc (.lst (zs la)) (.lst (zs lb)) (.lst (EU bs n m)) op fb (.dct ds)) rfl (.refl _) rfl so (BO.shut ⟨S.a,S.b,so,S.op,S.fb,S.b2j⟩) hq
 have hz:na.length<=63:=zP h2 (î hl)
 refine ZC.mpr (Us (λhk=>⟨JC hz (by decide),?_⟩) λhk=>?_)
 ·rw[FR,if_neg (ń hk)]at h1
  have:=fin (na++[(i,j,k)]) h1 (zP (Â zU) (ý hz))
  rw[<-FB]at this
  exact this
 ·rw[FR,if_pos hk,Ô]at h1
  exact fin na h1 (ð hz)
def eK(S:BO (.lst (zs la)) (.lst (zs lb)) mb op fb (.dct ds))(hR:Ej la lb 0 n 0 m bs)(hp:bs.Perm ms)(hl:bs.length<64)(hq:Q (.lst (EU bs n m)) [(aD,Bc (.lst (zs la)) (.lst (zs lb)) (.lst (EU bs n m)) op fb (.dct ds))]) :
  wL (BB w BP) (BX w BP 30) (C2.drop 6) (Er la lb mb op fb ds (nI n) (nI m) [] (ms.map GH) []) (AJ 1 Q):=by
 have hs:subAll nn (bs.map GH)=some (bs.map GH):=Cq (λ_=>rfl) bs
 rw[cA]
 show AC (ms.map GH).length/\O0 n5 (ms.map GH) λws=>wL (BB w BP) (BX w BP 30) (C2.drop 7) (Er la lb mb op fb ds (nI n) (nI m) [] ws []) (AJ 1 Q)
 refine⟨JC (Û (hp.length_eq▸hl)) (by decide),Lk (x:=λb=>nI b.1) (λ_=>rfl) hp (OW hR) hl (0,0,0) ?_⟩
 rw[aS]
 refine⟨qD la lb mb op fb ds (nI n) (nI m) (bs.map GH),.re [0] [(2,.lst (bs.map GH))] rfl rfl rfl rfl (BQ rfl rfl rfl (congrArg (Ñ (AV.seq .lst)) hs) Br) (Ay rfl rfl (Ay rfl rfl (Ay rfl rfl (Ay rfl rfl BU)))) (E9 rfl rfl (Pk S) BS),?_⟩
 rw[bY]
 refine⟨hs,jI la lb mb op fb ds n m bs,⟨_,.refl _,0,0,0,[],rfl,zX _,rfl⟩,λt σ v hv hI=>Wk hl hv hI,λσ hI=>?_⟩
 rw[z6]at hI
 rw[Fm]
 exact eV S hl hI hq
def gI(la lb:List Int)(mb op fb:AV)(ds:List (AE×AV))(k:Nat)(σ:St):Prop:=∃(st:List JW) (ms:List Ab),wt st=k/\(wt st+ms.length<=2*la.length+1/\fF la.length lb.length st)/\HX la lb la.length lb.length st ms/\σ=Er la lb mb op fb ds (nI la.length) (nI lb.length) ((st.map Mj).reverse) (ms.map GH) []
def MB(la lb:List Int)(mb:AV):Prop:=mb = .none\/∃bs,Ej la lb 0 la.length 0 lb.length bs/\mb = .lst (EU bs la.length lb.length)
def QI:Tr:=λas os Q=>∃(la lb:List Int) (mb op fb:AV) (ds:List (AE×AV)),as=[.ref 0]/\os=[(aD,Bc (.lst (zs la)) (.lst (zs lb)) mb op fb (.dct ds))]/\(BO (.lst (zs la)) (.lst (zs lb)) mb op fb (.dct ds)/\BJ lb ds)/\MB la lb mb/\(la.length<=100000/\lb.length<=100000)/\
 ∀bs,Ej la lb 0 la.length 0 lb.length bs->bs.length<64/\Q (.lst (EU bs la.length lb.length)) [(aD,Bc (.lst (zs la)) (.lst (zs lb)) (.lst (EU bs la.length lb.length)) op fb (.dct ds))]
def Cn{b:Bool}{A B:Prop}(e:b=false)(h:B):BI b A B:=e▸h
def En{b:Bool}{A B:Prop}(e:b=true)(h:A):BI b A B:=e▸h
def Vs{k:Nat}{σ:St}(S:BO (.lst (zs la)) (.lst (zs lb)) mb op fb (.dct ds))(hB:BJ lb ds)(hz:la.length<=100000/\lb.length<=100000)(hq :∀bs,Ej la lb 0 la.length 0 lb.length bs->bs.length<64/\Q (.lst (EU bs la.length lb.length)) [(aD,Bc (.lst (zs la)) (.lst (zs lb)) (.lst (EU bs la.length lb.length)) op fb (.dct ds))])(hI:gI la lb mb op fb ds k σ) :
  (ws (BB w BP) GJ 29).B NK.1 σ λc σ=>BI c (wL (BB w BP) (BX w BP 29) NK.2 σ (turn (λσ=>∃m' τ,m'<k/\A0 σ τ/\gI la lb mb op fb ds m' τ) K)) (wL (BB w BP) (BX w BP 29) [] σ (kx (BB w BP) (BX w BP 30) (C2.drop 6) (AJ 1 Q))):=by
 obtain⟨st,ms,rfl,⟨hw,ho⟩,hP,rfl⟩:=hI
 have hst:=Qj st
 have h5 :∀{x:Nat},x<=2*la.length+1->x+2<=1000000:=λh=>by exists[_,_],0xf42409281a018002ca1080186a09008,hz.1,h
 have hsz:((st.map Mj).reverse).length=st.length:=(Ĉ ..).trans (z6 ..)
 have hms:(ms.map GH).length<=1000000:=zP (Â (z6 ..)) (Ī (h5 (zP (Nat.le_add_left ..) hw)))
 rw[cK]
 refine⟨zP (Â hsz) (Ī (h5 (zP hst (zP (Æ ..) hw)))),?_⟩
 cases st with
 | nil=>
  obtain⟨bs,b1,b2⟩:=hP.fin
  refine Cn rfl ?_
  rw[Fm]
  exact eK S b1 b2 (hq bs b1).1 (hq bs b1).2
 | cons x st=>
  obtain⟨alo,ahi,blo,bhi⟩:=x
  have hx:=ho _ (z8 ..)
  have ho':fF la.length lb.length st:=λy hy=>ho y (À _ hy)
  have e:(((alo,ahi,blo,bhi)::st).map Mj).reverse=(st.map Mj).reverse++[Mj (alo,ahi,blo,bhi)]:=(congrArg aI5 (Ć ..)).trans (ġ ..)
  have e2:(!((((alo,ahi,blo,bhi)::st).map Mj).reverse).isEmpty)=true:=by rw[e];cases(st.map Mj).reverse<;>rfl
  refine En e2 ?_
  rw[e]
  refine YQ S hB hz ⟨hx.1,hx.2.1⟩ ⟨hx.2.2.1,hx.2.2.2⟩ (h5 (zP (Â ((Ĉ ..).trans (z6 ..))) (zP (õ hst) (zP (Æ ..) hw)))) hms λi j k hL=>⟨λhk=>?_,λhk=>?_⟩
  ·subst hk
   have:wt st<wt ((alo,ahi,blo,bhi)::st):=zZ (Ê _) (by show _<=2*(ahi-alo)+1+wt st;omega)
   exact⟨wt st,_,this,RA,st,ms,rfl,⟨by(exists[_,_,_,_],0x18202ca13a0031818202ca10a08,hw,this),ho'⟩,hP.zero hL,rfl⟩
  ·have lt:=Tu (st:=st) (c:=decide (alo<i/\blo<j)) (d:=decide (i+k<ahi/\j+k<bhi)) hL hk
   obtain⟨s1,s2,s3,s4,s5⟩:=hL.str
   refine⟨_,_,lt,RA,_,ms++[(i,j,k)],rfl,⟨?_,(ho'.psh ⟨s1,zP (Ī s3) hx.2.1,s2,zP (Ī s4) hx.2.2.2⟩).psh ⟨s3,hx.2.1,s4,hx.2.2.2⟩⟩,hP.step hL hk rfl rfl,?_⟩
   ·rw[zU]
    show _+(ms.length+1)<=_
    exact id (ql [_,_,_,_] 0x18202ca181a3a0031818202ca10a08 (by rfl') hw lt)
   ·rw[Q9,Q9,<-FB]
end
variable{w:Ì}{d:Nat}
def iW:O3 (lF w) (H1 w.params) (BB w BP) (d+3) aN Ou aM NM aI:=
 U2 (λf t e=>BL (b:=Ù f 196) (x:=some BP) (y:=none) e (λq e=>Å q▸zR e▸PE) AA) (λe=>nomatch e) (λ_=>Tj) (λ_ e=>nomatch e)
def YE:BW (lF w) (H1 w.params) (d+5) (.ref 203) QI:=
 Ox iW (PW _).2.2 (PW _).1 (PW _).2.1 (ps:=["self"]) (by decide) (by rfl') (NG λa=>by rfl') λas os Q hh=>by
  obtain⟨la,lb,mb,op,fb,ds,ea,eo,⟨S,hB⟩,hmb,hz,hq⟩:=hh
  subst ea;subst eo
  refine⟨⟨rfl,CA S.shut⟩,?_⟩
  rcases hmb with rfl | ⟨bs,hR,rfl⟩
  rotate_left
  ·exact ZB.mpr (DQ (fl:=.ret _) rfl (.refl _) rfl S.mb S.shut (hq bs hR).2)
  show wB (BB w BP) GJ C2 _ _ Q
  rw[g9,A7,A7]
  refine⟨big hz.1,big hz.2,rfl,gI la lb .none op fb ds,2*la.length+1,⟨_,.refl _,[(0,la.length,0,lb.length)],[],rfl,⟨zX _,λx hx=>?_⟩,.start,rfl⟩,λm σ hI=>?_⟩
  ·rw[z9.mp hx]
   exact⟨Õ _,zX _,Õ _,zX _⟩
  ·exact Vs S hB hz hq hI
end
def Pq:List í:=(CH LH "get_opcodes").1
def XR:Scope:=(CH LH "get_opcodes").2
def Rp(P:Ó):(CV P 210).body = .stmts Pq/\(CV P 210).scope=XR/\BF P 210=true:=⟨by rfl',by rfl',by rfl'⟩
abbrev B4(w:Ì):Pm:=p1 w 203 QI
abbrev Ba(w:Ì)(f:Nat):WS:=Fo (B4 w) XR f
def fP:Expr×List í:=E0 (Pq.getD 4 (.Pass AB))
def kR(w:Ì):AV->St->KS->Prop:=λv σ K=>(ws (B4 w) XR 29).A fP.1 v σ λσ=>wL (B4 w) (Ba w 29) fP.2 σ K
noncomputable def C8(s:í):List í:=ĳ (motive_2:=λ_=>List í) s (λ_ _ _ _ _ _ _ _ _ _=>[]) (λ_ _ _ _ _ _ _ _ _ _=>[]) (λ_ _ _ _ _ _ _ _ _ _ _=>[]) (λ_ _=>[]) (λ_ _=>[]) (λ_ _ _=>[]) (λ_ _ _ _ _ _ _=>[]) (λ_ _ _ _=>[]) (λ_ _ _ _ _=>[]) (λ_ _ _ _ _=>[]) (λ_ _ _ _ _=>[]) (λ_ _ _ _=>[]) (λt b o _=>o) (λ_ _ _=>[]) (λ_ _ _=>[]) (λ_ _ _=>[]) (λ_ _ _=>[]) (λ_ _ _ _ _=>[]) (λ_ _ _ _ _=>[]) (λ_ _ _=>[]) (λ_ _=>[]) (λ_ _ _ _=>[]) (λ_ _=>[]) (λ_ _=>[]) (λ_ _=>[]) (λ_=>[]) (λ_=>[]) (λ_=>[])
abbrev oS(la lb:List Int)(mb fb:AV)(ds:List (AE×AV))(a:É)(i j:Int)(L:List AV)(tl:List (Str×AV)):St:=⟨("self",.ref 0)::("i",.int i)::("j",.int j)::("answer",.ref 1)::tl,[(0,.inst aD (Bc (.lst (zs la)) (.lst (zs lb)) mb (.glo a) fb (.dct ds))),(1,.list L)],2,1⟩
section
variable{w:Ì}{la lb:List Int}{mb fb:AV}{ds:List (AE×AV)}{a:É}{i j ai bj sz:Int}{L:List AV}{tl:List (Str×AV)}{K:KS}
abbrev xM(u:AV)(F:List AV->Prop):Prop:=Ö (A9 (IK u) λes=>F (DB es)) (λvs=>subAll nn vs=some vs/\F vs) (P8 u)
def oW:wL (B4 w) (Ba w 30) Pq (A4 [("self",.ref 0)] [(aD,Bc (.lst (zs la)) (.lst (zs lb)) mb .none fb (.dct ds))]) K =
  ∀a,B7 QI [.ref 0] (oS la lb mb fb ds a 0 0 [] []) λu σ=>xM u λvs=>D1 vs (kR w) (wL (B4 w) (Ba w 29) []) σ (kx (B4 w) (Ba w 30) (Pq.drop 5) K):=by rfl'
abbrev pM(ai bj sz:Int)(t:Str):List (Str×AV):=[("ai",.int ai),("bj",.int bj),("size",.int sz),("tag",.str t)]
abbrev cP(la lb:List Int)(mb fb:AV)(ds:List (AE×AV))(a:É)(i j ai bj sz:Int)(L:List AV)(t:Str):St:=oS la lb mb fb ds a i j L (pM ai bj sz t)
def cX:kR w (.mat [.int ai,.int bj,.int sz]) (oS la lb mb fb ds a i j L []) K=(3=3/\wL (B4 w) (Ba w 29) (fP.2.drop 1) (cP la lb mb fb ds a i j ai bj sz L "") K):=by rfl'
def iP:í:=fP.2.getD 1 (.Pass AB)
def fB:í:=(C8 iP).getD 0 (.Pass AB)
def g4:í:=(C8 fB).getD 0 (.Pass AB)
def ZZ:wL (B4 w) (Ba w 29) (fP.2.drop 1) (cP la lb mb fb ds a i j ai bj sz L "") K=BI (decide (i<ai)) (BI (decide (j<bj)) (wL (B4 w) (Ba w 28) (Aa iP) (cP la lb mb fb ds a i j ai bj sz L "") (kx (B4 w) (Ba w 29) (fP.2.drop 2) K)) (wL (B4 w) (Ba w 28) (C8 iP) (cP la lb mb fb ds a i j ai bj sz L "") (kx (B4 w) (Ba w 29) (fP.2.drop 2) K)))
  (wL (B4 w) (Ba w 28) (C8 iP) (cP la lb mb fb ds a i j ai bj sz L "") (kx (B4 w) (Ba w 29) (fP.2.drop 2) K)):=by rfl'
def Zu:wL (B4 w) (Ba w 28) (C8 iP) (cP la lb mb fb ds a i j ai bj sz L "") K=BI (decide (i<ai)) (wL (B4 w) (Ba w 27) (Aa fB) (cP la lb mb fb ds a i j ai bj sz L "") (kx (B4 w) (Ba w 28) [] K)) (wL (B4 w) (Ba w 27) (C8 fB) (cP la lb mb fb ds a i j ai bj sz L "") (kx (B4 w) (Ba w 28) [] K)):=by rfl'
def aF:wL (B4 w) (Ba w 27) (C8 fB) (cP la lb mb fb ds a i j ai bj sz L "") K=BI (decide (j<bj)) (wL (B4 w) (Ba w 26) (Aa g4) (cP la lb mb fb ds a i j ai bj sz L "") (kx (B4 w) (Ba w 27) [] K)) (wL (B4 w) (Ba w 26) (C8 g4) (cP la lb mb fb ds a i j ai bj sz L "") (kx (B4 w) (Ba w 27) [] K)):=by rfl'
def MJ:(wL (B4 w) (Ba w 28) (Aa iP) (cP la lb mb fb ds a i j ai bj sz L "") K=K .next (cP la lb mb fb ds a i j ai bj sz L "replace")/\wL (B4 w) (Ba w 27) (Aa fB) (cP la lb mb fb ds a i j ai bj sz L "") K=K .next (cP la lb mb fb ds a i j ai bj sz L "delete"))/\
  wL (B4 w) (Ba w 26) (Aa g4) (cP la lb mb fb ds a i j ai bj sz L "") K=K .next (cP la lb mb fb ds a i j ai bj sz L "insert")/\wL (B4 w) (Ba w 26) (C8 g4) (cP la lb mb fb ds a i j ai bj sz L "") K=K .next (cP la lb mb fb ds a i j ai bj sz L ""):=⟨⟨by rfl',by rfl'⟩,by rfl',by rfl'⟩
abbrev Ow(t:Str)(i ai j bj:Int):AV:=.tup [.str t,.int i,.int ai,.int j,.int bj]
def VZ{t:Str}:wL (B4 w) (Ba w 29) (fP.2.drop 2) (cP la lb mb fb ds a i j ai bj sz L t) K=(t.length<1000000/\BI ((t.length:Int) != 0) (AC L.length/\wL (B4 w) (Ba w 29) (fP.2.drop 3) (cP la lb mb fb ds a i j ai bj sz (L++[Ow t i ai j bj]) t) K) (wL (B4 w) (Ba w 29) (fP.2.drop 3) (cP la lb mb fb ds a i j ai bj sz L t) K)):=by rfl'
def Zg{t:Str}:wL (B4 w) (Ba w 29) (fP.2.drop 3) (cP la lb mb fb ds a i j ai bj sz L t) K=(2=2/\BI (sz != 0) (AC L.length/\K .next (cP la lb mb fb ds a (ai+sz) (bj+sz) ai bj sz (L++[Ow "equal" ai (ai+sz) bj (bj+sz)]) t)) (K .next (cP la lb mb fb ds a (ai+sz) (bj+sz) ai bj sz L t))):=by rfl'
end
noncomputable def GX(i j:Nat)(b:Ab):List AV:=if i<b.1/\j<b.2.1 then [Ow "replace" (nI i) (nI b.1) (nI j) (nI b.2.1)]else if i<b.1 then [Ow "delete" (nI i) (nI b.1) (nI j) (nI b.2.1)]else if j<b.2.1 then [Ow "insert" (nI i) (nI b.1) (nI j) (nI b.2.1)]else []
noncomputable def K4(b:Ab):List AV:=if b.2.2=0 then []else [Ow "equal" (nI b.1) (nI (b.1+b.2.2)) (nI b.2.1) (nI (b.2.1+b.2.2))]
noncomputable def F3:Nat->Nat->List Ab->List AV
 | _,_,[]=>[]
 | i,j,b::r=>GX i j b++(K4 b++F3 (b.1+b.2.2) (b.2.1+b.2.2) r)
def Ix{i j:Nat}{b:Ab}:(GX i j b).length<=1:=by
 unfold GX
 split
 ·exact zX _
 ·split
  ·exact zX _
  ·split
   ·exact zX _
   ·exact Õ _
def N2{b:Ab}:(K4 b).length<=1:=by
 unfold K4
 split
 ·exact Õ _
 ·exact zX _
def HM{i j:Nat}{bl:List Ab}:subAll nn (F3 i j bl)=some (F3 i j bl):=by
 have ap :∀{l r:List AV},subAll nn l=some l->subAll nn r=some r->subAll nn (l++r)=some (l++r):=λ{l r} hl hr=>by
  induction l with
  | nil=>exact hr
  | cons a l ih=>
   obtain⟨a',e1,e⟩:=bind_some (show(a.sub nn).bind (λa=>(subAll nn l).map (a :: ·))=some (a::l)from hl)
   obtain⟨l',e2,e⟩:=map_some e
   cases e
   exact AW e1 (ih e2)
 induction bl generalizing i j with
 | nil=>rfl
 | cons b r ih=>
  refine ap ?_ (ap ?_ ih)
  ·unfold GX
   split
   ·rfl
   ·split
    ·rfl
    ·split<;>rfl
  ·unfold K4
   split<;>rfl
abbrev Gj(A B:List Int)(bs:List Ab):List Ab:=FR (0,0,0) bs++[(A.length,B.length,0)]
section
variable{w:Ì}{la lb:List Int}{mb fb:AV}{ds:List (AE×AV)}{a:É}{i j:Nat}{b:Ab}{L:List AV}{K:KS}
def BE{P:Pm}{S:WS}{r:List í}{K:KS}{σ:St}:kx P S r K .next σ=wL P S r σ K:=rfl
def Su(hL:L.length<=1000)(h :∀t,K .next (cP la lb mb fb ds a (nI (b.1+b.2.2)) (nI (b.2.1+b.2.2)) (nI b.1) (nI b.2.1) (nI b.2.2) (L++(GX i j b++K4 b)) t)) :
  kR w (GH b) (oS la lb mb fb ds a (nI i) (nI j) L []) K:=by
 refine cX.mpr ⟨rfl,?_⟩
 have fin :∀t,wL (B4 w) (Ba w 29) (fP.2.drop 3) (cP la lb mb fb ds a (nI i) (nI j) (nI b.1) (nI b.2.1) (nI b.2.2) (L++GX i j b) t) K:=λt=>by
  rw[Zg]
  have hz:AC (L++GX i j b).length:=zP (Â zU) (zP (Ė hL Ix) (by decide))
  have h:=h t
  rw[<-Ï]at h
  refine⟨rfl,Us (λhk=>⟨hz,?_⟩) λhk=>?_⟩
  ·rw[show K4 b=[Ow "equal" (nI b.1) (nI (b.1+b.2.2)) (nI b.2.1) (nI (b.2.1+b.2.2))]from if_neg (ń hk)]at h
   exact h
  ·rw[show K4 b=[]from if_pos hk,Ô]at h
   exact h
 have tg :∀t:Str,t.length<1000000->((t.length:Int) != 0)=true->GX i j b=[Ow t (nI i) (nI b.1) (nI j) (nI b.2.1)]->wL (B4 w) (Ba w 29) (fP.2.drop 2) (cP la lb mb fb ds a (nI i) (nI j) (nI b.1) (nI b.2.1) (nI b.2.2) L t) K:=λt h1 h2 e=>by
  rw[VZ,h2]
  exact⟨h1,zP hL (by decide),e▸fin t⟩
 have no:GX i j b=[]->wL (B4 w) (Ba w 29) (fP.2.drop 2) (cP la lb mb fb ds a (nI i) (nI j) (nI b.1) (nI b.2.1) (nI b.2.2) L "") K:=λe=>by
  rw[VZ]
  have q:=fin ""
  rw[e,Ô]at q
  exact⟨by decide,q⟩
 have el:¬ (nI i<nI b.1/\nI j<nI b.2.1)->wL (B4 w) (Ba w 28) (C8 iP) (cP la lb mb fb ds a (nI i) (nI j) (nI b.1) (nI b.2.1) (nI b.2.2) L "") (kx (B4 w) (Ba w 29) (fP.2.drop 2) K):=λhn=>by
  have hn':¬ (i<b.1/\j<b.2.1):=λz=>hn ⟨Ç.mpr z.1,Ç.mpr z.2⟩
  rw[Zu]
  refine Ew (λh1=>?_) λh1=>?_
  ·rw[MJ.1.2,BE,CM,BE]
   exact tg "delete" (by decide) (by decide) ((if_neg hn').trans (if_pos (Ç.mp h1)))
  ·have h1':¬ i<b.1:=λz=>h1 (Ç.mpr z)
   rw[aF]
   refine Ew (λh2=>?_) λh2=>?_
   ·rw[MJ.2.1,BE,CM,BE,CM,BE]
    exact tg "insert" (by decide) (by decide) ((if_neg hn').trans ((if_neg h1').trans (if_pos (Ç.mp h2))))
   ·rw[MJ.2.2,BE,CM,BE,CM,BE]
    exact no ((if_neg hn').trans ((if_neg h1').trans (if_neg λz=>h2 (Ç.mpr z))))
 show wL (B4 w) (Ba w 29) (fP.2.drop 1) (cP la lb mb fb ds a (nI i) (nI j) (nI b.1) (nI b.2.1) (nI b.2.2) L "") K
 rw[ZZ]
 refine Te (λh1=>?_) el
 rw[MJ.1.1,BE]
 exact tg "replace" (by decide) (by decide) (if_pos ⟨Ç.mp h1.1,Ç.mp h1.2⟩)
abbrev oF(la lb:List Int)(mb fb:AV)(ds:List (AE×AV))(a:É)(L:List AV):St:=⟨[("self",.ref 0),("answer",.lst L)],[(0,.inst aD (Bc (.lst (zs la)) (.lst (zs lb)) mb (.glo a) fb (.dct ds)))],1,1⟩
def wX(la lb:List Int)(mb fb:AV)(ds:List (AE×AV))(a:É)(bl:List Ab)(k:Nat)(σ:St):Prop:=
 (k<bl.length->∃i j L,σ=oS la lb mb fb ds a (nI i) (nI j) L []/\L.length<=2*k/\L++F3 i j (bl.drop k)=F3 0 0 bl)/\(k=bl.length->σ=oF la lb mb fb ds a (F3 0 0 bl))
def Mv{i j x y z:Int}{t:Str}:A0 (cP la lb mb fb ds a i j x y z L t) (oS la lb mb fb ds a i j L []):=
 .less (ρ:=(oS la lb mb fb ds a i j L []).ρ++pM x y z t) (λx v e=>CT e) λ_ _=>id
def Vl{i j:Int}(S:BO (.lst (zs la)) (.lst (zs lb)) mb (.glo a) fb (.dct ds))(hL:subAll nn L=some L):A0 (oS la lb mb fb ds a i j L []) (oF la lb mb fb ds a L):=
 .re [0] [(1,.lst L)] rfl rfl rfl rfl (BQ rfl rfl rfl (Ae hL) Br) (Ay rfl rfl (Ay rfl rfl BU)) (E9 rfl rfl (EN (congrArg (Ñ (AO.inst aD)) S.shut)) BS)
def dX:wL (B4 w) (Ba w 30) (Pq.drop 5) (oF la lb mb fb ds a L) K=K (.ret (.lst L)) (oF la lb mb fb ds a L):=by rfl'
def Ma :∀{bs:List Ab} {b:Ab},(FR b bs).length<=bs.length+1:=by
 intro bs
 induction bs with
 | nil=>intro b;obtain⟨i,j,k⟩:=b;unfold FR;split<;>simp
 | cons c r ih=>
  intro b
  obtain⟨i,j,k⟩:=b
  obtain⟨i2,j2,k2⟩:=c
  unfold FR
  split
  ·exact ð ih
  ·split
   ·exact ð ih
   ·exact ý ih
end
def Mn:Tr:=λas os Q=>∃(la lb:List Int) (mb fb:AV) (ds:List (AE×AV)),as=[.ref 0]/\os=[(aD,Bc (.lst (zs la)) (.lst (zs lb)) mb .none fb (.dct ds))]/\(BO (.lst (zs la)) (.lst (zs lb)) mb .none fb (.dct ds)/\BJ lb ds)/\MB la lb mb/\(la.length<=100000/\lb.length<=100000)/\
 ∀a bs,Ej la lb 0 la.length 0 lb.length bs->bs.length<64/\Q (.lst (F3 0 0 (Gj la lb bs))) [(aD,Bc (.lst (zs la)) (.lst (zs lb)) (.lst (EU bs la.length lb.length)) (.glo a) fb (.dct ds))]
def Xj{w:Ì}{d:Nat}:BW (lF w) (H1 w.params) (d+7) (.ref 210) Mn:=
 Ox (w1 YE) (Rp _).2.2 (Rp _).1 (Rp _).2.1 (ps:=["self"]) (by decide) (by rfl') (NG λa=>by rfl') λas os Q hh=>by
  obtain⟨la,lb,mb,fb,ds,ea,eo,⟨S,hB⟩,hmb,hz,hq⟩:=hh
  subst ea;subst eo
  refine⟨⟨rfl,CA S.shut⟩,oW.mpr λa=>?_⟩
  have S':BO (.lst (zs la)) (.lst (zs lb)) mb (.glo a) fb (.dct ds):=⟨S.a,S.b,S.mb,rfl,S.fb,S.b2j⟩
  refine Fn (D:=aD) (at_:=Bc (.lst (zs la)) (.lst (zs lb)) mb (.glo a) fb (.dct ds)) (as':=[.ref 0]) S'.shut rfl rfl ⟨la,lb,mb,.glo a,fb,ds,rfl,rfl,⟨S',hB⟩,hmb,hz,λbs r=>⟨(hq a bs r).1,?_⟩⟩
  have hb:=hq a bs r
  have hl:(Gj la lb bs).length<=65:=zP (Â zU) (ý (zP Ma hb.1))
  generalize hbl:Gj la lb bs=bl at hb hl
  have eo:EU bs la.length lb.length=bl.map GH:=hbl▸rfl
  rw[eo]at hb ⊢
  have hsh:subAll nn (bl.map GH)=some (bl.map GH):=Cq (λ_=>rfl) _
  have hmb':(AV.lst (bl.map GH)).sub nn=some (.lst (bl.map GH)):=Ae hsh
  have S2:BO (.lst (zs la)) (.lst (zs lb)) (.lst (bl.map GH)) (.glo a) fb (.dct ds):=⟨S.a,S.b,hmb',rfl,S.fb,S.b2j⟩
  have h0:0<bl.length:=hbl▸(zU (as:=FR (0,0,0) bs) (bs:=[(la.length,lb.length,0)])).symm▸Ň _
  refine⟨hsh,wX la lb (.lst (bl.map GH)) fb ds a bl,⟨_,.refl _,λ_=>⟨0,0,[],rfl,zX _,rfl⟩,λe=>absurd e (ß h0)⟩,λk σ v hv hI=>?_,λσ hI=>?_⟩
  ·obtain⟨b,e1,rfl⟩:=map_some ((Ð ..).symm.trans hv)
   have hk:=(zT.mp e1).1
   obtain⟨i,j,L,rfl,h1,h2⟩:=hI.1 hk
   have h3:L++(GX i j b++K4 b)++F3 (b.1+b.2.2) (b.2.1+b.2.2) (bl.drop (k+1))=F3 0 0 bl:=by
    rw[<-h2,è hk,(zT.mp e1).2]
    show L++(GX i j b++K4 b)++F3 _ _ _=L++(GX i j b++(K4 b++F3 _ _ _))
    rw[Ï,Ï]
   refine Su (zP h1 (by exists[_,_],0x3e89102c001180000419008,hl,hk)) λt=>(ú (Nat.succ_le_of_lt hk)).elim (λhlt=>⟨_,Mv,λ_=>⟨_,_,_,rfl,?_,h3⟩,λe=>absurd e (ß hlt)⟩) λhe=>?_
   ·have:=Ix (i:=i) (j:=j) (b:=b);have:=N2 (b:=b)
    rw[zU,zU];rename_i u8;exists[_,_,_,_],0x181a02c32a0a01830818208102c008,h1,u8,this
   ·rw[List.drop_eq_nil_of_le (Â he.symm),show F3 (b.1+b.2.2) (b.2.1+b.2.2) []=[]from rfl,Ô]at h3
    rw[h3]
    exact⟨_,Mv.trans (Vl S2 HM),λh=>absurd h (he▸ò _),λ_=>rfl⟩
  ·rw[z6]at hI
   obtain rfl:=hI.2 rfl
   rw[CM,BE,dX]
   exact DQ (fl:=.ret _) rfl (.refl _) rfl (Ae HM) S2.shut hb.2
def XX(s:í):Expr:=ĳ (motive_2:=λ_=>Expr) s (λ_ _ _ _ _ _ _ _ _ _=>(.Name ("":Str) AB)) (λ_ _ _ _ _ _ _ _ _ _=>(.Name ("":Str) AB)) (λ_ _ _ _ _ _ _ _ _ _ _=>(.Name ("":Str) AB)) (λo _=>o.getD (.Name ("":Str) AB)) (λ_ _=>(.Name ("":Str) AB)) (λ_ _ _=>(.Name ("":Str) AB)) (λ_ _ _ _ _ _ _=>(.Name ("":Str) AB)) (λ_ _ _ _=>(.Name ("":Str) AB)) (λ_ _ _ _ _=>(.Name ("":Str) AB)) (λ_ _ _ _ _=>(.Name ("":Str) AB)) (λ_ _ _ _ _=>(.Name ("":Str) AB)) (λ_ _ _ _=>(.Name ("":Str) AB)) (λ_ _ _ _=>(.Name ("":Str) AB)) (λ_ _ _=>(.Name ("":Str) AB)) (λ_ _ _=>(.Name ("":Str) AB)) (λ_ _ _=>(.Name ("":Str) AB)) (λ_ _ _=>(.Name ("":Str) AB)) (λ_ _ _ _ _=>(.Name ("":Str) AB)) (λ_ _ _ _ _=>(.Name ("":Str) AB)) (λ_ _ _=>(.Name ("":Str) AB)) (λ_ _=>(.Name ("":Str) AB)) (λ_ _ _ _=>(.Name ("":Str) AB)) (λ_ _=>(.Name ("":Str) AB)) (λ_ _=>(.Name ("":Str) AB)) (λ_ _=>(.Name ("":Str) AB)) (λ_=>(.Name ("":Str) AB)) (λ_=>(.Name ("":Str) AB)) (λ_=>(.Name ("":Str) AB))
noncomputable def GD(e:Expr):List Expr:=Expr.casesOn (motive_1:=λ_=>List Expr) e (λ_ _ _=>[]) (λ_ _ _=>[]) (λ_ _ _ _=>[]) (λ_ _ _=>[]) (λ_ _ _ _=>[]) (λ_ _ _ _=>[]) (λ_ _ _=>[]) (λ_ _ _=>[]) (λ_ _ _ _=>[]) (λ_ _ _ _=>[]) (λ_ _ _ _ _=>[]) (λ_ _ _ _=>[]) (λ_ _=>[]) (λ_ _=>[]) (λ_ _=>[]) (λ_ _ _ _=>[]) (λ_ _ _ _=>[]) (λ_ _ _ _=>[]) (λ_ _=>[]) (λ_ _ _=>[]) (λ_ _ _=>[]) (λ_ _ _=>[]) (λ_ _=>[]) (λ_ _=>[]) (λ_ _=>[]) (λes _ _=>es) (λ_ _ _ _=>[])
noncomputable def Eh(e:Expr):Expr×Expr:=Expr.casesOn (motive_1:=λ_=>Expr×Expr) e (λ_ _ _=>(e,e)) (λ_ _ _=>(e,e)) (λa _ b _=>(a,b)) (λ_ _ _=>(e,e)) (λ_ _ _ _=>(e,e)) (λ_ _ _ _=>(e,e)) (λ_ _ _=>(e,e)) (λ_ _ _=>(e,e)) (λ_ _ _ _=>(e,e)) (λ_ _ _ _=>(e,e)) (λ_ _ _ _ _=>(e,e)) (λ_ _ _ _=>(e,e)) (λ_ _=>(e,e)) (λ_ _=>(e,e)) (λ_ _=>(e,e)) (λ_ _ _ _=>(e,e)) (λ_ _ _ _=>(e,e)) (λ_ _ _ _=>(e,e)) (λ_ _=>(e,e)) (λ_ _ _=>(e,e)) (λ_ _ _=>(e,e)) (λ_ _ _=>(e,e)) (λ_ _=>(e,e)) (λ_ _=>(e,e)) (λ_ _=>(e,e)) (λ_ _ _=>(e,e)) (λ_ _ _ _=>(e,e))
noncomputable def FG(e:Expr):Expr×List à×Scope:=Expr.casesOn (motive_1:=λ_=>Expr×List à×Scope) e (λ_ _ _=>(e,[],⟨.module,[],false,false,[]⟩)) (λ_ _ _=>(e,[],⟨.module,[],false,false,[]⟩)) (λ_ _ _ _=>(e,[],⟨.module,[],false,false,[]⟩)) (λ_ _ _=>(e,[],⟨.module,[],false,false,[]⟩)) (λ_ _ _ _=>(e,[],⟨.module,[],false,false,[]⟩)) (λ_ _ _ _=>(e,[],⟨.module,[],false,false,[]⟩)) (λ_ _ _=>(e,[],⟨.module,[],false,false,[]⟩)) (λ_ _ _=>(e,[],⟨.module,[],false,false,[]⟩)) (λx g c _=>(x,g,c)) (λ_ _ _ _=>(e,[],⟨.module,[],false,false,[]⟩)) (λ_ _ _ _ _=>(e,[],⟨.module,[],false,false,[]⟩)) (λ_ _ _ _=>(e,[],⟨.module,[],false,false,[]⟩)) (λ_ _=>(e,[],⟨.module,[],false,false,[]⟩)) (λ_ _=>(e,[],⟨.module,[],false,false,[]⟩)) (λ_ _=>(e,[],⟨.module,[],false,false,[]⟩)) (λ_ _ _ _=>(e,[],⟨.module,[],false,false,[]⟩)) (λ_ _ _ _=>(e,[],⟨.module,[],false,false,[]⟩)) (λ_ _ _ _=>(e,[],⟨.module,[],false,false,[]⟩)) (λ_ _=>(e,[],⟨.module,[],false,false,[]⟩)) (λ_ _ _=>(e,[],⟨.module,[],false,false,[]⟩)) (λ_ _ _=>(e,[],⟨.module,[],false,false,[]⟩)) (λ_ _ _=>(e,[],⟨.module,[],false,false,[]⟩)) (λ_ _=>(e,[],⟨.module,[],false,false,[]⟩)) (λ_ _=>(e,[],⟨.module,[],false,false,[]⟩)) (λ_ _=>(e,[],⟨.module,[],false,false,[]⟩)) (λ_ _ _=>(e,[],⟨.module,[],false,false,[]⟩)) (λ_ _ _ _=>(e,[],⟨.module,[],false,false,[]⟩))
noncomputable def dR(e:Expr):(Expr×Expr)×List à×Scope:=Expr.casesOn (motive_1:=λ_=>(Expr×Expr)×List à×Scope) e (λ_ _ _=>((e,e),[],⟨.module,[],false,false,[]⟩)) (λ_ _ _=>((e,e),[],⟨.module,[],false,false,[]⟩)) (λ_ _ _ _=>((e,e),[],⟨.module,[],false,false,[]⟩)) (λ_ _ _=>((e,e),[],⟨.module,[],false,false,[]⟩)) (λ_ _ _ _=>((e,e),[],⟨.module,[],false,false,[]⟩)) (λ_ _ _ _=>((e,e),[],⟨.module,[],false,false,[]⟩)) (λ_ _ _=>((e,e),[],⟨.module,[],false,false,[]⟩)) (λ_ _ _=>((e,e),[],⟨.module,[],false,false,[]⟩)) (λ_ _ _ _=>((e,e),[],⟨.module,[],false,false,[]⟩)) (λ_ _ _ _=>((e,e),[],⟨.module,[],false,false,[]⟩)) (λk v g s _=>((k,v),g,s)) (λ_ _ _ _=>((e,e),[],⟨.module,[],false,false,[]⟩)) (λ_ _=>((e,e),[],⟨.module,[],false,false,[]⟩)) (λ_ _=>((e,e),[],⟨.module,[],false,false,[]⟩)) (λ_ _=>((e,e),[],⟨.module,[],false,false,[]⟩)) (λ_ _ _ _=>((e,e),[],⟨.module,[],false,false,[]⟩)) (λ_ _ _ _=>((e,e),[],⟨.module,[],false,false,[]⟩)) (λ_ _ _ _=>((e,e),[],⟨.module,[],false,false,[]⟩)) (λ_ _=>((e,e),[],⟨.module,[],false,false,[]⟩)) (λ_ _ _=>((e,e),[],⟨.module,[],false,false,[]⟩)) (λ_ _ _=>((e,e),[],⟨.module,[],false,false,[]⟩)) (λ_ _ _=>((e,e),[],⟨.module,[],false,false,[]⟩)) (λ_ _=>((e,e),[],⟨.module,[],false,false,[]⟩)) (λ_ _=>((e,e),[],⟨.module,[],false,false,[]⟩)) (λ_ _=>((e,e),[],⟨.module,[],false,false,[]⟩)) (λ_ _ _=>((e,e),[],⟨.module,[],false,false,[]⟩)) (λ_ _ _ _=>((e,e),[],⟨.module,[],false,false,[]⟩))
abbrev CL:=Expr×List à×Scope
def Yj:à:=⟨.Name ("":Str) AB,.Name ("":Str) AB,[],0⟩
def Ce(P:Pm)(f:Nat)(sc:Scope)(q:CL)(n:Nat):AV->St->(St->Prop)->Prop:=DT (F2 P f (BN q.2.2 sc)) (q.2.1.getD 0 Yj) (Ka P (BN q.2.2 sc) (F2 P f (BN q.2.2 sc)) (LC q.1 (F2 P f (BN q.2.2 sc)) n) (q.2.1.drop 1))
def OL{β:Type}{l:List (Nat×β)}{x:Nat}{u v:β}:AP (AP l x u) x v=AP l x v:=
 Ä (motive:=λl=>AP (AP l x u) x v=AP l x v) (show(bif x==x then(x,v)::[]else _)=_ by rw[beq_self_eq_true];rfl) (λp r ih=>by
  show AP (bif p.1==x then(p.1,u)::r else p::AP r x u) x v=bif p.1==x then(p.1,v)::r else p::AP r x v
  cases h:p.1==x with
  | true=>exact(congrArg (λb:Bool=>bif b then(p.1,v)::r else(p.1,u)::AP r x v) h).trans rfl
  | false=>exact(congrArg (λb:Bool=>bif b then(p.1,v)::AP r x u else p::AP (AP r x u) x v) h).trans (congrArg (p :: ·) ih)) l
def CD{ρ:List (Str×AV)}{H:List (Nat×AO)}{n m a:Nat}{u:AV}{L:List AV}{K:St->Prop}(hz:L.length<=1000000)(q:K ⟨ρ,AP H n (.list (L++[u])),m,a⟩):Am .append [.ref n,u] ⟨ρ,AP H n (.list L),m,a⟩ λ_ τ=>K τ:=by
 show A9 (Ñ (n,·) ((AP H n (.list L)).lookup n)) λp=>A9 p.2.lst λvs=>AC vs.length/\K ((⟨ρ,AP H n (.list L),m,a⟩:St).set p.1 (.list (vs++[u])))
 rw[Dp]
 refine⟨hz,?_⟩
 show K ⟨ρ,AP (AP H n (.list L)) n (.list (L++[u])),m,a⟩
 rw[OL];exact q
def Df{items:List AV}{tn:AV->St->(St->Prop)->Prop}{xs:List Str}{ρ₀:List (Str×AV)}{H:List (Nat×AO)}{n a:Nat}{Q:AV->St->Prop}(F:Nat->List AV)(I:List (Str×AV)->Prop)(h0:I (pick ρ₀ xs))(hs :∀ρ H' n',I ρ->F1 ⟨ρ,H',n',a⟩ ⟨ρ₀,H,n,a⟩ xs)
  (hl:items.length<=1000000) (hF :∀k,(F k).length<=1)
  (ht :∀k v,items[k]?=some v->∀ρ L (K:St->Prop),I ρ->L.length<=1000000->(∀ρ',I ρ'->K ⟨ρ',AP H n (.list (L++F k)),n+1,a⟩)->tn v ⟨ρ,AP H n (.list L),n+1,a⟩ K)
  (q:Q (.ref n) ⟨ρ₀,AP H n (.list ((Ë items.length).flatMap F)),n+1,a⟩):Aj (.list []) items tn xs ⟨ρ₀,H,n,a⟩ Q:=by
 have len :∀k,((Ë k).flatMap F).length<=k:=λk=>by
  induction k with
  | zero=>exact zX _
  | succ k ih=>rw[ľ,Ś,zU,aC4];exact Ė ih (hF k)
 refine⟨λk τ=>∃ρ,I ρ/\τ=⟨ρ,AP H n (.list ((Ë k).flatMap F)),n+1,a⟩,⟨_,h0,rfl⟩,λk v τ hv hJ=>?_,λτ hJ=>?_⟩
 ·obtain⟨ρ,hI,rfl⟩:=hJ
  refine ht k v hv ρ _ _ hI (zP (len k) (zP (Û (zT.mp hv).1) hl)) λρ' hI'=>⟨ρ',hI',?_⟩
  rw[ľ,Ś,aC4]
 ·obtain⟨ρ,hI,rfl⟩:=hJ
  exact⟨hs _ _ _ hI,q⟩
def C1:List í:=(CH pw.main.body "_law_deed").1
def DY:Scope:=(CH pw.main.body "_law_deed").2
def SF(P:Ó):(CV P 251).body = .stmts C1/\(CV P 251).scope=DY/\BF P 251=true:=⟨by rfl',by rfl',by rfl'⟩
noncomputable def ZF:Pos->Bool:=λ_=>true
abbrev pD(w:Ì):Pm:=Ij w.params (λ_=>none) none false false ZF QN
abbrev SD(w:Ì)(f:Nat):WS:=Fo (pD w) DY f
abbrev gY(a b:Int):Prop:=ģ a b=false
abbrev dS(x2 made kd at_ two AR:Int)(tx:List Int)(tl hd:List AV)(r:List (Str×AV)):St:=⟨("x",.int x2)::("text",.lst (zs tx))::("made",.int made)::("kind",.int kd)::("at",.int at_)::("two",.int two)::("one",.int AR)::("tail",.lst tl)::("head",.lst hd)::r,[],0,0⟩
def kS(n:Nat):í:=C1.getD n (.Pass AB)
def gP(s:í):Expr:=(GD (XX s)).getD 0 (.Name ("":Str) AB)
def ZI:CL:=FG (Eh (Eh (gP ((Aa (kS 4)).getD 0 (.Pass AB)))).1).2
section
variable{w:Ì}{x x2 made kd at_ two AR n:Int}{tx:List Int}{tl hd M:List AV}{r:List (Str×AV)}{K:KS}
def iU:wL (pD w) (SD w 30) C1 (A4 [("x",.int x),("text",.lst (zs tx)),("made",.int made)] []) K =
  ((6:Int)≠0/\(6:Int)≠0/\gY x 6/\2=2/\AC (zs tx).length/\((zs tx).length:Int)+1≠0/\AC (zs tx).length/\((zs tx).length:Int)+1≠0/\gY (x.fdiv 6) (((zs tx).length:Int)+1)/\2=2/\(4:Int)≠0/\(4:Int)≠0/\gY ((x.fdiv 6).fdiv (((zs tx).length:Int)+1)) 4/\(4:Int)≠0/\2=2/\
   (none:Option Int)≠some 0/\AC (zs tx).length/\(none:Option Int)≠some 0/\AC (zs tx).length/\2=2/\
   wL (pD w) (SD w 30) (C1.drop 4) (dS ((x.fdiv 6).fdiv (((zs tx).length:Int)+1)) made (x.fmod 6) ((x.fdiv 6).fmod (((zs tx).length:Int)+1)) (1+(((x.fdiv 6).fdiv (((zs tx).length:Int)+1)).fdiv 4).fmod 4) (1+((x.fdiv 6).fdiv (((zs tx).length:Int)+1)).fmod 4) tx
    (Ad (zs tx) (some ((x.fdiv 6).fmod (((zs tx).length:Int)+1))) none none) (Ad (zs tx) none (some ((x.fdiv 6).fmod (((zs tx).length:Int)+1))) none) []) K):=by rfl'
def KZ:(wL (pD w) (SD w 30) (C1.drop 4) (dS x2 made kd at_ two AR tx tl hd []) K=BI (decide (AE.int kd=AE.int 0)) (wL (pD w) (SD w 29) (Aa (kS 4)) (dS x2 made kd at_ two AR tx tl hd []) (kx (pD w) (SD w 30) (C1.drop 5) K)) (wL (pD w) (SD w 30) (C1.drop 5) (dS x2 made kd at_ two AR tx tl hd []) K)/\
  wL (pD w) (SD w 30) (C1.drop 5) (dS x2 made kd at_ two AR tx tl hd []) K=BI (decide (AE.int kd=AE.int 1)) (wL (pD w) (SD w 29) (Aa (kS 5)) (dS x2 made kd at_ two AR tx tl hd []) (kx (pD w) (SD w 30) (C1.drop 6) K)) (wL (pD w) (SD w 30) (C1.drop 6) (dS x2 made kd at_ two AR tx tl hd []) K))/\
  (wL (pD w) (SD w 30) (C1.drop 6) (dS x2 made kd at_ two AR tx tl hd []) K=BI (decide (AE.int kd=AE.int 2)) (wL (pD w) (SD w 29) (Aa (kS 6)) (dS x2 made kd at_ two AR tx tl hd []) (kx (pD w) (SD w 30) (C1.drop 7) K)) (wL (pD w) (SD w 30) (C1.drop 7) (dS x2 made kd at_ two AR tx tl hd []) K)/\
  wL (pD w) (SD w 30) (C1.drop 7) (dS x2 made kd at_ two AR tx tl hd []) K=BI (decide (AE.int kd=AE.int 3)) (wL (pD w) (SD w 29) (Aa (kS 7)) (dS x2 made kd at_ two AR tx tl hd []) (kx (pD w) (SD w 30) (C1.drop 8) K)) (wL (pD w) (SD w 30) (C1.drop 8) (dS x2 made kd at_ two AR tx tl hd []) K))/\
  wL (pD w) (SD w 30) (C1.drop 8) (dS x2 made kd at_ two AR tx tl hd []) K=BI (decide (AE.int kd=AE.int 5)) (wL (pD w) (SD w 29) (Aa (kS 8)) (dS x2 made kd at_ two AR tx tl hd []) (kx (pD w) (SD w 30) (C1.drop 9) K)) (wL (pD w) (SD w 30) (C1.drop 9) (dS x2 made kd at_ two AR tx tl hd []) K):=⟨⟨by rfl',by rfl'⟩,⟨by rfl',by rfl'⟩,by rfl'⟩
abbrev Q0(w:Ì)(hd:List AV)(K:KS):AV->St->Prop:=λb σ=>ET .Add (.lst hd) b σ λa σ=>(ws (pD w) DY 26).E (Eh (gP ((Aa (kS 4)).getD 0 (.Pass AB)))).2 σ λb σ=>ET .Add a b σ λv σ=>Hm (ws (pD w) DY 27).E ((GD (XX ((Aa (kS 4)).getD 0 (.Pass AB)))).drop 1) σ λvs σ=>K (.ret (.tup (v::vs))) σ
def d0:wL (pD w) (SD w 29) (Aa (kS 4)) (dS x2 made kd at_ two AR tx tl hd []) K=(AC (zs tx).length/\Au 0 (min AR (16-((zs tx).length:Int)))/\Aj (.list []) (Ao 0 (min AR (16-((zs tx).length:Int))-0).toNat) (Ce (pD w) 24 DY ZI 0) (Ah ZI.2.2) (dS x2 made kd at_ two AR tx tl hd []) (Q0 w hd K)):=by rfl'
def sR{k:Int}{ρ:List (Str×AV)}{H:List (Nat×AO)}{m a:Nat}{R:St->Prop}:Ce (pD w) 24 DY ZI 0 (.int k) ⟨[("made",.int made)],H,m,a⟩ R=Am .append [.ref 0,.int (made+k)] ⟨[("made",.int made),("k",.int k)],H,m,a⟩ λ_ τ=>R τ:=by rfl'
def uP{k l:Int}{ρ:List (Str×AV)}{H:List (Nat×AO)}{m a:Nat}{R:St->Prop}:Ce (pD w) 24 DY ZI 0 (.int k) ⟨[("made",.int made),("k",.int l)],H,m,a⟩ R=Am .append [.ref 0,.int (made+k)] ⟨[("made",.int made),("k",.int k)],H,m,a⟩ λ_ τ=>R τ:=by rfl'
def uI:Q0 w hd K (.ref 0) ⟨(dS x2 made kd at_ two AR tx tl hd []).ρ,[(0,.list M)],1,0⟩=(AC (hd.length+M.length)/\AC ((hd++M).length+tl.length)/\K (.ret (.tup [.lst (hd++M++tl),.lst [],.lst []])) ⟨(dS x2 made kd at_ two AR tx tl hd []).ρ,[(0,.list M)],1,0⟩):=by rfl'
def d1:wL (pD w) (SD w 29) (Aa (kS 5)) (dS x2 made kd at_ two AR tx tl hd []) K=((none:Option Int)≠some 0/\AC tl.length/\AC (hd.length+(Ad tl (some AR) none none).length)/\K (.ret (.tup [.lst (hd++Ad tl (some AR) none none),.lst [],.lst []])) (dS x2 made kd at_ two AR tx tl hd [])):=by rfl'
end
def ZD:CL:=FG (Eh (Eh (gP ((Aa (kS 8)).getD 1 (.Pass AB)))).1).2
def Yk:CL:=FG (D5 (kS 9))
abbrev MX:Prop:=(none:Option Int)≠some 0
section
variable{w:Ì}{x x2 made kd at_ two AR n:Int}{tx:List Int}{tl hd M p q rs:List AV}{th bk:AV}{r:List (Str×AV)}{K:KS}
def d2:wL (pD w) (SD w 29) (Aa (kS 6)) (dS x2 made kd at_ two AR tx tl hd []) K=(MX/\AC tl.length/\MX/\AC tl.length/\2=2/\wL (pD w) (SD w 29) ((Aa (kS 6)).drop 1) (dS x2 made kd at_ two AR tx tl hd [("q",.lst (Ad tl (some AR) (some (AR+two)) none)),("p",.lst (Ad tl none (some AR) none))]) K):=by rfl'
def wR:wL (pD w) (SD w 29) ((Aa (kS 6)).drop 1) (dS x2 made kd at_ two AR tx tl hd [("q",.lst q),("p",.lst p)]) K=(AC p.length/\AC q.length/\BI (decide ((q.length:Int)<=(p.length:Int))) (wL (pD w) (SD w 29) ((Aa (kS 6)).drop 2) (dS x2 made kd at_ two AR tx tl hd [("q",.lst q),("p",.lst p),("there",.lst q)]) K) (wL (pD w) (SD w 29) ((Aa (kS 6)).drop 2) (dS x2 made kd at_ two AR tx tl hd [("q",.lst q),("p",.lst p),("there",.lst p)]) K)):=by rfl'
def r9:wL (pD w) (SD w 29) ((Aa (kS 6)).drop 2) (dS x2 made kd at_ two AR tx tl hd [("q",.lst q),("p",.lst p),("there",th)]) K=(AC q.length/\AC p.length/\BI (decide ((p.length:Int)<=(q.length:Int))) (wL (pD w) (SD w 29) ((Aa (kS 6)).drop 3) (dS x2 made kd at_ two AR tx tl hd [("q",.lst q),("p",.lst p),("there",th),("back",.lst p)]) K) (wL (pD w) (SD w 29) ((Aa (kS 6)).drop 3) (dS x2 made kd at_ two AR tx tl hd [("q",.lst q),("p",.lst p),("there",th),("back",.lst q)]) K)):=by rfl'
def u9:wL (pD w) (SD w 29) ((Aa (kS 6)).drop 3) (dS x2 made kd at_ two AR tx tl hd [("q",.lst q),("p",.lst p),("there",th),("back",bk)]) K=(AC (hd.length+q.length)/\AC ((hd++q).length+p.length)/\MX/\AC tl.length/\AC ((hd++q++p).length+(Ad tl (some (AR+two)) none none).length)/\
  K (.ret (.tup [.lst (hd++q++p++Ad tl (some (AR+two)) none none),th,bk])) (dS x2 made kd at_ two AR tx tl hd [("q",.lst q),("p",.lst p),("there",th),("back",bk)])):=by rfl'
def d3:wL (pD w) (SD w 29) (Aa (kS 7)) (dS x2 made kd at_ two AR tx tl hd []) K=(MX/\AC tl.length/\wL (pD w) (SD w 29) ((Aa (kS 7)).drop 1) (dS x2 made kd at_ two AR tx tl hd [("turned",.lst (Ad tl none (some (AR+two)) none))]) K):=by rfl'
def u6:wL (pD w) (SD w 29) ((Aa (kS 7)).drop 1) (dS x2 made kd at_ two AR tx tl hd [("turned",.lst p)]) K=(some (-1:Int)≠some 0/\AC p.length/\AC (hd.length+(Ad p none none (some (-1))).length)/\MX/\AC tl.length/\AC ((hd++Ad p none none (some (-1))).length+(Ad tl (some (AR+two)) none none).length)/\MX/\AC p.length/\MX/\AC p.length/\
  K (.ret (.tup [.lst (hd++Ad p none none (some (-1))++Ad tl (some (AR+two)) none none),.lst (Ad p (some 1) none none),.lst (Ad p none (some (-1)) none)])) (dS x2 made kd at_ two AR tx tl hd [("turned",.lst p)])):=by rfl'
def d5:wL (pD w) (SD w 29) (Aa (kS 8)) (dS x2 made kd at_ two AR tx tl hd []) K=(MX/\AC tl.length/\wL (pD w) (SD w 29) ((Aa (kS 8)).drop 1) (dS x2 made kd at_ two AR tx tl hd [("rest",.lst (Ad tl (some AR) none none))]) K):=by rfl'
abbrev Q5(w:Ì)(hd:List AV)(K:KS):AV->St->Prop:=λb σ=>ET .Add (.lst hd) b σ λa σ=>(ws (pD w) DY 26).E (Eh (gP ((Aa (kS 8)).getD 1 (.Pass AB)))).2 σ λb σ=>ET .Add a b σ λv σ=>Hm (ws (pD w) DY 27).E ((GD (XX ((Aa (kS 8)).getD 1 (.Pass AB)))).drop 1) σ λvs σ=>K (.ret (.tup (v::vs))) σ
def vF:wL (pD w) (SD w 29) ((Aa (kS 8)).drop 1) (dS x2 made kd at_ two AR tx tl hd [("rest",.lst rs)]) K=(AC (hd.length+rs.length)/\AC (hd++rs).length/\Au 0 (min two (16-((hd++rs).length:Int)))/\Aj (.list []) (Ao 0 (min two (16-((hd++rs).length:Int))-0).toNat) (Ce (pD w) 24 DY ZD 0) (Ah ZD.2.2) (dS x2 made kd at_ two AR tx tl hd [("rest",.lst rs)]) (Q5 w hd K)):=by rfl'
def xY{k:Int}{H:List (Nat×AO)}{m a:Nat}{R:St->Prop}:Ce (pD w) 24 DY ZD 0 (.int k) ⟨[("made",.int made)],H,m,a⟩ R=Am .append [.ref 0,.int (made+k)] ⟨[("made",.int made),("k",.int k)],H,m,a⟩ λ_ τ=>R τ:=by rfl'
def r5{k l:Int}{H:List (Nat×AO)}{m a:Nat}{R:St->Prop}:Ce (pD w) 24 DY ZD 0 (.int k) ⟨[("made",.int made),("k",.int l)],H,m,a⟩ R=Am .append [.ref 0,.int (made+k)] ⟨[("made",.int made),("k",.int k)],H,m,a⟩ λ_ τ=>R τ:=by rfl'
def tP:Q5 w hd K (.ref 0) ⟨(dS x2 made kd at_ two AR tx tl hd [("rest",.lst rs)]).ρ,[(0,.list M)],1,0⟩=(AC (hd.length+M.length)/\AC ((hd++M).length+rs.length)/\K (.ret (.tup [.lst (hd++M++rs),.lst [],.lst []])) ⟨(dS x2 made kd at_ two AR tx tl hd [("rest",.lst rs)]).ρ,[(0,.list M)],1,0⟩):=by rfl'
def d4:wL (pD w) (SD w 30) (C1.drop 9) (dS x2 made kd at_ two AR tx tl hd []) K=(Au 0 made/\Aj (.list []) (Ao 0 (made-0).toNat) (Ce (pD w) 28 DY Yk 0) (Ah Yk.2.2) (dS x2 made kd at_ two AR tx tl hd []) λv σ=>As (ws (pD w) DY 29).A (Ax (kS 9)) v σ λσ=>wL (pD w) (SD w 30) (C1.drop 10) σ K):=by rfl'
def yM{R:St->Prop}:As (ws (pD w) DY 29).A (Ax (kS 9)) (.ref 0) ⟨(dS x2 made kd at_ two AR tx tl hd []).ρ,[(0,.list M)],1,0⟩ R=R ⟨(dS x2 made kd at_ two AR tx tl hd [("out",.ref 0)]).ρ,[(0,.list M)],1,0⟩:=by rfl'
def xA{k:Int}{H:List (Nat×AO)}{m a:Nat}{R:St->Prop}:Ce (pD w) 28 DY Yk 0 (.int k) ⟨[("text",.lst (zs tx))],H,m,a⟩ R=A9 (BY (zs tx)) λks=>BI (!decide (AE.int k∈ks)) (Am .append [.ref 0,.int k] ⟨[("text",.lst (zs tx)),("line",.int k)],H,m,a⟩ λ_ τ=>R τ) (R ⟨[("text",.lst (zs tx)),("line",.int k)],H,m,a⟩):=by rfl'
def sJ{k l:Int}{H:List (Nat×AO)}{m a:Nat}{R:St->Prop}:Ce (pD w) 28 DY Yk 0 (.int k) ⟨[("text",.lst (zs tx)),("line",.int l)],H,m,a⟩ R=A9 (BY (zs tx)) λks=>BI (!decide (AE.int k∈ks)) (Am .append [.ref 0,.int k] ⟨[("text",.lst (zs tx)),("line",.int k)],H,m,a⟩ λ_ τ=>R τ) (R ⟨[("text",.lst (zs tx)),("line",.int k)],H,m,a⟩):=by rfl'
def xI:wL (pD w) (SD w 30) (C1.drop 10) ⟨(dS x2 made kd at_ two AR tx tl hd [("out",.ref 0)]).ρ,[(0,.list M)],1,0⟩ K=((16:Int)≠0/\gY x2 16/\AC M.length/\(M.length:Int)+1≠0/\wL (pD w) (SD w 30) (C1.drop 11) ⟨(dS x2 made kd at_ two AR tx tl hd [("out",.ref 0),("first",.int ((x2.fdiv 16).fmod ((M.length:Int)+1)))]).ρ,[(0,.list M)],1,0⟩ K):=by rfl'
def v4:wL (pD w) (SD w 30) (C1.drop 11) ⟨(dS x2 made kd at_ two AR tx tl hd [("out",.ref 0),("first",.int n)]).ρ,[(0,.list M)],1,0⟩ K=(AC (zs tx).length/\MX/\AC M.length/\AC (hd.length+(Ad M (some n) (some (n+min AR (16-((zs tx).length:Int)))) none).length)/\AC ((hd++Ad M (some n) (some (n+min AR (16-((zs tx).length:Int)))) none).length+tl.length)/\
  K (.ret (.tup [.lst (hd++Ad M (some n) (some (n+min AR (16-((zs tx).length:Int)))) none++tl),.lst [],.lst []])) ⟨(dS x2 made kd at_ two AR tx tl hd [("out",.ref 0),("first",.int n)]).ρ,[(0,.list M)],1,0⟩):=by rfl'
end
theorem Jb{α:Type}(vs:List α)(a:Nat) :∀n,((Ë n).filterMap λk=>vs[a+k]?)=(vs.drop a).take n
 | 0=>rfl
 | n+1=>by
  rw[ľ,Ŭ,Jb vs a n,ĺ,Ŧ]
  congr 1
def EI{α:Type}(vs:List α)(a b:Nat):(sliceRange (a:Int) (b:Int) 1).filterMap (vs[·]?)=(vs.drop a).take (b-a):=by
 unfold sliceRange
 simp only[show((1:Int)>0)=True from by simp,if_true]
 have e:((if(a:Int)<(b:Int)then((b:Int)-(a:Int)+1-1) / 1 else 0).toNat)=b-a:=by
  split
  ·rw[aL7];exists[_,_,_],0x21b0208181820f10fbabe00f58,(Ý _)
  ·rename_i u0;exists[_,_,_],0x1b220808e20f5810f00f498,u0,(Ý _)
 rw[e,List.filterMap_map,<-Jb]
 congr 1
 funext k
 show vs[((a:Int)+1*(k:Int)).toNat]?=_
 congr 1
 exists[_,_,_],0x21a020820f01c10fae00f58,(Ý _)
def Bj{α:Type}(vs:List α)(k:Nat):Ad vs (some (k:Int)) none none=vs.drop k:=by
 unfold Ad sliceBounds
 simp only[aH8,show((1:Int)>0)=True from by simp,if_true,show ¬ ((k:Int)<0)by(exists[_],0x800f49),if_false]
 have e:max (0:Int) (min (k:Int) (vs.length:Int))=((min k vs.length:Nat):Int):=by exists[_,_],0x10d0f10f00fd08e5
 rw[e,EI]
 by_cases h:k<=vs.length
 ·rw[aE1 h,Ţ (by rw[ë];exact zX _)]
 ·rw[aH1 (by exists[_,_],0x1010098,h),aD5,Ń (by exists[_,_],0x1010098,h)]
  simp
def Cu{α:Type}(vs:List α)(k:Nat):Ad vs none (some (k:Int)) none=vs.take k:=by
 unfold Ad sliceBounds
 simp only[aH8,show((1:Int)>0)=True from by simp,if_true,show ¬ ((k:Int)<0)by(exists[_],0x800f49),if_false]
 have e:max (0:Int) (min (k:Int) (vs.length:Int))=((min k vs.length:Nat):Int):=by exists[_,_],0x10d0f10f00fd08e5
 rw[e]
 have:=EI vs 0 (min k vs.length)
 rw[show((0:Nat):Int)=0 from rfl]at this
 rw[this]
 simp
def Dm{α:Type}(vs:List α)(j k:Nat):Ad vs (some (j:Int)) (some (k:Int)) none=(vs.take k).drop j:=by
 unfold Ad sliceBounds
 simp only[aH8,show((1:Int)>0)=True from by simp,if_true,show ¬ ((k:Int)<0)by(exists[_],0x800f49),show ¬ ((j:Int)<0)by(exists[_],0x800f49),if_false]
 have e:max (0:Int) (min (k:Int) (vs.length:Int))=((min k vs.length:Nat):Int):=by exists[_,_],0x10d0f10f00fd08e5
 have e':max (0:Int) (min (j:Int) (vs.length:Int))=((min j vs.length:Nat):Int):=by exists[_,_],0x10d0f10f00fd08e5
 rw[e,e',EI]
 apply List.ext_getElem?
 intro i
 rw[aA8,Ŧ,Ŧ,aA8]
 by_cases h:j<=vs.length
 ·rw[aE1 h]
  by_cases q:j+i<k
  ·rw[if_pos q]
   split
   ·rfl
   ·rw[Ā];rename_i u0;exists[_,_,_,_],0x10a30032db1198210a18,q,u0
  ·rw[if_neg q,if_neg (by exists[_,_,_,_],0x32db119210a198,q)]
 ·rw[aH1 (Nat.le_of_not_le h)]
  have:vs[j+i]?=none:=Ā (by exists[_,_,_],0x20a1010098,h)
  rw[this]
  have:vs[vs.length+i]?=none:=Ā (by exists[_,_],0x10a00)
  rw[this]
  split<;>split<;>rfl
def O9{α:Type}(vs:List α):Ad vs none none (some (-1))=vs.reverse:=by
 have go :∀m,m<=vs.length->((Ë m).filterMap λk=>vs[vs.length-1-k]?)=(vs.drop (vs.length-m)).reverse:=λm=>by
  induction m with
  | zero=>intro _;simp
  | succ m ih=>
   intro hm
   have h1:vs.length-1-m<vs.length:=by exists[_,_],0x10181bb11180a08,hm
   rw[ľ,Ŭ,ih (by exists[_,_],0x1001180a08,hm),show vs.length-(m+1)=vs.length-1-m by(exists[_,_],0x1180bb181a0b2),è h1,ġ,show vs.length-1-m+1=vs.length-m by exists[_,_],0x1b180181bba21180a08,hm]
   simp[h1]
 have e:=go vs.length (zX _)
 rw[aI6,aF6]at e
 rw[<-e]
 unfold Ad sliceBounds sliceRange
 by_cases h0:vs.length=0
 ·have:=ĵ h0
  subst this
  rfl
 ·simp only[Option.getD_some]
  rw[if_neg (by decide:¬ ((-1:Int)>0)),if_neg (by decide:¬ ((-1:Int)>0)),if_neg (by decide:¬ ((-1:Int)>0)),if_pos (by exists[_],0x1800fb181f4080298,h0:(vs.length:Int)-1 > -1)]
  rw[show(((vs.length:Int)-1 - -1 - -1-1) / (- -1)).toNat=vs.length by rw[show(- -1:Int)=1 from rfl,aL7];(exists[_,_],0x1020818181f181f1810fbbbbe00f58,(Ý _)),List.filterMap_map]
  have :∀m,m<=vs.length->(Ë m).filterMap ((λx=>vs[x]?)∘λk:Nat=>((vs.length:Int)-1 + -1*(k:Int)).toNat)=(Ë m).filterMap λk=>vs[vs.length-1-k]?:=λm=>by
   induction m with
   | zero=>intro _;rfl
   | succ m ih=>
    intro hm
    rw[ľ,Ŭ,Ŭ,ih (by exists[_,_],0x1001180a08,hm)]
    congr 1
    show(match vs[((vs.length:Int)-1 + -1*(m:Int)).toNat]? with | none=>[] | some b=>[b])=(match vs[vs.length-1-m]? with | none=>[] | some b=>[b])
    rw[show((vs.length:Int)-1 + -1*(m:Int)).toNat=vs.length-1-m by omega]
  exact this _ (zX _)
def Oa{α β:Type}(f:α->β)(vs:List α)(lo hi st:Option Int):Ad (vs.map f) lo hi st=(Ad vs lo hi st).map f:=by
 unfold Ad
 rw[z6]
 induction sliceRange (sliceBounds lo hi st vs.length).1 (sliceBounds lo hi st vs.length).2.1 (sliceBounds lo hi st vs.length).2.2 with
 | nil=>rfl
 | cons a r ih=>
  rw[List.filterMap_cons,List.filterMap_cons,Ð]
  cases h:vs[a]? with
  | none=>exact ih
  | some b=>exact congrArg (f b :: ·) ih
def BM(l m:List Int):zs l++zs m=zs (l++m):=(ù ..).symm
def EL(l:List Int)(lo hi st:Option Int):Ad (zs l) lo hi st=zs (Ad l lo hi st):=Oa ..
end Mine
end
namespace Mine
noncomputable def DI(made:Int)(m:Nat):List Int:=(Ë m).map λ(k:Nat)=>made+(k:Int)
noncomputable def C9(made:Int)(tx:List Int):List Int:=((Ë made.toNat).map λ(k:Nat)=>(k:Int)).filter λl=>!decide (l∈tx)
def H2(kd x2 made:Int)(AR two:Nat)(tx hd tl:List Int):List Int×List Int:=
 if kd=0 then(hd++DI made (min AR (16-tx.length))++tl,[])
 else if kd=1 then(hd++tl.drop AR,[])
 else if kd=2 then(hd++(tl.take (AR+two)).drop AR++tl.take AR++tl.drop (AR+two),if((tl.take (AR+two)).drop AR).length<=(tl.take AR).length then(tl.take (AR+two)).drop AR else tl.take AR)
 else if kd=3 then(hd++(tl.take (AR+two)).reverse++tl.drop (AR+two),(tl.take (AR+two)).drop 1)
 else if kd=5 then(hd++DI made (min two (16-(hd++tl.drop AR).length))++tl.drop AR,[])
 else(hd++((C9 made tx).take (((x2.fdiv 16).fmod ((C9 made tx).length+1)).toNat+min AR (16-tx.length))).drop ((x2.fdiv 16).fmod ((C9 made tx).length+1)).toNat++tl,[])
def Et(x:Int)(tx:List Int)(made:Int):List Int×List Int:=
 H2 (x.fmod 6) ((x.fdiv 6).fdiv (tx.length+1)) made (1+((x.fdiv 6).fdiv (tx.length+1)).fmod 4).toNat (1+(((x.fdiv 6).fdiv (tx.length+1)).fdiv 4).fmod 4).toNat tx (tx.take ((x.fdiv 6).fmod (tx.length+1)).toNat) (tx.drop ((x.fdiv 6).fmod (tx.length+1)).toNat)
end Mine
section
open PySem PySem.W PyProof.Rows
namespace Mine
def Mm{fl:Bp}{σ:St}{r:AV}{Q:AV->List Ob->Prop}(hf:I8 fl r)(hr:r.sub nn=some r)(hq:Q r []):AJ 0 Q fl σ:=⟨r,σ,[],hf,.refl _,hr,rfl,Bo,λ_ _=>AA,hq⟩
def g7:Ah ZI.2.2=(["made"]:List Str)/\Ah ZD.2.2=(["made"]:List Str)/\Ah Yk.2.2=(["text"]:List Str):=⟨by rfl',by rfl',by rfl'⟩
def Fd{α β:Type}(f:α->β)(l:List α):l.flatMap (λk=>[f k])=l.map f:=by
 induction l with
 | nil=>rfl
 | cons a r ih=>exact congrArg (f a :: ·) ih
def PQ(made:Int)(m:Nat):(Ë m).flatMap (λk:Nat=>[AV.int (made+(0+(k:Int)))])=zs (DI made m):=by
 rw[Fd]
 show _=ĕ _ (ĕ _ _)
 rw[Ĳ]
 exact ŀ λk _=>by show AV.int (made+(0+(k:Int)))=AV.int (made+(k:Int));rw[ę]
def small{n:Nat}(h:n<=100):AC n:=zP h (by decide)
section
variable{w:Ì}{x x2 made kd at_:Int}{AR two:Nat}{tx tl hd:List Int}{Q:AV->List Ob->Prop}{q:CL}{f:Nat}{m:Nat}{ρ₀:List (Str×AV)}{R:AV->St->Prop}
def Kz(hm:m<=100)(hk:ρ₀.lookup ("made":Str)=some (AV.int made))
  (ht :∀(k:Int) H n a (R:St->Prop),Ce (pD w) f DY q 0 (.int k) ⟨[("made",.int made)],H,n,a⟩ R=Am .append [.ref 0,.int (made+k)] ⟨[("made",.int made),("k",.int k)],H,n,a⟩ λ_ τ=>R τ)
  (hu :∀(k l:Int) H n a (R:St->Prop),Ce (pD w) f DY q 0 (.int k) ⟨[("made",.int made),("k",.int l)],H,n,a⟩ R=Am .append [.ref 0,.int (made+k)] ⟨[("made",.int made),("k",.int k)],H,n,a⟩ λ_ τ=>R τ)
  (h:R (.ref 0) ⟨ρ₀,[(0,.list (zs (DI made m)))],1,0⟩):Aj (.list []) (Ao 0 m) (Ce (pD w) f DY q 0) (["made"]:List Str) ⟨ρ₀,[],0,0⟩ R:=by
 refine Df (λk:Nat=>[AV.int (made+(0+(k:Int)))]) (λρ=>ρ=([("made",.int made)]:List (Str×AV))\/∃l:Int,ρ=([("made",.int made),("k",.int l)]:List (Str×AV))) (.inl ?_) (λρ H' n' hI=>?_) (zP (Â (AY ..)) (zP hm (by decide))) (λ_=>zX _) (λk v hv ρ L K hI hL hK=>?_) ?_
 ·show(Ö [] (λv=>[(("made":Str),v)]) (ρ₀.lookup ("made":Str)):List (Str×AV))=_
  rw[hk]
 ·refine⟨?_,trivial⟩
  show ρ.lookup ("made":Str)=ρ₀.lookup ("made":Str)
  rw[hk]
  exact hI.elim (λe=>e▸rfl) λq=>q.elim λl e=>e▸rfl
 ·have hk':=(zT.mp hv).1
  rw[AY]at hk'
  cases zR (hv.symm.trans (B5 hk'))
  have go:=hK _ (.inr ⟨0+(k:Int),rfl⟩)
  exact hI.elim (λe=>e▸(ht _ _ _ _ _).mpr (CD hL go)) λq=>q.elim λl e=>e▸(hu _ _ _ _ _ _).mpr (CD hL go)
 ·rw[AY,PQ];exact h
def Tf(tx:List Int)(l:List Nat):(l.flatMap λk:Nat=>bif decide ((k:Int)∈tx)then []else [AV.int (0+(k:Int))])=zs ((l.map λ(k:Nat)=>(k:Int)).filter λl=>!decide (l∈tx)):=by
 induction l with
 | nil=>rfl
 | cons a r ih=>
  rw[ů,Ć,ih]
  cases h:decide ((a:Int)∈tx)with
  | true=>rw[List.filter_cons_of_neg (by rw[h];decide)];rfl
  | false=>rw[List.filter_cons_of_pos (by rw[h];rfl)];show AV.int (0+(a:Int))::_=AV.int (a:Int)::_;rw[ę];rfl
def Ir{k:Int}{tx:List Int}:decide (AE.int k∈tx.map AE.int)=decide (k∈tx):=decide_eq_decide.mpr ⟨λh=>(Ğ.mp h).elim λa q=>AE.int.inj q.2▸q.1,λh=>ś h⟩
def Tp(hm:made.toNat<=1000)(h1:made-0=made)(hk:ρ₀.lookup ("text":Str)=some (AV.lst (zs tx)))(h:R (.ref 0) ⟨ρ₀,[(0,.list (zs (C9 made tx)))],1,0⟩):Aj (.list []) (Ao 0 (made-0).toNat) (Ce (pD w) 28 DY Yk 0) (["text"]:List Str) ⟨ρ₀,[],0,0⟩ R:=by
 rw[h1]
 refine Df (λk:Nat=>bif decide ((k:Int)∈tx)then []else [AV.int (0+(k:Int))]) (λρ=>ρ=([("text",.lst (zs tx))]:List (Str×AV))\/∃l:Int,ρ=([("text",.lst (zs tx)),("line",.int l)]:List (Str×AV))) (.inl ?_) (λρ H' n' hI=>?_) (zP (Â (AY ..)) (zP hm (by decide))) (λk=>by cases decide ((k:Int)∈tx)with | true=>exact Õ _ | false=>exact zX _) (λk v hv ρ L K hI hL hK=>?_) ?_
 ·show(Ö [] (λv=>[(("text":Str),v)]) (ρ₀.lookup ("text":Str)):List (Str×AV))=_
  rw[hk]
 ·refine⟨?_,trivial⟩
  show ρ.lookup ("text":Str)=ρ₀.lookup ("text":Str)
  rw[hk]
  exact hI.elim (λe=>e▸rfl) λq=>q.elim λl e=>e▸rfl
 ·have hk':=(zT.mp hv).1
  rw[AY]at hk'
  cases zR (hv.symm.trans (B5 hk'))
  have go:=hK _ (.inr ⟨0+(k:Int),rfl⟩)
  have fin:(A9 (BY (zs tx)) λks=>BI (!decide (AE.int (0+(k:Int))∈ks)) (Am .append [.ref 0,.int (0+(k:Int))] ⟨[("text",.lst (zs tx)),("line",.int (0+(k:Int)))],AP [] 0 (.list L),1,0⟩ λ_ τ=>K τ) (K ⟨[("text",.lst (zs tx)),("line",.int (0+(k:Int)))],AP [] 0 (.list L),1,0⟩)):=by
   rw[EM]
   show BI (!decide (AE.int (0+(k:Int))∈tx.map AE.int)) _ _
   rw[Ir]
   rw[show decide ((0+(k:Int))∈tx)=decide ((k:Int)∈tx)from by rw[ę]]
   cases hd:decide ((k:Int)∈tx)with
   | true=>rw[hd]at go;rw[show L++(bif true then []else [AV.int (0+(k:Int))])=L from Ô L]at go;exact go
   | false=>rw[hd]at go;exact CD hL go
  exact hI.elim (λe=>e▸xA.mpr fin) λq=>q.elim λl e=>e▸sJ.mpr fin
 ·rw[AY,Tf];exact h
def Pw{P:Pm}{S:WS}{r:List í}{a b c:List Int}{σ:St}(h:Q (.tup [.lst (zs a),.lst (zs b),.lst (zs c)]) []):kx P S r (AJ 0 Q) (.ret (.tup [.lst (zs a),.lst (zs b),.lst (zs c)])) σ:=
 Mm (fl:=.ret _) rfl (Ae (AW (A5 a) (AW (A5 b) (AW (A5 c) rfl)))) h
def dP{a b c:List Int}{σ:St}(h:Q (.tup [.lst (zs a),.lst (zs b),.lst (zs c)]) []):AJ 0 Q (.ret (.tup [.lst (zs a),.lst (zs b),.lst (zs c)])) σ:=
 Mm (fl:=.ret _) rfl (Ae (AW (A5 a) (AW (A5 b) (AW (A5 c) rfl)))) h
def B9:MX:=λz=>nomatch z
def zl(l:List Int){n:Nat}(h:l.length<=n)(hn:n<=100:=by decide):AC (zs l).length:=small ((A7 l).symm▸zP h hn)
def Q3{i j:Int}{p:Prop}(h:¬ AE.int i=AE.int j)(f:¬ i=j->p):p:=f λe=>h (congrArg AE.int e)
def Rt(ho:AR<=4)(hw:two<=4)(hx:tx.length<=16)(hh:hd.length<=16)(hl:tl.length<=16)(hm:0<=made/\made<=1000)(hq :∀bk,Q (.tup [.lst (zs (H2 kd x2 made AR two tx hd tl).1),.lst (zs (H2 kd x2 made AR two tx hd tl).2),.lst (zs bk)]) []) :
  wL (pD w) (SD w 30) (C1.drop 4) (dS x2 made kd at_ (two:Int) (AR:Int) tx (zs tl) (zs hd) []) (AJ 0 Q):=by
 have lz :∀l:List Int,(zs l).length=l.length:=A7
 unfold H2 at hq
 rw[KZ.1.1]
 refine Ew (λe=>?_) λe0=>Q3 e0 λe0=>?_
 ·cases e
  rw[if_pos rfl]at hq
  rw[d0,g7.1,lz]
  have e1:(min (AR:Int) (16-(tx.length:Int))-0).toNat=min AR (16-tx.length):=by exists[_,_,_],0x20000109b1d02080820f0000109b10fdbe00f58,(Ý _)
  refine⟨small (zP hx (by decide)),⟨by decide,by decide,by(exists[_,_],0xf0000109b10fd0f424091f30000109008,hx),by exists[_,_],0xf4240910f0000109b00fd3⟩,?_⟩
  rw[e1]
  refine Kz (zP (Ő ..) (zP ho (by decide))) rfl (λ_ _ _ _ _=>sR (ρ:=[])) (λ_ _ _ _ _ _=>uP (ρ:=[])) (uI.mpr ?_)
  have fl:(DI made (min AR (16-tx.length))).length=min AR (16-tx.length):=(z6 ..).trans ó
  refine⟨small (by rw[lz,lz,fl];exists[_,_,_],0x64920000109b1d0a00000109008,hh),small (by rw[zU,lz,lz,lz,fl];exists[_,_,_,_],0x649130000109b2d0aa000001091080000109008,hh,hl),?_⟩
  rw[BM,BM]
  exact Pw (b:=[]) (c:=[]) (hq [])
 ·rw[if_neg e0]at hq
  rw[KZ.1.2]
  refine Ew (λe=>?_) λe1=>Q3 e1 λe1=>?_
  ·cases e
   rw[if_pos rfl]at hq
   rw[d1,Bj,show ķ AR (zs tl)=zs (tl.drop AR)from(ŉ ..).symm]
   refine⟨B9,zl tl hl,small (by rw[lz,lz,ë];exists[_,_,_],0x64921b0a000001091080000109008,hh,hl),?_⟩
   rw[BM]
   exact Pw (b:=[]) (c:=[]) (hq [])
  ·rw[if_neg e1]at hq
   rw[KZ.2.1.1]
   refine Ew (λe=>?_) λe2=>Q3 e2 λe2=>?_
   ·cases e
    rw[if_pos rfl]at hq
    rw[d2,Cu,show((AR:Int)+(two:Int))=((AR+two:Nat):Int)from rfl,Dm]
    refine⟨B9,zl tl hl,B9,zl tl hl,rfl,?_⟩
    rw[show Ž AR (zs tl)=zs (tl.take AR)from(ū ..).symm,show ķ AR (Ž (AR+two) (zs tl))=zs ((tl.take (AR+two)).drop AR)from(congrArg (ķ AR) (ū ..).symm).trans (ŉ ..).symm]
    generalize hp:tl.take AR=p at hq ⊢
    generalize hqq:(tl.take (AR+two)).drop AR=q at hq ⊢
    have lp:p.length<=4:=hp▸(ï▸zP (Ő ..) ho)
    have lq:q.length<=16:=hqq▸(by rw[ë,ï];exists[_,_,_],0x1091201adb048008,hw)
    have fin :∀a b:List Int,(if q.length<=p.length then q else p)=a->wL (pD w) (SD w 29) ((Aa (kS 6)).drop 3) (dS x2 made 2 at_ (two:Int) (AR:Int) tx (zs tl) (zs hd) [("q",.lst (zs q)),("p",.lst (zs p)),("there",.lst (zs a)),("back",.lst (zs b))]) (kx (pD w) (SD w 30) (C1.drop 7) (AJ 0 Q)):=λa b ea=>by
     rw[u9,show((AR:Int)+(two:Int))=((AR+two:Nat):Int)from rfl,Bj,show ķ (AR+two) (zs tl)=zs (tl.drop (AR+two))from(ŉ ..).symm,BM,BM]
     refine⟨small (by rw[lz,lz];exists[_,_],0x64910a000001091080000109008,hh,lq),small (by rw[lz,lz,zU];exists[_,_,_],0x649120aa00000109208481080000109008,hh,lp,lq),B9,zl tl hl,small (by rw[lz,lz,zU,zU,ë];exists[_,_,_,_,_,_],0x64954a1b230aaa000001093084820800001091080000109008,hh,hl,lp,lq),?_⟩
     rw[BM]
     have:=hq b
     rw[ea]at this
     exact Pw this
    have snd :∀a:List Int,(if q.length<=p.length then q else p)=a->wL (pD w) (SD w 29) ((Aa (kS 6)).drop 2) (dS x2 made 2 at_ (two:Int) (AR:Int) tx (zs tl) (zs hd) [("q",.lst (zs q)),("p",.lst (zs p)),("there",.lst (zs a))]) (kx (pD w) (SD w 30) (C1.drop 7) (AJ 0 Q)):=λa ea=>by
     rw[r9,lz,lz]
     exact⟨small (zP lq (by decide)),small (zP lp (by decide)),Ew (λ_=>fin a p ea) λ_=>fin a q ea⟩
    rw[wR,lz,lz]
    exact⟨small (zP lp (by decide)),small (zP lq (by decide)),Ew (λh=>snd q (if_pos (ħ.mp h))) λh=>snd p (if_neg λz=>h (ħ.mpr z))⟩
   ·rw[if_neg e2]at hq
    rw[KZ.2.1.2]
    refine Ew (λe=>?_) λe3=>Q3 e3 λe3=>?_
    ·cases e
     rw[if_pos rfl]at hq
     rw[d3,show((AR:Int)+(two:Int))=((AR+two:Nat):Int)from rfl,Cu,show Ž (AR+two) (zs tl)=zs (tl.take (AR+two))from(ū ..).symm]
     refine⟨B9,zl tl hl,?_⟩
     generalize hp:tl.take (AR+two)=p at hq ⊢
     have lp:p.length<=16:=hp▸(ï▸zP (ŋ ..) hl)
     rw[u6,EL,O9,show((AR:Int)+(two:Int))=((AR+two:Nat):Int)from rfl,Bj,show ķ (AR+two) (zs tl)=zs (tl.drop (AR+two))from(ŉ ..).symm,EL,show Ad p (some 1) none none=p.drop 1 from Bj p 1,EL,BM]
     refine⟨by decide,zl p lp,small (by rw[lz,lz,Ĉ];exists[_,_],0x64910a000001091080000109008,hh,lp),B9,zl tl hl,small (by rw[lz,lz,zU,Ĉ,ë];exists[_,_,_,_,_],0x64943a1b20aa0000010920800001091080000109008,hh,hl,lp),B9,zl p lp,B9,zl p lp,?_⟩
     rw[BM]
     exact Pw (hq _)
    ·rw[if_neg e3]at hq
     rw[KZ.2.2]
     refine Ew (λe=>?_) λe5=>Q3 e5 λe5=>?_
     ·cases e
      rw[if_pos rfl]at hq
      rw[d5,Bj,show ķ AR (zs tl)=zs (tl.drop AR)from(ŉ ..).symm]
      refine⟨B9,zl tl hl,?_⟩
      generalize hp:tl.drop AR=p at hq ⊢
      have lp:p.length<=16:=hp▸(ë▸zP (aF9 ..) hl)
      rw[vF,g7.2.1,BM,lz,lz,lz]
      have la:(hd++p).length<=32:=by rw[zU];exists[_,_],0x20910a000001091080000109008,hh,lp
      have e1:(min (two:Int) (16-((hd++p).length:Int))-0).toNat=min two (16-(hd++p).length):=by exists[_,_,_],0x20000109b1d02080820f0000109b10fdbe00f58,(Ý _)
      refine⟨small (by exists[_,_],0x64910a000001091080000109008,hh,lp),small (zP la (by decide)),⟨by decide,by decide,by(exists[_,_],0xf0000109b10fd0f424091f30000209008,la),by exists[_,_],0xf4240910f0000109b00fd3⟩,?_⟩
      rw[e1]
      refine Kz (zP (Ő ..) (zP hw (by decide))) rfl (λ_ _ _ _ _=>xY) (λ_ _ _ _ _ _=>r5) (tP.mpr ?_)
      have fl:(DI made (min two (16-(hd++p).length))).length=min two (16-(hd++p).length):=(z6 ..).trans ó
      refine⟨small (by rw[lz,lz,fl];exists[_,_,_],0x64920000109b1d0a00000109008,hh),small (by rw[zU,lz,lz,lz,fl];exists[_,_,_,_],0x649130000109b2d0aa000001091080000109008,hh,lp),?_⟩
      rw[BM,BM]
      exact Pw (b:=[]) (c:=[]) (hq [])
     ·rw[if_neg e5]at hq
      rw[d4,g7.2.2]
      refine⟨⟨by decide,by decide,by(exists[],[_],0xf424091f300838,hm.1),by exists[],[_],0xf42409030003e89038,hm.2⟩,Tp (by exists[_],[_],0x3e8900080e00f580003e89038,hm.2,(Ý _)) (aB4 _) rfl ?_⟩
      rw[yM,xI,lz]
      have lo:(C9 made tx).length<=1000:=zP (List.length_filter_le ..) (zP (Â ((z6 ..).trans ó)) (by exists[_],[_],0x3e8900080e00f580003e89038,hm.2,(Ý _)))
      have hn0:(0:Int)<=(x2.fdiv 16).fmod (((C9 made tx).length:Int)+1):=ŧ _ (by exists[_],0x1800fa084)
      refine⟨by decide,ň (by decide),zP lo (by decide),by(exists[_],0x81800fa59),?_⟩
      rw[v4,lz,lz]
      generalize hn:(x2.fdiv 16).fmod (((C9 made tx).length:Int)+1)=n at hq hn0 ⊢
      have en:n=(n.toNat:Int):=by exists[_],[_],0xf05080e00f5800838,hn0,(Ý _)
      have em:n+min (AR:Int) (16-(tx.length:Int))=((n.toNat+min AR (16-tx.length):Nat):Int):=by exists[_,_,_],[_],0x109b2d1a0f00f0000109b20fd0a510f0580000109008,hx,en
      rw[em]
      generalize hm2:n.toNat=j at hq em en ⊢
      rw[en,EL,Dm,lz,BM]
      have lx:(ķ j (Ž (j+min AR (16-tx.length)) (C9 made tx))).length<=4:=by rw[ë,ï];exists[_,_,_,_],0x481320000109b0d1adb048008,ho
      generalize ķ j (Ž (j+min AR (16-tx.length)) (C9 made tx))=M at hq lx ⊢
      refine⟨small (zP hx (by decide)),B9,zP lo (by decide),small (by rw[lz];exists[_,_],0x64910a0481080000109008,hh,lx),small (by rw[lz,lz,zU];exists[_,_,_],0x649120aa04820800001091080000109008,hh,hl,lx),?_⟩
      rw[BM]
      exact dP (b:=[]) (c:=[]) (hq [])
end
def MY:Tr:=λas os Q=>∃(x:Int) (tx:List Int) (made:Int),as=[.int x,.lst (zs tx),.int made]/\os=[]/\tx.length<=16/\(0<=made/\made<=1000)/\∀bk,Q (.tup [.lst (zs (Et x tx made).1),.lst (zs (Et x tx made).2),.lst (zs bk)]) []
def UP{w:Ì}{d:Nat}:BW (lF w) (H1 w.params) (d+2) (.ref 251) MY:=
 Ox (U2 (λ_ _ e=>nomatch e) (λe=>nomatch e) (λe=>nomatch e) (λ_ e=>nomatch e)) (SF _).2.2 (SF _).1 (SF _).2.1 (ps:=["x","text","made"]) (fuel:=30) (frz:=ZF) (wk:=QN) (T:=λ_=>none) (init:=none) (new:=false) (mak:=false) (by decide) (by rfl') (NV λa b c=>by rfl') λas os Q hh=>by
  obtain⟨x,tx,made,ea,eo,hx,hm,hq⟩:=hh
  subst ea;subst eo
  refine⟨⟨rfl,Bo⟩,iU.mpr ?_⟩
  rw[A7]
  have hn:AC tx.length:=small (zP hx (by decide))
  have h1:((tx.length:Int)+1)≠0:=by exists[_],0x81800fa59
  have hz:=λi:Int=>ŧ i (by decide:(0:Int)<4)
  have hz2:=λi:Int=>Int.fmod_lt_of_pos i (by decide:(0:Int)<4)
  have hat:(0:Int)<=(x.fdiv 6).fmod ((tx.length:Int)+1):=ŧ _ (by exists[_],0x1800fa084)
  refine⟨by decide,by decide,ň (by decide),rfl,hn,h1,hn,h1,ň (by omega),rfl,by decide,by decide,ň (by decide),by decide,rfl,B9,hn,B9,hn,rfl,?_⟩
  unfold Et at hq
  generalize (x.fdiv 6).fmod ((tx.length:Int)+1)=at_ at hq hat ⊢
  generalize (x.fdiv 6).fdiv ((tx.length:Int)+1)=x2 at hq ⊢
  have ho:=hz x2;have ho2:=hz2 x2;have hw:=hz (x2.fdiv 4);have hw2:=hz2 (x2.fdiv 4)
  generalize x2.fmod 4=o at hq ho ho2 ⊢
  generalize (x2.fdiv 4).fmod 4=t at hq hw hw2 ⊢
  have ea:at_=(at_.toNat:Int):=by exists[_],[_],0xf05080e00f5800838,hat,(Ý _)
  have eo:1+o=((1+o).toNat:Int):=by exists[_],[_],0xf018a508018ae00f5800838,ho,(Ý _)
  have et:1+t=((1+t).toNat:Int):=by exists[_],[_],0xf018a508018ae00f5800838,hw,(Ý _)
  have lo:(1+o).toNat<=4:=by exists[_],[_],0x480000f018a5848048,ho2,eo
  have lt:(1+t).toNat<=4:=by exists[_],[_],0x480000f018a5848048,hw2,et
  generalize (1+o).toNat=AR at hq eo lo
  generalize (1+t).toNat=two at hq et lt
  generalize at_.toNat=n at hq ea
  rw[eo,et,ea,EL,EL,Bj,Cu]
  exact Rt lo lt hx (by rw[ï];exists[_,_],0x10901d00000109008,hx) (by rw[ë];exists[_,_],0x10910b00000109008,hx) hm hq
noncomputable def ln(l:List Nat):Pos->Bool:=λp=>l.any λn=>Ù p.line n
def Fh:List í:=(CH pw.main.body "_law_pieces").1
def Dk:Scope:=(CH pw.main.body "_law_pieces").2
def RZ(P:Ó):(CV P 256).body = .stmts Fh/\(CV P 256).scope=Dk/\BF P 256=true:=⟨by rfl',by rfl',by rfl'⟩
abbrev Av(w:Ì):Pm:=Ij w.params (XZ 196 BP) none false false (ln [489]) QN
abbrev Be(w:Ì)(f:Nat):WS:=Fo (Av w) Dk f
def Z8:CL:=FG (D5 (Fh.getD 1 (.Pass AB)))
def wP:Expr×List í:=Xk (Fh.getD 2 (.Pass AB))
abbrev pO(la lb:List Int)(mb op fb:AV)(ds:List (AE×AV)):AO:=.inst aD (Bc (.lst (zs la)) (.lst (zs lb)) mb op fb (.dct ds))
abbrev pS(la lb:List Int)(mb op fb:AV)(ds:List (AE×AV))(n:Int)(fs ls wl:List AV)(tl:List (Str×AV)):St:=⟨("matcher",.ref 0)::("size",.int n)::("windows",.ref 3)::("left",.ref 2)::("found",.ref 1)::tl,[(0,pO la lb mb op fb ds),(1,.list fs),(2,.list ls),(3,.list wl)],4,1⟩
section
variable{w:Ì}{la lb:List Int}{mb op fb:AV}{ds:List (AE×AV)}{n lo hi i j k:Int}{W fs ls:List AV}{tl:List (Str×AV)}{K:KS}{T:Bool->St->Prop}
def j5:wL (Av w) (Be w 30) Fh (A4 [("matcher",.ref 0),("size",.int n),("windows",.lst W)] [(aD,Bc (.lst (zs la)) (.lst (zs lb)) mb op fb (.dct ds))]) K =
  (2=2/\subAll nn W=some W/\Aj (.list []) W (Ce (Av w) 28 Dk Z8 3) (Ah Z8.2.2) ⟨[("matcher",.ref 0),("size",.int n),("windows",.lst W),("left",.ref 2),("found",.ref 1)],[(0,pO la lb mb op fb ds),(1,.list []),(2,.list [])],3,1⟩ λv σ=>As (ws (Av w) Dk 29).A (Ax (Fh.getD 1 (.Pass AB))) v σ λσ=>wL (Av w) (Be w 30) (Fh.drop 2) σ K):=by rfl'
def nX:Ah Z8.2.2=[]:=by rfl'
def iD{v:AV}{H:List (Nat×AO)}{m a:Nat}{R:St->Prop}:Ce (Av w) 28 Dk Z8 3 v ⟨[],H,m,a⟩ R=Am .append [.ref 3,v] ⟨[("window",v)],H,m,a⟩ λ_ τ=>R τ:=by rfl'
def jU{u v:AV}{H:List (Nat×AO)}{m a:Nat}{R:St->Prop}:Ce (Av w) 28 Dk Z8 3 v ⟨[("window",u)],H,m,a⟩ R=Am .append [.ref 3,v] ⟨[("window",v)],H,m,a⟩ λ_ τ=>R τ:=by rfl'
def jG{R:St->Prop}:As (ws (Av w) Dk 29).A (Ax (Fh.getD 1 (.Pass AB))) (.ref 3) ⟨[("matcher",.ref 0),("size",.int n),("windows",.lst W),("left",.ref 2),("found",.ref 1)],[(0,pO la lb mb op fb ds),(1,.list []),(2,.list []),(3,.list W)],4,1⟩ R=R (pS la lb mb op fb ds n [] [] W []):=by rfl'
def yC:wL (Av w) (Be w 30) (Fh.drop 2) (pS la lb mb op fb ds n fs ls W []) K=FZ ((ws (Av w) Dk 29).B wP.1) (wL (Av w) (Be w 29) wP.2) (wL (Av w) (Be w 29) []) (pS la lb mb op fb ds n fs ls W []) (kx (Av w) (Be w 30) (Fh.drop 3) K):=by rfl'
def t6:(ws (Av w) Dk 29).B wP.1 (pS la lb mb op fb ds n fs ls W []) T=A9 (EX (pS la lb mb op fb ds n fs ls W []) (.ref 3) (.lst [])) λr=>T (!r) (pS la lb mb op fb ds n fs ls W []):=by rfl'
def nH:EX (pS la lb mb op fb ds n fs ls W tl) (.ref 3) (.lst [])=some W.isEmpty:=by cases W<;>rfl'
def yK:wL (Av w) (Be w 29) wP.2 (pS la lb mb op fb ds n fs ls W []) K=(AC W.length/\∃v,W.getLast?=some v/\As (ws (Av w) Dk 28).A (Ax (wP.2.getD 0 (.Pass AB))) v (pS la lb mb op fb ds n fs ls W.dropLast []) λσ=>wL (Av w) (Be w 29) (wP.2.drop 1) σ K):=by rfl'
def xU:(As (ws (Av w) Dk 28).A (Ax (wP.2.getD 0 (.Pass AB))) (.tup [.int lo,.int hi]) (pS la lb mb op fb ds n fs ls W []) λσ=>wL (Av w) (Be w 29) (wP.2.drop 1) σ K)=(2=2/\B7 BP [.ref 0,.int 0,.int n,.int lo,.int hi] (pS la lb mb op fb ds n fs ls W [("low",.int lo),("high",.int hi)]) λv σ=>As (ws (Av w) Dk 28).A (Ax (wP.2.getD 1 (.Pass AB))) v σ λσ=>wL (Av w) (Be w 29) (wP.2.drop 2) σ K):=by rfl'
end
def pA(s:í):Expr:=ĳ (motive_2:=λ_=>Expr) s (λ_ _ _ _ _ _ _ _ _ _=>(.Name ("":Str) AB)) (λ_ _ _ _ _ _ _ _ _ _=>(.Name ("":Str) AB)) (λ_ _ _ _ _ _ _ _ _ _ _=>(.Name ("":Str) AB)) (λ_ _=>(.Name ("":Str) AB)) (λ_ _=>(.Name ("":Str) AB)) (λ_ _ _=>(.Name ("":Str) AB)) (λ_ _ _ _ _ _ _=>(.Name ("":Str) AB)) (λ_ _ _ _=>(.Name ("":Str) AB)) (λ_ _ _ _ _=>(.Name ("":Str) AB)) (λ_ _ _ _ _=>(.Name ("":Str) AB)) (λ_ _ _ _ _=>(.Name ("":Str) AB)) (λ_ _ _ _=>(.Name ("":Str) AB)) (λ_ _ _ _=>(.Name ("":Str) AB)) (λ_ _ _=>(.Name ("":Str) AB)) (λ_ _ _=>(.Name ("":Str) AB)) (λ_ _ _=>(.Name ("":Str) AB)) (λ_ _ _=>(.Name ("":Str) AB)) (λ_ _ _ _ _=>(.Name ("":Str) AB)) (λ_ _ _ _ _=>(.Name ("":Str) AB)) (λ_ _ _=>(.Name ("":Str) AB)) (λ_ _=>(.Name ("":Str) AB)) (λ_ _ _ _=>(.Name ("":Str) AB)) (λ_ _=>(.Name ("":Str) AB)) (λ_ _=>(.Name ("":Str) AB)) (λe _=>e) (λ_=>(.Name ("":Str) AB)) (λ_=>(.Name ("":Str) AB)) (λ_=>(.Name ("":Str) AB))
abbrev pT(lo hi i j k:Int):List (Str×AV):=[("low",.int lo),("high",.int hi),("i",.int i),("j",.int j),("k",.int k)]
def J8:í:=wP.2.getD 2 (.Pass AB)
def cE:CL:=FG ((Ai (pA ((C8 J8).getD 2 (.Pass AB)))).2.1.getD 0 (.Name ("":Str) AB))
abbrev CB(x y:Int):AV:=.tup [.int x,.int y]
section
variable{w:Ì}{la lb:List Int}{mb op fb:AV}{ds:List (AE×AV)}{n lo hi i j k x y c e:Int}{W fs ls:List AV}{tl:List (Str×AV)}{K:KS}{H:List (Nat×AO)}{m a:Nat}{R:St->Prop}
def yQ:(As (ws (Av w) Dk 28).A (Ax (wP.2.getD 1 (.Pass AB))) (.mat [.int i,.int j,.int k]) (pS la lb mb op fb ds n fs ls W [("low",.int lo),("high",.int hi)]) λσ=>wL (Av w) (Be w 29) (wP.2.drop 2) σ K) =
  (3=3/\BI (decide (AE.int k=AE.int 0)) (wL (Av w) (Be w 28) (Aa J8) (pS la lb mb op fb ds n fs ls W (pT lo hi i j k)) (kx (Av w) (Be w 29) [] K)) (wL (Av w) (Be w 28) (C8 J8) (pS la lb mb op fb ds n fs ls W (pT lo hi i j k)) (kx (Av w) (Be w 29) [] K))):=by rfl'
def uF:wL (Av w) (Be w 28) (Aa J8) (pS la lb mb op fb ds n fs ls W (pT lo hi i j k)) K=BI (!(decide (AE.int i=AE.int 0)&&(decide (AE.int j=AE.int lo)&&([]:List AV).isEmpty))) (wL (Av w) (Be w 27) (Aa ((Aa J8).getD 0 (.Pass AB))) (pS la lb mb op fb ds n fs ls W (pT lo hi i j k)) (kx (Av w) (Be w 28) ((Aa J8).drop 1) K))
  (wL (Av w) (Be w 28) ((Aa J8).drop 1) (pS la lb mb op fb ds n fs ls W (pT lo hi i j k)) K):=by rfl'
def pB:wL (Av w) (Be w 28) ((Aa J8).drop 1) (pS la lb mb op fb ds n fs ls W (pT lo hi i j k)) K=(AC ls.length/\K .next (pS la lb mb op fb ds n fs (ls++[CB lo hi]) W (pT lo hi i j k))):=by rfl'
def uC:wL (Av w) (Be w 28) (C8 J8) (pS la lb mb op fb ds n fs ls W (pT lo hi i j k)) K=BI (decide (j<lo)) (wL (Av w) (Be w 27) (Aa ((C8 J8).getD 0 (.Pass AB))) (pS la lb mb op fb ds n fs ls W (pT lo hi i j k)) (kx (Av w) (Be w 28) ((C8 J8).drop 1) K))
  (BI (decide (hi<j+k)) (wL (Av w) (Be w 27) (Aa ((C8 J8).getD 0 (.Pass AB))) (pS la lb mb op fb ds n fs ls W (pT lo hi i j k)) (kx (Av w) (Be w 28) ((C8 J8).drop 1) K)) (wL (Av w) (Be w 28) ((C8 J8).drop 1) (pS la lb mb op fb ds n fs ls W (pT lo hi i j k)) K)):=by rfl'
def vS:wL (Av w) (Be w 28) ((C8 J8).drop 1) (pS la lb mb op fb ds n fs ls W (pT lo hi i j k)) K=(AC fs.length/\wL (Av w) (Be w 28) ((C8 J8).drop 2) (pS la lb mb op fb ds n (fs++[Es j i k]) ls W (pT lo hi i j k)) K):=by rfl'
def s9:wL (Av w) (Be w 28) ((C8 J8).drop 2) (pS la lb mb op fb ds n fs ls W (pT lo hi i j k)) K=(subAll nn [CB lo j,CB (j+k) hi]=some [CB lo j,CB (j+k) hi]/\Aj (.list []) [CB lo j,CB (j+k) hi] (Ce (Av w) 25 Dk cE 4) (Ah cE.2.2) (pS la lb mb op fb ds n fs ls W (pT lo hi i j k)) λv σ=>Am .extend [.ref 3,v] σ λ_ σ=>K .next σ):=by rfl'
def oV:Ah cE.2.2=[]:=by rfl'
def i7:Ce (Av w) 25 Dk cE 4 (CB x y) ⟨[],H,m,a⟩ R=(2=2/\BI (decide (x<y)) (Am .append [.ref 4,CB x y] ⟨[("a",.int x),("b",.int y)],H,m,a⟩ λ_ τ=>R τ) (R ⟨[("a",.int x),("b",.int y)],H,m,a⟩)):=by rfl'
def j7:Ce (Av w) 25 Dk cE 4 (CB x y) ⟨[("a",.int c),("b",.int e)],H,m,a⟩ R=(2=2/\BI (decide (x<y)) (Am .append [.ref 4,CB x y] ⟨[("a",.int x),("b",.int y)],H,m,a⟩ λ_ τ=>R τ) (R ⟨[("a",.int x),("b",.int y)],H,m,a⟩)):=by rfl'
def s0:wL (Av w) (Be w 30) (Fh.drop 3) (pS la lb mb op fb ds n fs ls W []) K=(O0 Yo fs λF=>O0 Yo ls λL=>K (.ret (.tup [.lst F,.lst L])) (pS la lb mb op fb ds n fs ls W [])):=by rfl'
end
end Mine
end
namespace Mine
abbrev Wd:=Nat×Nat
noncomputable def psw(a b:Nat)(st:List Wd):List Wd:=if a<b then(a,b)::st else st
inductive Os(la lb:List Int):List Wd->List Ab->List Wd->Prop
 | nil:Os la lb [] [] []
 | left {lo hi:Nat} {st ls:List Wd} {fs:List Ab} (h:LM la lb 0 la.length lo hi 0 lo 0) (r:Os la lb st fs ls):Os la lb ((lo,hi)::st) fs ((lo,hi)::ls)
 | run {lo hi i j k:Nat} {st ls:List Wd} {fs:List Ab} (h:LM la lb 0 la.length lo hi i j k) (hk:0<k) (r:Os la lb (psw (j+k) hi (psw lo j st)) fs ls):Os la lb ((lo,hi)::st) ((j,i,k)::fs) ls
noncomputable def Fr(st:List Wd):Nat:=(st.map λp=>p.2-p.1).sum
def Fz(n:Nat)(st:List Wd):Prop:=∀p∈st,p.1<p.2/\p.2<=n
def G0{a b:Nat}{st:List Wd}:Fr (psw a b st)=(b-a)+Fr st:=by
 unfold psw
 split
 ·rfl
 ·rw[Nat.sub_eq_zero_of_le (Ü ‹_›),ĩ]
theorem Fz.psw{n a b:Nat}{st:List Wd}(h:Fz n st)(hb:b<=n):Fz n (psw a b st):=by
 unfold Mine.psw
 split
 ·exact λp hp=>(È.mp hp).elim (λe=>e▸⟨‹_›,hb⟩) (h p)
 ·exact h
def Fz.len{n:Nat}{st:List Wd}(h:Fz n st):st.length<=Fr st:=by
 induction st with
 | nil=>exact zX _
 | cons p r ih=>
  have h1:=(h p (z8 ..)).1
  have h2:=ih λq hq=>h q (À _ hq)
  show r.length+1<=(p.2-p.1)+Fr r
  exact id (ql [_,_,_,_] 0x301ba182a032081018 (by rfl') h1 h2)
end Mine
section
open PySem PySem.W PyProof.Rows
namespace Mine
def By(p:Wd):AV:=CB (nI p.1) (nI p.2)
def Dh(b:Ab):AV:=Es (nI b.1) (nI b.2.1) (nI b.2.2)
def Pj{a b:Nat}{st:List Wd}:((psw a b st).map By).reverse=(st.map By).reverse++(bif decide (nI a<nI b)then [By (a,b)]else []):=by
 unfold psw
 by_cases h:a<b
 ·rw[if_pos h,decide_eq_true (Ç.mpr h)];exact(congrArg aI5 (Ć ..)).trans (ġ ..)
 ·rw[if_neg h,decide_eq_false λz=>h (Ç.mp z)];exact(Ô _).symm
section
variable{w:Ì}{la lb:List Int}{mb op fb:AV}{ds:List (AE×AV)}{W W0:List Wd}{Q:AV->List Ob->Prop}
def pI(la lb:List Int)(mb op fb:AV)(ds:List (AE×AV))(W0:List Wd)(m:Nat)(σ:St):Prop:=
 ∃(st ls:List Wd) (fs:List Ab),σ=pS la lb mb op fb ds (nI la.length) (fs.map Dh) (ls.map By) (st.map By).reverse []/\m=Fr st/\Fz lb.length st/\fs.length+ls.length+Fr st<=Fr W0/\∀fs' ls',Os la lb st fs' ls'->Os la lb W0 (fs++fs') (ls++ls')
def U5{fs ls W L:List AV}{n a b i j k:Int}(S:BO (.lst (zs la)) (.lst (zs lb)) mb op fb (.dct ds))(h1:subAll nn fs=some fs)(h2:subAll nn ls=some ls)(h3:subAll nn W=some W) :
  A0 ⟨(pS la lb mb op fb ds n fs ls W (pT a b i j k)).ρ,[(0,pO la lb mb op fb ds),(1,.list fs),(2,.list ls),(3,.list W),(4,.list L)],5,1⟩ (pS la lb mb op fb ds n fs ls W []):=
 have ls_ :∀{g:Nat->Option AV} {l:List AV},subAll nn l=some l->(AO.list l).sub g=some (.list l):=λh=>congrArg (Ñ AO.list) (CC h)
 .re [0,1,2,3] [] rfl rfl rfl rfl Br (Ay rfl rfl (Ay rfl rfl (Ay rfl rfl (Ay rfl rfl (Ay rfl rfl BU))))) (E9 rfl rfl (EN (congrArg (Ñ (AO.inst aD)) S.shut)) (E9 rfl rfl (ls_ h1) (E9 rfl rfl (ls_ h2) (E9 rfl rfl (ls_ h3) BS))))
def Tk{fs ls W:List AV}{n a b i j k:Int}:A0 (pS la lb mb op fb ds n fs ls W (pT a b i j k)) (pS la lb mb op fb ds n fs ls W []):=
 .less (ρ:=(pS la lb mb op fb ds n fs ls W []).ρ++pT a b i j k) (λx v e=>CT e) λ_ _=>id
def W3{fs ls:List AV}{st:List Wd}{lo j e hi:Nat}{n a b c d f:Int}{K:KS}(hst:st.length<=1000)(h :∀L,K .next ⟨(pS la lb mb op fb ds n fs ls ((psw e hi (psw lo j st)).map By).reverse (pT a b c d f)).ρ,[(0,pO la lb mb op fb ds),(1,.list fs),(2,.list ls),(3,.list ((psw e hi (psw lo j st)).map By).reverse),(4,.list L)],5,1⟩) :
  Aj (.list []) [CB (nI lo) (nI j),CB (nI e) (nI hi)] (Ce (Av w) 25 Dk cE 4) ([]:List Str) (pS la lb mb op fb ds n fs ls (st.map By).reverse (pT a b c d f)) λv σ=>Am .extend [.ref 3,v] σ λ_ σ=>K .next σ:=by
 let F:Nat->List AV:=λk=>bif Ù k 0 then(bif decide (nI lo<nI j)then [CB (nI lo) (nI j)]else [])else(bif decide (nI e<nI hi)then [CB (nI e) (nI hi)]else [])
 have f1 :∀k,(F k).length<=1:=λk=>by
  show(bif Ù k 0 then _ else _:List AV).length<=1
  cases Ù k 0 with
  | true=>cases decide (nI lo<nI j)with
   | true=>exact zX _
   | false=>exact Õ _
  | false=>cases decide (nI e<nI hi)with
   | true=>exact zX _
   | false=>exact Õ _
 refine Df F (λρ=>ρ=([]:List (Str×AV))\/∃x y:Int,ρ=([("a",.int x),("b",.int y)]:List (Str×AV))) (.inl rfl) (λ_ _ _ _=>trivial) (show 2<=1000000 by decide) f1 (λk v hv ρ L K' hI hL hK=>?_) ?_
 ·have AR :∀x y:Int,v=CB x y->F k=(bif decide (x<y)then [CB x y]else [])->Ce (Av w) 25 Dk cE 4 v ⟨ρ,AP (pS la lb mb op fb ds n fs ls (st.map By).reverse (pT a b c d f)).H 4 (.list L),4+1,1⟩ K':=λx y ev eF=>by
   subst ev
   have fin:2=2/\BI (decide (x<y)) (Am .append [.ref 4,CB x y] ⟨[("a",.int x),("b",.int y)],AP (pS la lb mb op fb ds n fs ls (st.map By).reverse (pT a b c d f)).H 4 (.list L),4+1,1⟩ λ_ τ=>K' τ) (K' ⟨[("a",.int x),("b",.int y)],AP (pS la lb mb op fb ds n fs ls (st.map By).reverse (pT a b c d f)).H 4 (.list L),4+1,1⟩):=by
    refine⟨rfl,?_⟩
    have go:=hK [("a",.int x),("b",.int y)] (.inr ⟨x,y,rfl⟩)
    rw[eF]at go
    cases hd:decide (x<y)with
    | true=>rw[hd]at go;exact CD hL go
    | false=>rw[hd,show L++(bif false then [CB x y]else [])=L from Ô L]at go;exact go
   exact hI.elim (λe=>e▸i7.mpr fin) λq=>q.elim λc q=>q.elim λf e=>e▸j7.mpr fin
  match k,hv with
  | 0,hv=>exact AR _ _ (zR hv).symm rfl
  | 1,hv=>exact AR _ _ (zR hv).symm rfl
 ·have el:(st.map By).reverse++(F 0++(F 1++[]))=((psw e hi (psw lo j st)).map By).reverse:=by
   rw[Pj,Pj,Ô,Ï];rfl
  have l0:((st.map By).reverse).length<=1000:=zP (Â ((Ĉ ..).trans (z6 ..))) hst
  have l1:(F 0++(F 1++[])).length<=2:=by rw[Ô,zU];exact Ė (f1 0) (f1 1)
  have g:=h (F 0++(F 1++[]))
  rw[<-el]at g
  exact⟨zP l0 (by decide),zP (Ė l0 l1) (by decide),g⟩
end
section
def MQ:Tr:=λas os Q=>∃(la lb:List Int) (mb op fb:AV) (ds:List (AE×AV)) (W:List Wd),as=[.ref 0,.int (nI la.length),.lst (W.map By)]/\os=[(aD,Bc (.lst (zs la)) (.lst (zs lb)) mb op fb (.dct ds))]/\(BO (.lst (zs la)) (.lst (zs lb)) mb op fb (.dct ds)/\BJ lb ds)/\(la.length<=100000/\lb.length<=100000)/\(Fz lb.length W/\Fr W<=900)/\
 ∀fs ls,Os la lb W.reverse fs ls->∃(F:List Ab) (L:List Wd),(F.Perm fs/\L.Perm ls)/\((F.map λb=>nI b.1).Pairwise (· < ·)/\(L.map λb=>nI b.1).Pairwise (· < ·))/\(F.length<64/\L.length<64)/\Q (.tup [.lst (F.map Dh),.lst (L.map By)]) [(aD,Bc (.lst (zs la)) (.lst (zs lb)) mb op fb (.dct ds))]
section
variable{w:Ì}{la lb:List Int}{mb op fb:AV}{ds:List (AE×AV)}{W0:List Wd}{Q:AV->List Ob->Prop}
def El(l:List Ab):subAll nn (l.map Dh)=some (l.map Dh):=Cq (λ_=>rfl) _
def DS(l:List Wd):subAll nn (l.map By)=some (l.map By):=Cq (λ_=>rfl) _
def Rg(l:List Wd):subAll nn (l.map By).reverse=some (l.map By).reverse:=aH9 (f:=By) (l:=l)▸DS _
def VV{α:Type}{f:α->AV}{l:List α}{n:Nat}(h:l.length<=n)(hn:n<=1000):AC (l.map f).length:=zP (Â (z6 ..)) (zP h (zP hn (by decide)))
def Y8{lo hi:Nat}{st ls:List Wd}{fs:List Ab}{K:KS}(S:BO (.lst (zs la)) (.lst (zs lb)) mb op fb (.dct ds))(hB:BJ lb ds)(hz:la.length<=100000/\lb.length<=100000)(hw:Fz lb.length ((lo,hi)::st))(hm:fs.length+ls.length+Fr ((lo,hi)::st)<=900)
  (h0:LM la lb 0 la.length lo hi 0 lo 0->∀a b c d e,K .next (pS la lb mb op fb ds (nI la.length) (fs.map Dh) ((ls++[(lo,hi)]).map By) (st.map By).reverse (pT a b c d e)))
  (h1 :∀i j k,LM la lb 0 la.length lo hi i j k->0<k->∀a b c d e L,K .next ⟨(pS la lb mb op fb ds (nI la.length) ((fs++[(j,i,k)]).map Dh) (ls.map By) ((psw (j+k) hi (psw lo j st)).map By).reverse (pT a b c d e)).ρ,[(0,pO la lb mb op fb ds),(1,.list ((fs++[(j,i,k)]).map Dh)),(2,.list (ls.map By)),(3,.list ((psw (j+k) hi (psw lo j st)).map By).reverse),(4,.list L)],5,1⟩) :
  wL (Av w) (Be w 29) wP.2 (pS la lb mb op fb ds (nI la.length) (fs.map Dh) (ls.map By) (((lo,hi)::st).map By).reverse []) K:=by
 have hx:=hw _ (z8 ..)
 have hst:st.length<=Fr st:=Fz.len (n:=lb.length) λp hp=>hw p (À _ hp)
 have hwt:Fr ((lo,hi)::st)=(hi-lo)+Fr st:=rfl
 have hx1:lo<hi:=hx.1
 have hx2:hi<=lb.length:=hx.2
 have e:(((lo,hi)::st).map By).reverse=(st.map By).reverse++[By (lo,hi)]:=(congrArg aI5 (Ć ..)).trans (ġ ..)
 have lr:((st.map By).reverse).length=st.length:=(Ĉ ..).trans (z6 ..)
 rw[e,yK]
 refine⟨zP (Â zU) (by rw[lr];show st.length+1<=1000000;exact id (ql [_,_,_,_,_,_,_] 0xf42409183a0465ba22843080003849210aa08 (by rfl') hm hst hwt)),_,List.getLast?_concat,?_⟩
 rw[List.dropLast_concat]
 refine xU.mpr ⟨rfl,Fn (D:=aD) (at_:=Bc (.lst (zs la)) (.lst (zs lb)) mb op fb (.dct ds)) S.shut rfl Uu ⟨la,lb,mb,op,fb,ds,0,la.length,lo,hi,rfl,rfl,⟨S,hB⟩,hz,⟨Õ _,zX _⟩,⟨Û hx1,hx2⟩,λi j k hL=>?_⟩⟩
 refine yQ.mpr ⟨rfl,Ew (λek=>?_) λek=>?_⟩
 ·have hk:k=0:=ŗ (AE.int.inj ek)
  subst hk
  obtain⟨rfl,rfl⟩:=hL.zero rfl
  rw[uF,show(!(decide (AE.int ((0:Nat):Int)=AE.int 0)&&(decide (AE.int (j:Int)=AE.int (nI j))&&([]:List AV).isEmpty)))=false from by simp]
  refine Cn rfl (pB.mpr ⟨VV (n:=1000) (by exists[_,_,_],0x3e89100003849210aa08,hm) (zX _),?_⟩)
  rw[BE,CM]
  have:=h0 hL (nI j) (nI hi) ((0:Nat):Int) (j:Int) ((0:Nat):Int)
  rw[ù]at this
  exact this
 ·have hk:0<k:=Į λz=>ek (z▸rfl)
  obtain⟨s1,s2,s3,s4,s5⟩:=hL.str
  refine uC.mpr (Ew (λz=>absurd (Ç.mp z) (Đ.mpr s2)) λ_=>Ew (λz=>absurd (Ç.mp z) (Đ.mpr s4)) λ_=>?_)
  refine vS.mpr ⟨VV (n:=1000) (by exists[_,_,_],0x3e89000003849210aa08,hm) (zX _),s9.mpr ⟨rfl,?_⟩⟩
  rw[oV]
  refine W3 (lo:=lo) (j:=j) (e:=j+k) (hi:=hi) (st:=st) (by exists[_,_,_,_,_,_,_],0x3e8930465ba22843080003849210aa08,hm,hst,hwt) λL=>?_
  rw[BE,CM]
  have:=h1 i j k hL hk (nI lo) (nI hi) (i:Int) (j:Int) (k:Int) L
  rw[ù]at this
  exact this
def Xe{m:Nat}{σ:St}{K:KS}(S:BO (.lst (zs la)) (.lst (zs lb)) mb op fb (.dct ds))(hB:BJ lb ds)(hz:la.length<=100000/\lb.length<=100000)(hm:Fr W0<=900)(hI:pI la lb mb op fb ds W0 m σ)
  (hq :∀fs ls,Os la lb W0 fs ls->wL (Av w) (Be w 30) (Fh.drop 3) (pS la lb mb op fb ds (nI la.length) (fs.map Dh) (ls.map By) [] []) K) :
  (ws (Av w) Dk 29).B wP.1 σ λc σ=>BI c (wL (Av w) (Be w 29) wP.2 σ (turn (λσ=>∃m' τ,m'<m/\A0 σ τ/\pI la lb mb op fb ds W0 m' τ) (kx (Av w) (Be w 30) (Fh.drop 3) K))) (wL (Av w) (Be w 29) [] σ (kx (Av w) (Be w 30) (Fh.drop 3) K)):=by
 obtain⟨st,ls,fs,rfl,rfl,hw,ho,hP⟩:=hI
 rw[t6,nH]
 show BI (!((st.map By).reverse).isEmpty) _ _
 cases st with
 | nil=>
  refine Cn rfl ?_
  rw[CM,BE]
  have:=hP [] [] .nil
  rw[Ô,Ô]at this
  exact hq fs ls this
 | cons p st=>
  obtain⟨lo,hi⟩:=p
  have e2:(!((((lo,hi)::st).map By).reverse).isEmpty)=true:=by rw[Ć,ġ];cases(st.map By).reverse<;>rfl
  refine En e2 ?_
  have hx:=hw _ (z8 ..)
  have hx1:lo<hi:=hx.1
  have hx2:hi<=lb.length:=hx.2
  have hw':Fz lb.length st:=λq hq=>hw q (À _ hq)
  have hwt:Fr ((lo,hi)::st)=(hi-lo)+Fr st:=rfl
  refine Y8 S hB hz hw (zP ho hm) (λhL a b c d e=>?_) λi j k hL hk a b c d e L=>?_
  ·refine⟨Fr st,_,by(exists[_,_,_,_],0x231301ba2281018,hx.1,hwt),Tk,st,ls++[(lo,hi)],fs,rfl,rfl,hw',by rw[zU];show fs.length+(ls.length+1)+Fr st<=_;exact id (ql [_,_,_,_,_,_,_] 0x36181a0aa0645ba22854183210aa08 (by rfl') ho hx.1 hwt),λfs' ls' h=>?_⟩
   rw[Ï]
   exact hP _ _ (.left hL h)
  ·obtain⟨s1,s2,s3,s4,s5⟩:=hL.str
   refine⟨Fr (psw (j+k) hi (psw lo j st)),_,by rw[G0,G0];(exists[_,_,_,_,_,_],0x325ba45a1ba1145a08520840818321ba028,hwt,hk,s2,s4),U5 S (El _) (DS _) (Rg _),psw (j+k) hi (psw lo j st),ls,fs++[(j,i,k)],rfl,rfl,(hw'.psw (by exists[_,_,_,_],0x120032a081008,hx.2,s4)).psw hx2,by rw[zU,G0,G0];show fs.length+1+ls.length+_<=_;exact id (ql [_,_,_,_,_,_,_,_,_] 0x3652fba72fa4ba1180aaa0472fa082f50870818654ba2283210aa08 (by rfl') ho hwt hk s2 s4),λfs' ls' h=>?_⟩
   rw[Ï]
   exact hP _ _ (.run hL hk h)
def TZ{W:List Wd}:Fr W.reverse=Fr W:=by
 unfold Fr
 rw[aH9,List.sum_reverse]
end
variable{w:Ì}{d:Nat}
def kJ:O3 (lF w) (H1 w.params) (Av w) (d+3) aN Ou aM NM aI:=
 U2 (λf t e=>BL (b:=Ù f 196) (x:=some BP) (y:=none) e (λq e=>Å q▸zR e▸PE) AA) (λe=>nomatch e) (λe=>nomatch e) (λ_ e=>nomatch e)
def a7(b:Ab):Yo (Dh b)=some (nI b.1):=rfl
def bO(b:Wd):Yo (By b)=some (nI b.1):=rfl
def Oe:BW (lF w) (H1 w.params) (d+5) (.ref 256) MQ:=
 Ox kJ (RZ _).2.2 (RZ _).1 (RZ _).2.1 (ps:=["matcher","size","windows"]) (by decide) (by rfl') (NV λa b c=>by rfl') λas os Q hh=>by
  obtain⟨la,lb,mb,op,fb,ds,W,ea,eo,⟨S,hB⟩,hz,⟨hw,hm⟩,hq⟩:=hh
  subst ea;subst eo
  have hl:W.length<=900:=zP hw.len hm
  have hi :∀v:AV,v∈W.map By->True:=λ_ _=>trivial
  refine⟨⟨rfl,CA S.shut⟩,j5.mpr ⟨rfl,DS W,?_⟩⟩
  rw[nX]
  refine Df (λk=>[(W.map By).getD k .none]) (λρ=>ρ=([]:List (Str×AV))\/∃v,ρ=([("window",v)]:List (Str×AV))) (.inl rfl) (λ_ _ _ _=>trivial) (zP (Â (z6 ..)) (zP hl (by decide))) (λ_=>zX _) (λk v hv ρ L K hI hL hK=>?_) ?_
  ·have ev:(W.map By).getD k .none=v:=by rw[Ø,hv];rfl
   have go:=hK [("window",v)] (.inr ⟨v,rfl⟩)
   rw[ev]at go
   exact hI.elim (λe=>e▸iD.mpr (CD hL go)) λq=>q.elim λu e=>e▸jU.mpr (CD hL go)
  ·rw[Fd,show(Ë (W.map By).length).map (λk=>(W.map By).getD k .none)=W.map By from DF ..]
   refine jG.mpr ?_
   rw[yC]
   refine⟨pI la lb mb op fb ds W.reverse,Fr W.reverse,⟨_,.refl _,W.reverse,[],[],by rw[aH9,List.reverse_reverse];rfl,rfl,λp hp=>hw p (Ō.mp hp),by show 0+0+_<=_;exact id (ql [_] 0x808aa0 (by rfl')),λ_ _ h=>h⟩,λm σ hI=>Xe S hB hz (TZ.symm▸hm) hI λfs ls h=>?_⟩
   obtain⟨F,L,⟨p1,p2⟩,⟨s1,s2⟩,⟨l1,l2⟩,hQ⟩:=hq fs ls h
   rw[s0]
   refine Lk a7 p1 s1 l1 (0,0,0) (Lk bO p2 s2 l2 (0,0) ?_)
   exact DQ (fl:=.ret _) rfl (.refl _) rfl (Ae (AW (Ae (El F)) (AW (Ae (DS L)) rfl))) S.shut hQ
end
def HA:List í:=(CH pw.main.body "_law_plain").1
def Bn:Scope:=(CH pw.main.body "_law_plain").2
def QF(P:Ó):(CV P 261).body = .stmts HA/\(CV P 261).scope=Bn/\BF P 261=true:=⟨by rfl',by rfl',by rfl'⟩
abbrev A2(w:Ì):Pm:=Ij w.params (λ_=>none) none false false (ln [506]) (ln [516])
abbrev BZ(w:Ì)(f:Nat):WS:=Fo (A2 w) Bn f
def eQ:List Expr:=GD (D5 (HA.getD 0 (.Pass AB)))
def cQ:CL:=FG (eQ.getD 0 (.Name ("":Str) AB))
def fJ:Expr×List í:=E0 (HA.getD 1 (.Pass AB))
def cH:CL:=FG (D5 (fJ.2.getD 0 (.Pass AB)))
def gE(w:Ì):AV->St->KS->Prop:=λv σ K=>(ws (A2 w) Bn 29).A fJ.1 v σ λσ=>wL (A2 w) (BZ w 29) fJ.2 σ K
abbrev qS(T:List AV)(nw fr:List Int)(refs:List AV)(la:AV)(L:List (Nat×AO))(m:Nat)(tl:List (Str×AV)):St:=⟨("texts",.lst T)::("new",.lst (zs nw))::("fresh",.lst (zs fr))::("last",la)::("pieces",.ref 0)::tl,(0,.list refs)::L,m,0⟩
section
variable{w:Ì}{T refs rs M:List AV}{nw fr:List Int}{L:List (Nat×AO)}{m n a:Nat}{la u v:AV}{j k l:Int}{K:KS}{R:St->Prop}{H:List (Nat×AO)}
abbrev QQ(w:Ì)(K:KS):AV->St->Prop:=λv σ=>Hm (ws (A2 w) Bn 28).E (eQ.drop 1) σ λvs σ=>Ln (.tup (v::vs)) 2 σ λvs σ=>Vg Bn (["last","pieces"]:List Str) vs.reverse σ λσ=>wL (A2 w) (BZ w 30) (HA.drop 1) σ K
def yF:wL (A2 w) (BZ w 30) HA (A4 [("texts",.lst T),("new",.lst (zs nw)),("fresh",.lst (zs fr))] []) K=(subAll nn T=some T/\Aj (.list []) T (Ce (A2 w) 27 Bn cQ 0) (Ah cQ.2.2) ⟨[("texts",.lst T),("new",.lst (zs nw)),("fresh",.lst (zs fr))],[],0,0⟩ (QQ w K)):=by rfl'
def yZ:Ah cQ.2.2=[]:=by rfl'
def wZ:Ce (A2 w) 27 Bn cQ 0 v ⟨[],(0,.list rs)::L,m+1,0⟩ R=(AC rs.length/\R ⟨[("text",v)],(0,.list (rs++[.ref (m+1)]))::AP L (m+1) (.list []),m+2,0⟩):=by rfl'
def rL:Ce (A2 w) 27 Bn cQ 0 v ⟨[("text",u)],(0,.list rs)::L,m+1,0⟩ R=(AC rs.length/\R ⟨[("text",v)],(0,.list (rs++[.ref (m+1)]))::AP L (m+1) (.list []),m+2,0⟩):=by rfl'
def zJ:QQ w K (.ref 0) ⟨[("texts",.lst T),("new",.lst (zs nw)),("fresh",.lst (zs fr))],(0,.list refs)::L,m,0⟩=(2=2/\wL (A2 w) (BZ w 30) (HA.drop 1) (qS T nw fr refs .none L m []) K):=by rfl'
def tT:wL (A2 w) (BZ w 30) (HA.drop 1) (qS T nw fr refs la L m []) K=(AC (zs nw).length/\Au 0 (zs nw).length/\D1 (Ao 0 (((zs nw).length:Int)-0).toNat) (gE w) (wL (A2 w) (BZ w 29) []) (qS T nw fr refs la L m []) (kx (A2 w) (BZ w 30) (HA.drop 2) K)):=by rfl'
def xQ:gE w (.int j) (qS T nw fr refs la L m []) K=(AC T.length/\Au 0 T.length/\Aj (.list []) (Ao 0 ((T.length:Int)-0).toNat) (Ce (A2 w) 27 Bn cH m) (Ah cH.2.2) (qS T nw fr refs la L m [("j",.int j)]) λv σ=>As (ws (A2 w) Bn 28).A (Ax (fJ.2.getD 0 (.Pass AB))) v σ λσ=>wL (A2 w) (BZ w 29) (fJ.2.drop 1) σ K):=by rfl'
def xX:Ah cH.2.2=(["j","new","texts"]:List Str):=by rfl'
def zM:Ce (A2 w) 27 Bn cH n (.int k) ⟨[("j",.int j),("new",.lst (zs nw)),("texts",.lst T)],H,m,a⟩ R=(BH j/\∃x,CF (zs nw) j=some x/\BH k/\∃t,CF T k=some t/\CQ .In x t ⟨[("j",.int j),("new",.lst (zs nw)),("texts",.lst T),("u",.int k)],H,m,a⟩ λr σ=>Ca r σ λb σ=>BI b (Am .append [.ref n,.int k] σ λ_ τ=>R τ) (R σ)):=by rfl'
def sH:As (ws (A2 w) Bn 28).A (Ax (fJ.2.getD 0 (.Pass AB))) v (qS T nw fr refs la L m [("j",.int j)]) R=R (qS T nw fr refs la L m [("j",.int j),("having",v)]):=by rfl'
def qz{σ:St}:wL (A2 w) (BZ w 30) (HA.drop 2) σ K =∃τ,A0 σ τ/\BZ w 30 (HA.getD 2 (.Pass AB)) τ (kx (A2 w) (BZ w 30) [] K):=by rfl'
def vE:BZ w 30 (HA.getD 2 (.Pass AB)) ⟨[("pieces",v)],H,m,a⟩ K=K (.ret v) ⟨[("pieces",v)],H,m,a⟩:=by rfl'
end
end Mine
end
namespace Mine
structure S5(Ts:List (List Int))(x:Int)(u i:Nat):Prop where
 at_ :∃T,Ts[u]?=some T/\T[i]?=some x/\x∈T/\T.idxOf x=i
 no :∀v T,u<v->Ts[v]?=some T->x∉T
inductive Pl(Ts:List (List Int))(nw fr:List Int):Nat->List (List Ab)->Option (Nat×Nat)->Prop
 | nil:Pl Ts nw fr 0 (Ts.map λ_=>[]) none
 | skip {j P la x} (r:Pl Ts nw fr j P la) (h:nw[j]?=some x) (n:x∉fr\/∀T∈Ts,x∉T):Pl Ts nw fr (j+1) P none
 | ext {j P u i x bs a b c} (r:Pl Ts nw fr j P (some (u,i))) (h:nw[j]?=some x) (f:x∈fr) (y:S5 Ts x u (i+1)) (e:P[u]?=some (bs++[(a,b,c)])):Pl Ts nw fr (j+1) (P.set u (bs++[(a,b,c+1)])) (some (u,i+1))
 | new {j P la u i x bs} (r:Pl Ts nw fr j P la) (h:nw[j]?=some x) (f:x∈fr) (y:S5 Ts x u i) (e:P[u]?=some bs) (n :∀i',la=some (u,i')->i'+1≠i):Pl Ts nw fr (j+1) (P.set u (bs++[(j,i,1)])) (some (u,i))
section
variable{Ts:List (List Int)}{nw fr:List Int}{j:Nat}{P:List (List Ab)}{la:Option (Nat×Nat)}
def Pl.len(h:Pl Ts nw fr j P la):P.length=Ts.length:=by
 induction h with
 | nil=>exact z6 ..
 | skip _ _ _ ih=>exact ih
 | ext _ _ _ _ _ ih=>rw[aI9];exact ih
 | new _ _ _ _ _ _ ih=>rw[aI9];exact ih
def Pl.last(h:Pl Ts nw fr j P la){u i:Nat}(e:la=some (u,i)) :∃bs a b c,P[u]?=some (bs++[(a,b,c)]):=by
 have at_ :∀{P:List (List Ab)} {u:Nat} {x y:List Ab},P[u]?=some x->(P.set u y)[u]?=some y:=λ{P u x y} h=>by
  rw[aC5 (zT.mp h).1]
 cases h with
 | nil=>cases e
 | skip=>cases e
 | ext r h f y e'=>cases e;exact⟨_,_,_,_,at_ e'⟩
 | new r h f y e'=>cases e;exact⟨_,_,_,_,at_ e'⟩
def Pl.short(h:Pl Ts nw fr j P la) :∀(u:Nat) (bs:List Ab),P[u]?=some bs->bs.length<=j:=by
 have go :∀{P:List (List Ab)} {v:Nat} {y:List Ab} {n:Nat},(∀(u:Nat) (bs:List Ab),P[u]?=some bs->bs.length<=n)->y.length<=n+1->∀(u:Nat) (bs:List Ab),(P.set v y)[u]?=some bs->bs.length<=n+1:=λ{P v y n} h hy u bs e=>by
  rw[List.getElem?_set]at e
  split at e
  ·split at e
   ·cases e;exact hy
   ·cases e
  ·exact ð (h u bs e)
 induction h with
 | nil=>intro u bs e;rw[Ð]at e;cases h:Ts[u]?<;>rw[h]at e<;>cases e;exact zX _
 | skip _ _ _ ih=>exact λu bs e=>ð (ih u bs e)
 | ext _ _ _ _ e ih=>exact go ih (by have:=ih _ _ e;rw[zU]at this ⊢;exact ð this)
 | new _ _ _ _ e _ ih=>exact go ih (by rw[zU];exact ý (ih _ _ e))
end
end Mine
section
open PySem PySem.W PyProof.Rows
namespace Mine
def fS(k:Nat):í:=fJ.2.getD k (.Pass AB)
abbrev qT(T:List AV)(nw fr:List Int)(refs:List AV)(la:AV)(L:List (Nat×AO))(m:Nat)(j:Int)(h:Nat)(tl:List (Str×AV)):St:=qS T nw fr refs la L m (("j",.int j)::("having",.ref h)::tl)
noncomputable def hE:Expr:=.Compare (.Name ("having":Str) ⟨506,34,506,40⟩) [.Eq] [.List [] ⟨506,44,506,46⟩] ⟨506,34,506,46⟩
def RI:List Expr:=GD (D5 ((Aa (fS 4)).getD 0 (.Pass AB)))
section
variable{w:Ì}{T refs M:List AV}{nw fr:List Int}{L:List (Nat×AO)}{m n a h:Nat}{la u v:AV}{j k l b c:Int}{K:KS}{R:St->Prop}{B:Bool->St->Prop}{Q:AV->St->Prop}{H:List (Nat×AO)}
def v9:Ce (A2 w) 27 Bn cH n (.int k) ⟨[("j",.int j),("new",.lst (zs nw)),("texts",.lst T),("u",.int l)],H,m,a⟩ R=(BH j/\∃x,CF (zs nw) j=some x/\BH k/\∃t,CF T k=some t/\CQ .In x t ⟨[("j",.int j),("new",.lst (zs nw)),("texts",.lst T),("u",.int k)],H,m,a⟩ λr σ=>Ca r σ λb σ=>BI b (Am .append [.ref n,.int k] σ λ_ τ=>R τ) (R σ)):=by rfl'
def t8:wL (A2 w) (BZ w 29) (fJ.2.drop 1) (qT T nw fr refs la L m j h []) K=(BH j/\∃x,CF (zs nw) j=some x/\CQ .NotIn x (.lst (zs fr)) (qT T nw fr refs la L m j h []) λr σ=>Ca r σ λb σ=>BI b (wL (A2 w) (BZ w 28) (Aa (fS 1)) σ (kx (A2 w) (BZ w 29) (fJ.2.drop 2) K)) ((ws (A2 w) Bn 27).B hE σ λb σ=>BI b (wL (A2 w) (BZ w 28) (Aa (fS 1)) σ (kx (A2 w) (BZ w 29) (fJ.2.drop 2) K)) (wL (A2 w) (BZ w 29) (fJ.2.drop 2) σ K))):=by rfl'
def mO:(ws (A2 w) Bn 27).B hE (qT T nw fr refs la L m j h []) B=A9 (EX (qT T nw fr refs la L m j h []) (.ref h) (.lst [])) λr=>B r (qT T nw fr refs la L m j h []):=by rfl'
def wF:wL (A2 w) (BZ w 28) (Aa (fS 1)) (qT T nw fr refs la L m j h []) K=K .cont (qT T nw fr refs .none L m j h []):=by rfl'
def yL:wL (A2 w) (BZ w 29) (fJ.2.drop 2) (qT T nw fr refs la L m j h []) K=Fj (.ref h) (.int (-1)) (qT T nw fr refs la L m j h []) λv σ=>As (ws (A2 w) Bn 28).A (Ax (fS 2)) v σ λσ=>wL (A2 w) (BZ w 29) (fJ.2.drop 3) σ K:=by rfl'
def lL:As (ws (A2 w) Bn 28).A (Ax (fS 2)) v (qT T nw fr refs la L m j h []) R=R (qT T nw fr refs la L m j h [("u",v)]):=by rfl'
def xH:wL (A2 w) (BZ w 29) (fJ.2.drop 3) (qT T nw fr refs la L m j h [("u",.int k)]) K=(BH k/\∃t,CF T k=some t/\A9 (L5 (A2 w).K t ("index":Str) (qT T nw fr refs la L m j h [("u",.int k)])) λg=>BH j/\∃x,CF (zs nw) j=some x/\Di (A2 w) g.1 (bif g.2 then [t,x]else [x]) (qT T nw fr refs la L m j h [("u",.int k)]) λv σ=>As (ws (A2 w) Bn 28).A (Ax (fS 3)) v σ λσ=>wL (A2 w) (BZ w 29) (fJ.2.drop 4) σ K):=by rfl'
def n7:As (ws (A2 w) Bn 28).A (Ax (fS 3)) v (qT T nw fr refs la L m j h [("u",.int k)]) R=R (qT T nw fr refs la L m j h [("u",.int k),("i",v)]):=by rfl'
def vB:wL (A2 w) (BZ w 29) (fJ.2.drop 4) (qT T nw fr refs la L m j h [("u",.int k),("i",.int l)]) K=A9 (EX (qT T nw fr refs la L m j h [("u",.int k),("i",.int l)]) la (.tup [.int k,.int (l-1)])) λr=>BI r (wL (A2 w) (BZ w 28) (Aa (fS 4)) (qT T nw fr refs la L m j h [("u",.int k),("i",.int l)]) (kx (A2 w) (BZ w 29) (fJ.2.drop 5) K)) (wL (A2 w) (BZ w 28) (C8 (fS 4)) (qT T nw fr refs la L m j h [("u",.int k),("i",.int l)]) (kx (A2 w) (BZ w 29) (fJ.2.drop 5) K)):=by rfl'
def iG{σ:St}:EX σ .none (.tup [.int k,.int l])=some false:=by rfl'
def m4{σ:St}:EX σ (.tup [.int b,.int c]) (.tup [.int k,.int l])=some (decide (AE.int b=AE.int k)&&(decide (AE.int c=AE.int l)&&([]:List AV).isEmpty)):=by rfl'
def r7{σ:St}:wL (A2 w) (BZ w 28) (Aa (fS 4)) σ K=Hm (ws (A2 w) Bn 26).E RI σ λvs σ=>As (ws (A2 w) Bn 27).A (Ax ((Aa (fS 4)).getD 0 (.Pass AB))) (.tup vs) σ λσ=>K .next σ:=by rfl'
def wH:(ws (A2 w) Bn 26).E (RI.getD 0 (.Name ("":Str) AB)) (qT T nw fr refs la L m j h [("u",.int k),("i",.int l)]) Q=(BH k/\∃r,CF refs k=some r/\Fj r (.int (-1)) (qT T nw fr refs la L m j h [("u",.int k),("i",.int l)]) λv σ=>Fj v (.int 0) σ Q):=by rfl'
def jS:(ws (A2 w) Bn 26).E (RI.getD 1 (.Name ("":Str) AB)) (qT T nw fr refs la L m j h [("u",.int k),("i",.int l)]) Q=(BH k/\∃r,CF refs k=some r/\Fj r (.int (-1)) (qT T nw fr refs la L m j h [("u",.int k),("i",.int l)]) λv σ=>Fj v (.int 1) σ Q):=by rfl'
def mR:(ws (A2 w) Bn 26).E (RI.getD 2 (.Name ("":Str) AB)) (qT T nw fr refs la L m j h [("u",.int k),("i",.int l)]) Q=(BH k/\∃r,CF refs k=some r/\Fj r (.int (-1)) (qT T nw fr refs la L m j h [("u",.int k),("i",.int l)]) λv σ=>Fj v (.int 2) σ λv σ=>ET .Add v (.int 1) σ Q):=by rfl'
def uZ:RI=[RI.getD 0 (.Name ("":Str) AB),RI.getD 1 (.Name ("":Str) AB),RI.getD 2 (.Name ("":Str) AB)]:=by rfl'
def rP:wL (A2 w) (BZ w 28) (C8 (fS 4)) (qT T nw fr refs la L m j h [("u",.int k),("i",.int l)]) K=(BH k/\∃r,CF refs k=some r/\A9 (L5 (A2 w).K r ("append":Str) (qT T nw fr refs la L m j h [("u",.int k),("i",.int l)])) λg=>Di (A2 w) g.1 (bif g.2 then [r,Es j l 1]else [Es j l 1]) (qT T nw fr refs la L m j h [("u",.int k),("i",.int l)]) λ_ σ=>K .next σ):=by rfl'
def qQ:wL (A2 w) (BZ w 29) (fJ.2.drop 5) (qT T nw fr refs la L m j h [("u",.int k),("i",.int l)]) K=K .next (qT T nw fr refs (CB k l) L m j h [("u",.int k),("i",.int l)]):=by rfl'
end
def GG{vs:List AV}{i:Nat}{v:AV}(h:vs[i]?=some v):CF vs (i:Int)=some v:=by
 have hi:=(zT.mp h).1
 show(if(0<=(if(i:Int)<0 then(i:Int)+(vs.length:Int)else i)&&decide ((if(i:Int)<0 then(i:Int)+(vs.length:Int)else i)<(vs.length:Int)))=true then some (if(i:Int)<0 then(i:Int)+(vs.length:Int)else i).toNat else none).bind (vs[·]?)=_
 rw[if_neg (aF3.mpr (ą i)),if_pos (ê.mpr ⟨decide_eq_true (ą i),decide_eq_true (Ç.mpr hi)⟩)]
 exact h
def EP{vs:List AV}{v:AV}:CF (vs++[v]) (-1)=some v:=by
 have e:(-1:Int)+((vs++[v]).length:Int)=(vs.length:Int):=by rw[zU];show(-1:Int)+((vs.length+1:Nat):Int)=_;exact id (ql [_] 0xf180a0f181fa5 (by rfl'))
 show(if(0<=((-1:Int)+((vs++[v]).length:Int))&&decide ((-1:Int)+((vs++[v]).length:Int)<((vs++[v]).length:Int)))=true then some ((-1:Int)+((vs++[v]).length:Int)).toNat else none).bind ((vs++[v])[·]?)=_
 rw[e,if_pos (ê.mpr ⟨decide_eq_true (ą _),decide_eq_true (by rw[zU];exact Ç.mpr (Ê _))⟩)]
 exact List.getElem?_concat_length
section
variable{σ:St}{h u m n:Nat}{M:List AV}{Q:AV->St->Prop}{k:Int}{v:AV}{Ts:List (List Int)}{P:List (List Ab)}{L:List (Nat×AO)}
def Mt(e:σ.H.lookup h=some (.list M)):Ak σ (.ref h)=some M:=by
 show((Ñ (λo=>(h,o)) (σ.H.lookup h)).map (λp:Nat×AO=>p.2)).bind AO.lst=_
 rw[e];rfl
def JT(e:σ.H.lookup h=some (.list M))(hk:BH k)(hn:CF M k=some v)(q:Q v σ):Fj (.ref h) (.int k) σ Q:=by
 show Ö (A9 (Do σ (.ref h)) λes=>A9 (BR (.int k)) λk=>∃v,es.lookup k=some v/\Q v σ) (λvs=>X9 vs (.int k) σ Q) (Ak σ (.ref h))
 rw[Mt e]
 exact⟨hk,v,hn,q⟩
def Wu(e:σ.H.lookup h=some (.list M)):EX σ (.ref h) (.lst [])=some M.isEmpty:=by
 show J3 (Fq (.ref h) (.lst [])) (J3 ((Ak σ (.ref h)).bind λxs=>(some []).bind λys=>CW (GN 8) xs ys) _)=_
 rw[Mt e]
 cases M<;>rfl'
def T9{v w:AV}{A:List AV}{K:St->Prop}(e:σ.H.lookup h=some (.list (A++[v])))(hz:A.length<=999999)(q:K (σ.set h (.list (A++[w])))):TR (.ref h) (.int (-1)) w σ K:=by
 show A9 (Ñ (h,·) (σ.H.lookup h)) λp=>AO.rec (λvs=>AC vs.length/\A9 (Aw (.int (-1))) λk=>((0<=k/\k<vs.length)/\K (σ.set p.1 (.list (vs.set k.toNat w))))\/((k = -1/\0<vs.length)/\K (σ.set p.1 (.list (vs.set (vs.length-1) w))))) (λes=>AC es.length/\A9 (BR (.int (-1))) λk=>K (σ.set p.1 (.dict (dset es k w)))) (λ_=>False) (λ_ _=>False) p.2
 rw[e]
 refine⟨by rw[zU];exact ý hz,.inr ⟨⟨rfl,by rw[zU];exact Ň _⟩,?_⟩⟩
 rw[show(A++[v]).set ((A++[v]).length-1) w=A++[w]from by rw[zU,List.set_append_right _ _ (by show A.length<=A.length+1-1;exact zX _)];show A++[v].set (A.length+1-1-A.length) w=_;rw[Nat.add_sub_cancel,aI6];rfl]
 exact q
def Jx{k:Nat}(h:k<1000000):BH (k:Int):=⟨ż (by decide) (ą k),Ç.mpr h⟩
def S8:BH (-1):=⟨by decide,by decide⟩
def TA(Ts:List (List Int)):List AV:=Ts.map λt=>.lst (zs t)
def Vk(la:Option (Nat×Nat)):AV:=match la with
 | none=>.none
 | some (u,i)=>CB (nI u) (nI i)
noncomputable def G9(n:Nat):List AV:=(Ë n).map λk=>.ref (k+1)
def VF(hu:u<n):(G9 n)[u]?=some (.ref (u+1)):=by
 unfold G9
 rw[Ð,Θ hu];rfl
def S9{l:List Int}{x:Int}:(l.map AE.int).idxOf (AE.int x)=l.idxOf x:=by
 induction l with
 | nil=>rfl
 | cons a l ih=>
  rw[Ć,List.idxOf_cons,List.idxOf_cons,ih]
  have:(AE.int a==AE.int x)=(a==x):=by
   rw[aA0,beq_iff_eq,beq_iff_eq];exact⟨AE.int.inj,λe=>e▸rfl⟩
  rw[this]
structure LI(n:Nat)(P:List (List Ab))(L:List (Nat×AO))(m:Nat):Prop where
 len:P.length=n
 le:n<=m
 at_ :∀u bs,P[u]?=some bs->L.lookup (u+1)=some (.list (bs.map Dh))
def LI.gar{o:AO}(h:LI n P L m):LI n P (AP L (m+1) o) (m+1):=⟨h.len,ð h.le,λu bs e=>(FS (λz=>ò m (zZ (Ņ z▸h.len▸(zT.mp e).1) h.le))).trans (h.at_ u bs e)⟩
def LI.put{bs:List Ab}(h:LI n P L m):LI n (P.set u bs) (AP L (u+1) (.list (bs.map Dh))) m:=by
 refine⟨(aI9 ..).trans h.len,h.le,λv cs e=>?_⟩
 by_cases z:v=u
 ·subst z
  rw[List.getElem?_set_self']at e
  cases hp:P[v]? with
  | none=>rw[hp]at e;exact nomatch e
  | some _=>rw[hp]at e;cases e;exact Dp
 ·rw[List.getElem?_set_ne (aD6 z)]at e
  exact(FS λq=>z (Ņ q)).trans (h.at_ v cs e)
end
def Q2{x:Int}{t:List Int}{σ:St}{Q:AV->St->Prop}:CQ .In (.int x) (.lst (zs t)) σ Q=Q (.bool (decide (x∈t))) σ:=by
 show A9 (BY (zs t)) (λks=>Q (.bool (decide (AE.int x∈ks))) σ)=_
 rw[EM]
 show Q (.bool (decide (AE.int x∈t.map AE.int))) σ=_
 rw[Ir]
def N3{x:Int}{t:List Int}{σ:St}{Q:AV->St->Prop}:CQ .NotIn (.int x) (.lst (zs t)) σ Q=Q (.bool (!decide (x∈t))) σ:=by
 show A9 (BY (zs t)) (λks=>Q (.bool (!decide (AE.int x∈ks))) σ)=_
 rw[EM]
 show Q (.bool (!decide (AE.int x∈t.map AE.int))) σ=_
 rw[Ir]
def MH{b:Bool}{σ:St}{Q:Bool->St->Prop}:Ca (.bool b) σ Q=Q b σ:=by cases b<;>rfl'
def Kg{Ts:List (List Int)}{u:Nat}{T:List Int}(e:Ts[u]?=some T):CF (TA Ts) (u:Int)=some (.lst (zs T)):=GG (by unfold TA;rw[Ð,e];rfl)
def S6(Ts:List (List Int))(x:Int)(k:Nat):List AV:=bif decide (x∈Ts.getD k [])then [.int (0+(k:Int))]else []
def Il(Ts:List (List Int))(x:Int)(n:Nat):List AV:=(Ë n).flatMap (S6 Ts x)
def SR{Ts:List (List Int)}{x:Int}(n:Nat):(Il Ts x n=[]/\∀k,k<n->x∉Ts.getD k [])\/∃u A,(u<n/\x∈Ts.getD u []/\∀v,u<v->v<n->x∉Ts.getD v [])/\Il Ts x n=A++[.int (u:Int)]:=by
 induction n with
 | zero=>exact .inl ⟨rfl,λk h=>absurd h (ø k)⟩
 | succ n ih=>
  have e:Il Ts x (n+1)=Il Ts x n++S6 Ts x n:=by unfold Il;rw[ľ,Ś,aC4]
  by_cases h:x∈Ts.getD n []
  ·have e2:S6 Ts x n=[.int (n:Int)]:=by unfold S6;rw[decide_eq_true h,ę];rfl
   exact .inr ⟨n,Il Ts x n,⟨Ê n,h,λv h1 h2=>absurd h1 (Đ.mpr (î h2))⟩,e2▸e⟩
  ·have e2:S6 Ts x n=[]:=by unfold S6;rw[decide_eq_false h];rfl
   rw[e2,Ô]at e
   rw[e]
   have st :∀{p:Nat->Prop} {k:Nat},k<n+1->(k<n->p k)->p n->p k:=λ{p k} h a b=>(ú (î h)).elim a λq=>q▸b
   exact ih.imp (λ⟨a,b⟩=>⟨a,λk hk=>st (p:=λk=>x∉Ts.getD k []) hk (b k) h⟩) λ⟨u,A,⟨a,b,c⟩,d⟩=>⟨u,A,⟨ã a,b,λv h1 h2=>st (p:=λv=>x∉Ts.getD v []) h2 (c v h1) h⟩,d⟩
def GL{Ts:List (List Int)}{u:Nat}(h:u<Ts.length):Ts[u]?=some (Ts.getD u []):=by rw[Ø,zV h];rfl
def MW{Ts:List (List Int)}{u:Nat}{T:List Int}(h:Ts[u]?=some T):Ts.getD u []=T:=by rw[Ø,h];rfl
def YA{Ts:List (List Int)}{x:Int}{u:Nat}(h:u<Ts.length/\x∈Ts.getD u []/\∀v,u<v->v<Ts.length->x∉Ts.getD v []):S5 Ts x u ((Ts.getD u []).idxOf x):=
 ⟨⟨_,GL h.1,(zV (ı.mpr h.2.1)).trans (congrArg some (aF7 (ı.mpr h.2.1))),h.2.1,rfl⟩,λv T hv e=>MW e▸h.2.2 v hv (zT.mp e).1⟩
abbrev S4(Ts:List (List Int))(nw fr:List Int)(la:Option (Nat×Nat))(L:List (Nat×AO))(m:Nat)(tl:List (Str×AV)):St:=qS (TA Ts) nw fr (G9 Ts.length) (Vk la) L (m+1) tl
abbrev J5(Ts:List (List Int))(nw fr:List Int)(la:Option (Nat×Nat))(L:List (Nat×AO))(m j:Nat)(x:Int)(tl:List (Str×AV)):St:=qT (TA Ts) nw fr (G9 Ts.length) (Vk la) (AP L (m+1) (.list (Il Ts x Ts.length))) (m+2) (nI j) (m+1) tl
def JX{o p:AO}{L:List (Nat×AO)}{m:Nat}:AP ((0,o)::L) (m+1) p=(0,o)::AP L (m+1) p:=by
 show(bif (0:Nat)==m+1 then((0:Nat),p)::L else(0,o)::AP L (m+1) p)=_
 rw[beq_eq_false_iff_ne.mpr (Nat.succ_ne_zero m).symm];rfl
section
variable{w:Ì}{Ts:List (List Int)}{nw fr:List Int}{la:Option (Nat×Nat)}{L:List (Nat×AO)}{m j:Nat}{x:Int}{K:KS}{P:List (List Ab)}
def YX(hT:Ts.length<=1000)(hj:j<1000000)(hx:nw[j]?=some x)(h:wL (A2 w) (BZ w 29) (fJ.2.drop 1) (J5 Ts nw fr la L m j x []) K):gE w (.int (nI j)) (S4 Ts nw fr la L m []) K:=by
 have lT:(TA Ts).length=Ts.length:=z6 ..
 rw[xQ,xX,lT]
 have e1:((Ts.length:Int)-0).toNat=Ts.length:=by rw[aB4];rfl
 rw[e1]
 refine⟨zP hT (by decide),⟨by decide,by decide,by(exists[_],0xf0f424091f3),by exists[_],0xf4240900f30003e89008,hT⟩,?_⟩
 refine Df (S6 Ts x) (λρ=>ρ=([("j",.int (nI j)),("new",.lst (zs nw)),("texts",.lst (TA Ts))]:List (Str×AV))\/∃l:Int,ρ=([("j",.int (nI j)),("new",.lst (zs nw)),("texts",.lst (TA Ts)),("u",.int l)]:List (Str×AV))) (.inl rfl) (λρ H' n' hI=>hI.elim (λe=>e▸⟨rfl,rfl,rfl,trivial⟩) λq=>q.elim λl e=>e▸⟨rfl,rfl,rfl,trivial⟩)
  (zP (Â (AY ..)) (zP hT (by decide))) (λk=>by unfold S6;cases decide (x∈Ts.getD k [])with | true=>exact zX _ | false=>exact Õ _) (λk v hv ρ M K hI hM hK=>?_) ?_
 ·have hk:=(zT.mp hv).1
  rw[AY]at hk
  cases zR (hv.symm.trans (B5 hk))
  have go:=hK _ (.inr ⟨0+(k:Int),rfl⟩)
  have fin:BH (nI j)/\∃x',CF (zs nw) (nI j)=some x'/\BH (0+(k:Int))/\∃t,CF (TA Ts) (0+(k:Int))=some t/\CQ .In x' t ⟨[("j",.int (nI j)),("new",.lst (zs nw)),("texts",.lst (TA Ts)),("u",.int (0+(k:Int)))],AP (S4 Ts nw fr la L m [("j",.int (nI j))]).H (m+1) (.list M),m+2,0⟩ λr σ=>Ca r σ λb σ=>BI b (Am .append [.ref (m+1),.int (0+(k:Int))] σ λ_ τ=>K τ) (K σ):=by
   refine⟨Jx hj,_,F7 hx,by rw[ę];exact Jx (zZ hk (zP hT (by decide))),_,by rw[ę];exact Kg (GL hk),?_⟩
   rw[Q2,MH]
   unfold S6 at go
   cases hd:decide (x∈Ts.getD k [])with
   | true=>rw[hd]at go;exact CD hM go
   | false=>rw[hd,show M++(bif false then [AV.int (0+(k:Int))]else [])=M from Ô M]at go;exact go
  exact hI.elim (λe=>e▸zM.mpr fin) λq=>q.elim λl e=>e▸v9.mpr fin
 ·rw[AY]
  have h':As (ws (A2 w) Bn 28).A (Ax (fJ.2.getD 0 (.Pass AB))) (.ref (m+1)) (qS (TA Ts) nw fr (G9 Ts.length) (Vk la) (AP L (m+1) (.list (Il Ts x Ts.length))) (m+2) [("j",.int (nI j))]) λσ=>wL (A2 w) (BZ w 29) (fJ.2.drop 1) σ K:=sH.mpr h
  rw[show(AP (S4 Ts nw fr la L m [("j",.int (nI j))]).H (m+1) (.list ((Ë Ts.length).flatMap (S6 Ts x))))=(0,.list (G9 Ts.length))::AP L (m+1) (.list (Il Ts x Ts.length))from JX]
  exact h'
end
def Mw{o p:AO}{L:List (Nat×AO)}{u:Nat}(h:L.lookup (u+1)=some o):((0,p)::L).lookup (u+1)=some o:=by
 rw[AU,show(u+1==0)=false from beq_eq_false_iff_ne.mpr (Nat.succ_ne_zero u)];exact h
section
variable{w:Ì}{T refs:List AV}{nw fr:List Int}{L:List (Nat×AO)}{m h:Nat}{la v:AV}{j k l:Int}{R:St->Prop}{σ:St}{b:Ab}{Q:AV->St->Prop}
def jM:As (ws (A2 w) Bn 27).A (Ax ((Aa (fS 4)).getD 0 (.Pass AB))) v (qT T nw fr refs la L m j h [("u",.int k),("i",.int l)]) R=(BH k/\∃r,CF refs k=some r/\TR r (.int (-1)) v (qT T nw fr refs la L m j h [("u",.int k),("i",.int l)]) λσ=>R σ):=by rfl'
def j8(q:Q (.int (nI b.1)) σ):Fj (Dh b) (.int 0) σ Q:=⟨Jx (k:=0) (by decide),_,GG (i:=0) (vs:=[.int (nI b.1),.int (nI b.2.1),.int (nI b.2.2)]) rfl,q⟩
def kP(q:Q (.int (nI b.2.1)) σ):Fj (Dh b) (.int 1) σ Q:=⟨Jx (k:=1) (by decide),_,GG (i:=1) (vs:=[.int (nI b.1),.int (nI b.2.1),.int (nI b.2.2)]) rfl,q⟩
def lZ(q:Q (.int (nI b.2.2)) σ):Fj (Dh b) (.int 2) σ Q:=⟨Jx (k:=2) (by decide),_,GG (i:=2) (vs:=[.int (nI b.1),.int (nI b.2.1),.int (nI b.2.2)]) rfl,q⟩
def UD{x y:Int}(q:Q (.int (x+y)) σ):ET .Add (.int x) (.int y) σ Q:=q
end
section
variable{w:Ì}{Ts:List (List Int)}{nw fr:List Int}{la:Option (Nat×Nat)}{L:List (Nat×AO)}{m j u i:Nat}{x:Int}{K:KS}{P:List (List Ab)}{bs:List Ab}
def eM{a b c:Nat}(hu:u<Ts.length)(hT:Ts.length<=1000)(hb:bs.length<=999999)(e:(AP L (m+1) (.list (Il Ts x Ts.length))).lookup (u+1)=some (.list ((bs++[(a,b,c)]).map Dh)))
  (h:K .next (qT (TA Ts) nw fr (G9 Ts.length) (Vk la) (AP (AP L (m+1) (.list (Il Ts x Ts.length))) (u+1) (.list ((bs++[(a,b,c+1)]).map Dh))) (m+2) (nI j) (m+1) [("u",.int (nI u)),("i",.int (nI i))])) :
  wL (A2 w) (BZ w 28) (Aa (fS 4)) (J5 Ts nw fr la L m j x [("u",.int (nI u)),("i",.int (nI i))]) K:=by
 have iu:BH (nI u):=Jx (zZ hu (zP hT (by decide)))
 have nu:CF (G9 Ts.length) (nI u)=some (.ref (u+1)):=GG (VF hu)
 rw[ù]at e h
 have e':=Mw (p:=.list (G9 Ts.length)) e
 rw[r7,uZ]
 show(ws (A2 w) Bn 26).E (RI.getD 0 (.Name ("":Str) AB)) _ λv₀ σ=>(ws (A2 w) Bn 26).E (RI.getD 1 (.Name ("":Str) AB)) σ λv₁ σ=>(ws (A2 w) Bn 26).E (RI.getD 2 (.Name ("":Str) AB)) σ λv₂ σ=>As (ws (A2 w) Bn 27).A (Ax ((Aa (fS 4)).getD 0 (.Pass AB))) (.tup [v₀,v₁,v₂]) σ λσ=>K .next σ
 refine wH.mpr ⟨iu,_,nu,JT (σ:=J5 Ts nw fr la L m j x [("u",.int (nI u)),("i",.int (nI i))]) e' S8 EP (j8 (b:=(a,b,c)) ?_)⟩
 refine jS.mpr ⟨iu,_,nu,JT (σ:=J5 Ts nw fr la L m j x [("u",.int (nI u)),("i",.int (nI i))]) e' S8 EP (kP (b:=(a,b,c)) ?_)⟩
 refine mR.mpr ⟨iu,_,nu,JT (σ:=J5 Ts nw fr la L m j x [("u",.int (nI u)),("i",.int (nI i))]) e' S8 EP (lZ (b:=(a,b,c)) (UD ?_))⟩
 refine jM.mpr ⟨iu,_,nu,T9 (σ:=J5 Ts nw fr la L m j x [("u",.int (nI u)),("i",.int (nI i))]) e' (zP (Â (z6 ..)) hb) ?_⟩
 show K .next ⟨_,AP ((0,.list (G9 Ts.length))::AP L (m+1) (.list (Il Ts x Ts.length))) (u+1) (.list (bs.map Dh++[Dh (a,b,c+1)])),m+2,0⟩
 rw[JX]
 exact h
def bC(hu:u<Ts.length)(hT:Ts.length<=1000)(hb:bs.length<=999999)(e:(AP L (m+1) (.list (Il Ts x Ts.length))).lookup (u+1)=some (.list (bs.map Dh)))
  (h:K .next (qT (TA Ts) nw fr (G9 Ts.length) (Vk la) (AP (AP L (m+1) (.list (Il Ts x Ts.length))) (u+1) (.list ((bs++[(j,i,1)]).map Dh))) (m+2) (nI j) (m+1) [("u",.int (nI u)),("i",.int (nI i))])) :
  wL (A2 w) (BZ w 28) (C8 (fS 4)) (J5 Ts nw fr la L m j x [("u",.int (nI u)),("i",.int (nI i))]) K:=by
 have iu:BH (nI u):=Jx (zZ hu (zP hT (by decide)))
 rw[ù]at h
 have e':=Mw (p:=.list (G9 Ts.length)) e
 refine rP.mpr ⟨iu,_,GG (VF hu),?_⟩
 rw[Mr (σ:=J5 Ts nw fr la L m j x [("u",.int (nI u)),("i",.int (nI i))]) e']
 show Di (A2 w) (.fn .append) [.ref (u+1),Es (nI j) (nI i) 1] (J5 Ts nw fr la L m j x [("u",.int (nI u)),("i",.int (nI i))]) λ_ σ=>K .next σ
 refine Ml (σ:=J5 Ts nw fr la L m j x [("u",.int (nI u)),("i",.int (nI i))]) e' (zP (Â (z6 ..)) (zP hb (by decide))) ?_
 show K .next ⟨_,AP ((0,.list (G9 Ts.length))::AP L (m+1) (.list (Il Ts x Ts.length))) (u+1) (.list (bs.map Dh++[Dh (j,i,1)])),m+2,0⟩
 rw[JX]
 exact h
def UR(hP:Pl Ts nw fr j P la)(hL:LI Ts.length P L m)(hT:Ts.length<=1000)(hl :∀T∈Ts,T.length<=1000)(hj:j<100000)(hx:nw[j]?=some x)
  (h :∀fl,(fl = .next\/fl = .cont)->∀P' la' L' tl,Pl Ts nw fr (j+1) P' la'->LI Ts.length P' L' (m+1)->K fl (S4 Ts nw fr la' L' (m+1) (("j",.int (nI j))::("having",.ref (m+1))::tl))):gE w (.int (nI j)) (S4 Ts nw fr la L m []) K:=by
 have hj':j<1000000:=zZ hj (by decide)
 refine YX hT hj' hx (t8.mpr ⟨Jx hj',_,F7 hx,?_⟩)
 have hg:=hL.gar (o:=.list (Il Ts x Ts.length))
 have lk:(J5 Ts nw fr la L m j x []).H.lookup (m+1)=some (.list (Il Ts x Ts.length)):=Mw Dp
 have no:(x∉fr\/∀T∈Ts,x∉T)->wL (A2 w) (BZ w 28) (Aa (fS 1)) (J5 Ts nw fr la L m j x []) (kx (A2 w) (BZ w 29) (fJ.2.drop 2) K):=λhn=>wF.mpr (h .cont (.inr rfl) P none _ [] (.skip hP hx hn) hg)
 rw[N3,MH]
 cases hd:decide (x∈fr)with
 | false=>exact no (.inl (of_decide_eq_false hd))
 | true=>
  show(ws (A2 w) Bn 27).B hE (J5 Ts nw fr la L m j x []) _
  rw[mO,Wu (σ:=J5 Ts nw fr la L m j x []) lk]
  rcases SR (Ts:=Ts) (x:=x) Ts.length with⟨e,hn⟩ | ⟨u,A,hu,e⟩
  ·show BI (Il Ts x Ts.length).isEmpty _ _
   refine En (by rw[e];rfl) (no (.inr λT hT=>(Ĝ hT).elim λk hk=>MW hk▸hn k (zT.mp hk).1))
  ·show BI (Il Ts x Ts.length).isEmpty _ _
   have y:=YA hu
   refine Cn (by rw[e];cases A<;>rfl) ?_
   refine yL.mpr (JT (σ:=J5 Ts nw fr la L m j x []) lk S8 (e▸EP) (lL.mpr (xH.mpr ⟨Jx (zZ hu.1 (zP hT (by decide))),_,Kg (GL hu.1),?_⟩)))
   show BH (nI j)/\∃x,CF (zs nw) (nI j)=some x/\Di (A2 w) (.fn .index) [.lst (zs (Ts.getD u [])),x] (J5 Ts nw fr la L m j _ [("u",.int (nI u))]) λv σ=>As (ws (A2 w) Bn 28).A (Ax (fS 3)) v σ λσ=>wL (A2 w) (BZ w 29) (fJ.2.drop 4) σ K
   refine⟨Jx hj',_,F7 hx,?_⟩
   show A9 (BY (zs (Ts.getD u []))) λks=>(AE.int x∈ks/\AC ks.length)/\As (ws (A2 w) Bn 28).A (Ax (fS 3)) (.int ((ks.idxOf (AE.int x):Nat):Int)) (J5 Ts nw fr la L m j x [("u",.int (nI u))]) λσ=>wL (A2 w) (BZ w 29) (fJ.2.drop 4) σ K
   rw[EM]
   refine⟨⟨ś hu.2.1,zP (Â (z6 ..)) (zP (hl _ (Ò (GL hu.1))) (by decide))⟩,n7.mpr ?_⟩
   rw[S9]
   generalize (Ts.getD u []).idxOf x=i at y
   refine vB.mpr ?_
   have sh:=hP.short
   have new:(∀i',la=some (u,i')->i'+1≠i)->wL (A2 w) (BZ w 28) (C8 (fS 4)) (J5 Ts nw fr la L m j x [("u",.int (nI u)),("i",.int (nI i))]) (kx (A2 w) (BZ w 29) (fJ.2.drop 5) K):=λhn=>by
    have eP:=zV (hL.len.symm▸hu.1:u<P.length)
    refine bC hu.1 hT (zP (sh u _ eP) (zP (Û hj) (by decide))) (hg.at_ u _ eP) ?_
    rw[BE]
    exact qQ.mpr (h .next (.inl rfl) _ (some (u,i)) _ _ (.new hP hx (of_decide_eq_true hd) y eP hn) (hg.put))
   cases la with
   | none=>rw[show Vk none = .none from rfl,iG];exact new λ_=>AA
   | some p=>
    obtain⟨u',i'⟩:=p
    rw[show Vk (some (u',i'))=CB (nI u') (nI i')from rfl,m4]
    show BI (decide (AE.int (nI u')=AE.int (nI u))&&(decide (AE.int (nI i')=AE.int (nI i-1))&&([]:List AV).isEmpty)) _ _
    by_cases h1:u'=u
    ·by_cases h2:i'+1=i
     ·subst h1;subst h2
      obtain⟨bs,a,b,c,eP⟩:=hP.last rfl
      refine En (ê.mpr ⟨decide_eq_true rfl,ê.mpr ⟨decide_eq_true (congrArg AE.int (by show(i':Int)=((i'+1:Nat):Int)-1;exact id (ql [_] 0x18180a0fb00f5 (by rfl')))),rfl⟩⟩) (eM (la:=some (u',i')) (a:=a) (b:=b) (c:=c) (bs:=bs) (x:=x) (L:=L) (m:=m) hu.1 hT (zP (õ (by have:=sh _ _ eP;rwa[zU]at this)) (zP (Û hj) (by decide))) (hg.at_ _ _ eP) ?_)
      rw[BE]
      exact qQ.mpr (h .next (.inl rfl) _ (some (u',i'+1)) _ _ (.ext hP hx (of_decide_eq_true hd) y eP) (hg.put))
     ·refine Cn ?_ (new λi'' q=>by cases q;exact h2)
      rw[show decide (AE.int (nI i')=AE.int (nI i-1))=false from decide_eq_false λz=>h2 (by have:=AE.int.inj z;unfold nI at this;exists[_,_],0x1180a21810fb00f58,this)]
      exact aF1 _
    ·refine Cn ?_ (new λi'' q=>by cases q;exact absurd rfl h1)
     rw[show decide (AE.int (nI u')=AE.int (nI u))=false from decide_eq_false λz=>h1 (ŗ (AE.int.inj z))]
     rfl
end
def PA(P:List (List Ab)):List AV:=P.map λp=>.lst (p.map Dh)
def NH:Tr:=λas os Q=>∃(Ts:List (List Int)) (nw fr:List Int),as=[.lst (TA Ts),.lst (zs nw),.lst (zs fr)]/\os=[]/\(Ts.length<=1000/\(∀T∈Ts,T.length<=1000)/\nw.length<=1000)/\∀P la,Pl Ts nw fr nw.length P la->Q (.lst (PA P)) []
theorem Ki{g:Nat->Option AV}{F:Nat->AV} :∀(ks:List Nat),(∀k∈ks,g (k+1)=some (F k))->subAll g (ks.map λk=>.ref (k+1))=some (ks.map F)
 | [],_=>rfl
 | k::r,h=>by
  show(g (k+1)).bind (λa=>(subAll g (r.map λk=>.ref (k+1))).map (a :: ·))=_
  rw[h k (z8 ..),Ki r λk hk=>h k (À _ hk)];rfl
def NC(P:List (List Ab)):subAll nn (PA P)=some (PA P):=Cq (λb=>Ae (El b)) P
section
variable{w:Ì}{Ts:List (List Int)}{nw fr:List Int}{la:Option (Nat×Nat)}{L:List (Nat×AO)}{m n k:Nat}{K:KS}{P:List (List Ab)}{σ:St}
def Tl(h:LI Ts.length P L m):A0 (S4 Ts nw fr la L m []) ⟨[("pieces",.lst (PA P))],[],0,0⟩:=by
 let g:Nat->Option AV:=λy=>Ł (some (.ref 0)) (λu _=>(P[u]?).map λp=>.lst (p.map Dh)) y
 have e:subAll g (G9 Ts.length)=some (PA P):=by
  have:=Ki (g:=g) (F:=λk=>.lst ((P.getD k []).map Dh)) (Ë Ts.length) λk hk=>by
   show(P[k]?).map _=_
   have hk:=ű.mp hk
   rw[<-h.len]at hk
   rw[Ø,zV hk];rfl
  refine this.trans (congrArg some ?_)
  rw[<-h.len]
  exact(Ĳ (f:=λi=>P.getD i []) (g:=λp:List Ab=>AV.lst (p.map Dh)) (l:=Ë P.length)).symm.trans (congrArg (ĕ λp:List Ab=>AV.lst (p.map Dh)) (DF P []))
 refine A0.trans (τ:=⟨[("pieces",.ref 0)],[(0,.list (PA P))],1,0⟩) (A0.of [0] g (Iu rfl) rfl rfl (λi hi=>absurd hi (ø i)) (λy v e=>?_) (λx v e=>Bv e (λa b=>a▸b▸⟨.ref 0,rfl,rfl⟩) AA) λi o e'=>Bv e' (λa b=>by subst a;subst b;exact⟨0,_,rfl,rfl,congrArg (Ñ AO.list) e⟩) AA)
  (A0.re [] [(0,.lst (PA P))] rfl rfl rfl rfl (BQ rfl rfl rfl (Ae (NC P)) Br) (Ay rfl rfl BU) BS)
 cases y with
 | zero=>exact .inl ⟨0,rfl,(zR e).symm⟩
 | succ u=>
  obtain⟨p,e1,rfl⟩:=map_some (show(P[u]?).map (λp=>AV.lst (p.map Dh))=some v from e)
  refine .inr ⟨λi=>?_,_,Mw (h.at_ u p e1),rfl,Ae (El p)⟩
  cases i with
  | zero=>exact λz=>nomatch zR z
  | succ i=>exact λz=>nomatch z
def l8(Ts:List (List Int))(nw fr:List Int)(k:Nat)(σ:St):Prop:=∃P la L m,σ=S4 Ts nw fr la L m []/\Pl Ts nw fr k P la/\LI Ts.length P L m
def SB{tl:List (Str×AV)}{L:List (Nat×AO)}:A0 (S4 Ts nw fr la L m tl) (S4 Ts nw fr la L m []):=
 .less (ρ:=(S4 Ts nw fr la L m []).ρ++tl) (λx v e=>CT e) λ_ _=>id
def Y0(hT:Ts.length<=1000)(h :∀L,(∀i,i<Ts.length->L.lookup (i+1)=some (.list []))->QQ w K (.ref 0) ⟨[("texts",.lst (TA Ts)),("new",.lst (zs nw)),("fresh",.lst (zs fr))],(0,.list (G9 Ts.length))::L,Ts.length+1,0⟩) :
  Aj (.list []) (TA Ts) (Ce (A2 w) 27 Bn cQ 0) (Ah cQ.2.2) ⟨[("texts",.lst (TA Ts)),("new",.lst (zs nw)),("fresh",.lst (zs fr))],[],0,0⟩ (QQ w K):=by
 have lT:(TA Ts).length=Ts.length:=z6 ..
 rw[yZ]
 refine⟨λk τ=>∃ρ L,((ρ=([]:List (Str×AV))\/∃v,ρ=([("text",v)]:List (Str×AV)))/\∀i,i<k->L.lookup (i+1)=some (.list []))/\τ=⟨ρ,(0,.list (G9 k))::L,k+1,0⟩,⟨[],[],⟨.inl rfl,λi h=>absurd h (ø i)⟩,rfl⟩,λk v τ hv hJ=>?_,λτ hJ=>?_⟩
 ·obtain⟨ρ,L,⟨hρ,hL⟩,rfl⟩:=hJ
  have hk:k<Ts.length:=lT▸(zT.mp hv).1
  have hz:AC (G9 k).length:=zP (Â ((z6 ..).trans ó)) (zP (Û hk) (zP hT (by decide)))
  have fin:AC (G9 k).length/\∃ρ L',((ρ=([]:List (Str×AV))\/∃v,ρ=([("text",v)]:List (Str×AV)))/\∀i,i<k+1->L'.lookup (i+1)=some (.list []))/\(⟨[("text",v)],(0,.list (G9 k++[.ref (k+1)]))::AP L (k+1) (.list []),k+2,0⟩:St)=⟨ρ,(0,.list (G9 (k+1)))::L',k+1+1,0⟩:=by
   refine⟨hz,_,AP L (k+1) (.list []),⟨.inr ⟨v,rfl⟩,λi hi=>?_⟩,?_⟩
   ·rcases ú (î hi)with q | q
    ·exact(FS λz=>ß q (Ņ z)).trans (hL i q)
    ·subst q;exact Dp
   ·rw[show G9 (k+1)=G9 k++[.ref (k+1)]from by unfold G9;rw[ľ,ù];rfl]
  rcases hρ with rfl | ⟨u,rfl⟩
  ·exact wZ.mpr fin
  ·exact rL.mpr fin
 ·obtain⟨ρ,L,⟨hρ,hL⟩,rfl⟩:=hJ
  rw[lT]at hL ⊢
  exact⟨trivial,h L hL⟩
def i6{d:Nat}:O3 (lF w) (H1 w.params) (A2 w) (d+1) aN Ou aM NM aI:=U2 (λ_ _ e=>nomatch e) (λe=>nomatch e) (λe=>nomatch e) (λ_ e=>nomatch e)
def Ql{d:Nat}:BW (lF w) (H1 w.params) (d+3) (.ref 261) NH:=
 Ox i6 (QF _).2.2 (QF _).1 (QF _).2.1 (ps:=["texts","new","fresh"]) (fuel:=30) (by decide) (by rfl') (NV λa b c=>by rfl') λas os Q hh=>by
  obtain⟨Ts,nw,fr,ea,eo,⟨hT,hl,hn⟩,hq⟩:=hh
  subst ea;subst eo
  have sT:subAll nn (TA Ts)=some (TA Ts):=Cq (λt=>A5 t) Ts
  refine⟨⟨rfl,Bo⟩,yF.mpr ⟨sT,Y0 hT λL hL=>zJ.mpr ⟨rfl,?_⟩⟩⟩
  have l1:(zs nw).length=nw.length:=A7 nw
  have e1:((nw.length:Int)-0).toNat=nw.length:=by rw[aB4];rfl
  rw[tT,l1,e1]
  refine⟨zP hn (by decide),⟨by decide,by decide,by(exists[_],0xf0f424091f3),by exists[_],0xf4240900f30003e89008,hn⟩,l8 Ts nw fr,⟨_,.refl _,_,none,L,Ts.length,rfl,.nil,z6 ..,zX _,λu bs e=>?_⟩,λk σ v hv hI=>?_,λσ hI=>?_⟩
  ·rw[Ð]at e
   obtain⟨T,e1,rfl⟩:=map_some e
   exact hL u (zT.mp e1).1
  ·have hk:=(zT.mp hv).1
   rw[AY]at hk
   cases zR (hv.symm.trans (B5 hk))
   obtain⟨P,la,L,m,rfl,hP,hL⟩:=hI
   rw[ę]
   have on :∀fl σ' (Z:KS),(fl = .next\/fl = .cont)->(∃τ,A0 σ' τ/\l8 Ts nw fr (k+1) τ)->turn (λσ=>∃τ,A0 σ τ/\l8 Ts nw fr (k+1) τ) Z fl σ':=λfl σ' Z hf h=>by rcases hf with rfl | rfl<;>exact h
   exact UR hP hL hT hl (zZ hk (zP hn (by decide))) (zV hk) λfl hf P' la' L' tl hP' hL'=>on fl _ _ hf ⟨_,SB,P',la',L',m+1,rfl,hP',hL'⟩
  ·rw[AY]at hI
   obtain⟨P,la,L,m,rfl,hP,hL⟩:=hI
   rw[CM,BE,qz]
   refine⟨_,Tl hL,vE.mpr (Mm (fl:=.ret _) rfl (Ae (NC P)) (hq P la hP))⟩
end
def FE:List í:=(CH pw.main.body "law").1
def Ap:Scope:=(CH pw.main.body "law").2
def RQ(P:Ó):(CV P 266).body = .stmts FE/\(CV P 266).scope=Ap/\BF P 266=true:=⟨by rfl',by rfl',by rfl'⟩
noncomputable def k6:É->Option Tr:=λf=>bif Ù f 251 then some MY else bif Ù f 256 then some MQ else bif Ù f 261 then some NH else bif Ù f 174 then some KW else bif Ù f 181 then some MN else bif Ù f 210 then some Mn else none
noncomputable def dK:Pos->Bool:=λp=>!((Ù p.line 518&&Ù p.col 19)||(Ù p.line 519&&Ù p.col 21)||(Ù p.line 528&&Ù p.col 53))
abbrev AF(w:Ì):Pm:=Ij w.params k6 (some RH) false false dK (ln [524,525,529,538,540])
abbrev AI(w:Ì)(f:Nat):WS:=Fo (AF w) Ap f
abbrev CY(w:Ì)(f:Nat):WA:=(ws (AF w) Ap f).A
abbrev CU(w:Ì)(f:Nat):WE:=(ws (AF w) Ap f).E
abbrev RX(w:Ì)(f:Nat):WB:=(ws (AF w) Ap f).B
def fX:Expr×List í:=E0 (FE.getD 2 (.Pass AB))
def sX(n:Nat):í:=fX.2.getD n (.Pass AB)
def Yp(w:Ì):AV->St->KS->Prop:=λv σ K=>CY w 29 fX.1 v σ λσ=>wL (AF w) (AI w 29) fX.2 σ K
def Od(n:Nat):List Expr:=Ax (sX n)
def vX(n:Nat):Expr:=D5 (sX n)
abbrev lS(sc:List Int)(made:Int)(T W:List AV)(B:List (AE×AV))(tl:List (Str×AV))(H:List (Nat×AO))(n:Nat):St:=⟨("script",.lst (zs sc))::("made",.int made)::("texts",.ref 0)::("born",.dct B)::("writers",.ref 1)::tl,(0,.list T)::(1,.list W)::H,n,0⟩
noncomputable def TO(e:Expr):List Expr:=Expr.casesOn (motive_1:=λ_=>List Expr) e (λ_ vs _=>vs) (λ_ _ _=>[]) (λ_ _ _ _=>[]) (λ_ _ _=>[]) (λ_ _ _ _=>[]) (λ_ _ _ _=>[]) (λ_ _ _=>[]) (λ_ _ _=>[]) (λ_ _ _ _=>[]) (λ_ _ _ _=>[]) (λ_ _ _ _ _=>[]) (λ_ _ _ _=>[]) (λ_ _=>[]) (λ_ _=>[]) (λ_ _=>[]) (λ_ _ _ _=>[]) (λ_ _ _ _=>[]) (λ_ _ _ _=>[]) (λ_ _=>[]) (λ_ _ _=>[]) (λ_ _ _=>[]) (λ_ _ _=>[]) (λ_ _=>[]) (λ_ _=>[]) (λ_ _=>[]) (λ_ _ _=>[]) (λ_ _ _ _=>[])
def DN:Expr:=.Name ("":Str) AB
def qC:Expr:=(GD (vX 1)).getD 0 DN
def oC:Expr:=(GD (vX 1)).getD 1 DN
def cM:CL:=FG (Eh ((Ai oC).2.1.getD 0 DN)).2
def cF:CL:=FG (vX 2)
def gK:Expr:=(TO ((cF.2.1.getD 0 Yj).ifs.getD 0 DN)).getD 0 DN
def bJ:Expr:=(TO ((cF.2.1.getD 0 Yj).ifs.getD 0 DN)).getD 1 DN
abbrev dT(x:Int)(nw dr bk:List Int)(tl:List (Str×AV)):List (Str×AV):=("x",.int x)::("new",.lst (zs nw))::("drop",.lst (zs dr))::("back",.lst (zs bk))::tl
section
variable{w:Ì}{sc nw dr bk fr:List Int}{made x now k l:Int}{T W M:List AV}{B:List (AE×AV)}{K:KS}{R:St->Prop}{H:List (Nat×AO)}{n m a:Nat}{v u:AV}{Q:AV->St->Prop}{V:Bool->St->Prop}
def a1:Yp w (.int x) (lS sc made T W B [] [] 2) K=(BH (-1)/\∃v,CF T (-1)=some v/\B7 MY [.int x,v,.int made] (lS sc made T W B [("x",.int x)] [] 2) λr σ=>As (CY w 28) (Od 0) r σ λσ=>wL (AF w) (AI w 29) (fX.2.drop 1) σ K):=by rfl'
def a2:(As (CY w 28) (Od 0) (.tup [.lst (zs nw),.lst (zs dr),.lst (zs bk)]) (lS sc made T W B [("x",.int x)] [] 2) R)=(3=3/\R (lS sc made T W B (dT x nw dr bk []) [] 2)):=by rfl'
def a3:wL (AF w) (AI w 29) (fX.2.drop 1) (lS sc made T W B (dT x nw dr bk []) [] 2) K=Hm (CU w 27) (GD (vX 1)) (lS sc made T W B (dT x nw dr bk []) [] 2) λvs σ=>As (CY w 28) (Od 1) (.tup vs) σ λσ=>wL (AF w) (AI w 29) (fX.2.drop 2) σ K:=by rfl'
def uL:As (CY w 28) (Od 1) (.tup [.int now,.int l]) (lS sc made T W B (dT x nw dr bk []) H n) R=(2=2/\R (lS sc l T W B (dT x nw dr bk [("now",.int now)]) H n)):=by rfl'
def xJ:GD (vX 1)=[qC,oC]:=by rfl'
def vJ:CU w 27 qC (lS sc made T W B (dT x nw dr bk []) [] 2) Q=(AC T.length/\Q (.int T.length) (lS sc made T W B (dT x nw dr bk []) [] 2)):=by rfl'
def vY:CU w 27 oC (lS sc made T W B (dT x nw dr bk []) [] 2) Q=(subAll nn (zs nw)=some (zs nw)/\Aj (.list []) (zs nw) (Ce (AF w) 24 Ap cM 2) (Ah cM.2.2) (lS sc made T W B (dT x nw dr bk []) [] 2) λv σ=>ET .Add (.lst [.int made]) v σ λa σ=>Di (AF w) (.fn .max) [a] σ Q):=by rfl'
def p7:Ah cM.2.2=[]/\Ah cF.2.2=(["drop","texts"]:List Str):=⟨by rfl',by rfl'⟩
def xK:Ce (AF w) 24 Ap cM n (.int k) ⟨[],H,m,a⟩ R=Am .append [.ref n,.int (k+1)] ⟨[("line",.int k)],H,m,a⟩ λ_ τ=>R τ:=by rfl'
def uM:Ce (AF w) 24 Ap cM n (.int k) ⟨[("line",v)],H,m,a⟩ R=Am .append [.ref n,.int (k+1)] ⟨[("line",.int k)],H,m,a⟩ λ_ τ=>R τ:=by rfl'
def a4:wL (AF w) (AI w 29) (fX.2.drop 2) (lS sc made T W B (dT x nw dr bk [("now",.int now)]) [(2,.list M)] 3) K=(subAll nn (zs nw)=some (zs nw)/\Aj (.list []) (zs nw) (Ce (AF w) 27 Ap cF 3) (Ah cF.2.2) (lS sc made T W B (dT x nw dr bk [("now",.int now)]) [(2,.list M)] 3) λv σ=>As (CY w 28) (Od 2) v σ λσ=>wL (AF w) (AI w 29) (fX.2.drop 3) σ K):=by rfl'
def yI:Ce (AF w) 27 Ap cF n (.int k) ⟨[("drop",.lst (zs dr)),("texts",.ref 0)],H,m,a⟩ R=(F2 (AF w) 26 (BN cF.2.2 Ap)).B gK ⟨[("drop",.lst (zs dr)),("texts",.ref 0),("line",.int k)],H,m,a⟩ λb σ=>BI b (LC cF.1 (F2 (AF w) 27 (BN cF.2.2 Ap)) n σ R) ((F2 (AF w) 26 (BN cF.2.2 Ap)).B bJ σ λb σ=>BI b (LC cF.1 (F2 (AF w) 27 (BN cF.2.2 Ap)) n σ R) (R σ)):=by rfl'
def uG:Ce (AF w) 27 Ap cF n (.int k) ⟨[("drop",.lst (zs dr)),("texts",.ref 0),("line",v)],H,m,a⟩ R=(F2 (AF w) 26 (BN cF.2.2 Ap)).B gK ⟨[("drop",.lst (zs dr)),("texts",.ref 0),("line",.int k)],H,m,a⟩ λb σ=>BI b (LC cF.1 (F2 (AF w) 27 (BN cF.2.2 Ap)) n σ R) ((F2 (AF w) 26 (BN cF.2.2 Ap)).B bJ σ λb σ=>BI b (LC cF.1 (F2 (AF w) 27 (BN cF.2.2 Ap)) n σ R) (R σ)):=by rfl'
def tI:LC cF.1 (F2 (AF w) 27 (BN cF.2.2 Ap)) n ⟨[("drop",.lst (zs dr)),("texts",.ref 0),("line",.int k)],H,m,a⟩ R=Am .append [.ref n,.int k] ⟨[("drop",.lst (zs dr)),("texts",.ref 0),("line",.int k)],H,m,a⟩ λ_ τ=>R τ:=by rfl'
def vC:(F2 (AF w) 26 (BN cF.2.2 Ap)).B gK ⟨[("drop",.lst (zs dr)),("texts",.ref 0),("line",.int k)],(0,.list T)::H,m,a⟩ V=(BH (-1)/\∃v,CF T (-1)=some v/\CQ .NotIn (.int k) v ⟨[("drop",.lst (zs dr)),("texts",.ref 0),("line",.int k)],(0,.list T)::H,m,a⟩ λv σ=>Ca v σ V):=by rfl'
def wN:(F2 (AF w) 26 (BN cF.2.2 Ap)).B bJ ⟨[("drop",.lst (zs dr)),("texts",.ref 0),("line",.int k)],H,m,a⟩ V=CQ .In (.int k) (.lst (zs dr)) ⟨[("drop",.lst (zs dr)),("texts",.ref 0),("line",.int k)],H,m,a⟩ λv σ=>Ca v σ V:=by rfl'
def yU:As (CY w 28) (Od 2) v (lS sc made T W B (dT x nw dr bk [("now",.int now)]) H n) R=R (lS sc made T W B (dT x nw dr bk [("now",.int now),("fresh",v)]) H n):=by rfl'
end
def ZS(v:AV)(σ:St)(K:List AV->St->Prop):Prop:=Ö (A9 (IK v) λes=>K (DB es) σ) (λvs=>subAll nn vs=some vs/\K vs σ) (P8 v)
abbrev DL:=(Expr×Expr)×List à×Scope
def VX(P:Pm)(f:Nat)(sc:Scope)(q:DL)(n:Nat):AV->St->(St->Prop)->Prop:=DT (F2 P f (BN q.2.2 sc)) (q.2.1.getD 0 Yj) (Ka P (BN q.2.2 sc) (F2 P f (BN q.2.2 sc)) (aJ q.1.1 q.1.2 (F2 P f (BN q.2.2 sc)) n) (q.2.1.drop 1))
def dB:DL:=dR (vX 3)
def iB:Expr:=(dB.2.1.getD 0 Yj).iter
def cO:CL:=FG (Eh iB).1
def eN:List Expr:=GD (vX 7)
def cN:CL:=FG (eN.getD 0 DN)
def Oy:Expr×List í:=E0 (sX 8)
def On(w:Ì):AV->St->KS->Prop:=λv σ K=>CY w 28 Oy.1 v σ λσ=>wL (AF w) (AI w 28) Oy.2 σ K
abbrev nT(nw:List Int)(now:Int)(fr:List Int)(tl:List (Str×AV)):List (Str×AV):=("new",.lst (zs nw))::("now",.int now)::("fresh",.lst (zs fr))::tl
abbrev iA(la nw:List Int)(mb op fb:AV)(ds:List (AE×AV)):AO:=.inst aD (Bc (.lst (zs la)) (.lst (zs nw)) mb op fb (.dct ds))
abbrev mT(nw:List Int)(now:Int)(fr:List Int)(nt wd:AV)(a1 a2:Int)(tl:List (Str×AV)):List (Str×AV):=nT nw now fr (("matcher",.ref 2)::("at",CB a1 a2)::("windows",wd)::("notes",nt)::tl)
section
variable{w:Ì}{sc nw dr bk fr la lb:List Int}{made x now k l:Int}{T W M:List AV}{B D ds:List (AE×AV)}{K:KS}{R:St->Prop}{H:List (Nat×AO)}{n m a:Nat}{v u a0 b0 mb op fb b2j nt wd:AV}{Q:AV->St->Prop}{V:Bool->St->Prop}{σ:St}
def t0:wL (AF w) (AI w 29) (fX.2.drop 3) σ K =∃τ,A0 σ τ/\AI w 29 (sX 3) τ (kx (AF w) (AI w 29) (fX.2.drop 4) K):=by rfl'
def v7:AI w 29 (sX 3) (lS sc made T W B (nT nw now fr []) [] 2) K=CU w 27 iB (lS sc made T W B (nT nw now fr []) [] 2) λc σ=>ZS c σ λitems σ=>Aj (.dict []) items (VX (AF w) 27 Ap dB σ.n) (Ah dB.2.2) σ λv σ=>As (CY w 28) (Od 3) v σ λσ=>K .next σ:=by rfl'
def sK:CU w 27 iB (lS sc made T W B (nT nw now fr []) [] 2) Q=Aj (.list []) (DB B) (Ce (AF w) 25 Ap cO 2) (Ah cO.2.2) (lS sc made T W B (nT nw now fr []) [] 2) λv σ=>CU w 26 (Eh iB).2 σ λc σ=>ET .Add v c σ Q:=by rfl'
def rV:CU w 26 (Eh iB).2 (lS sc made T W B (nT nw now fr []) H n) Q=Q (.lst (zs nw)) (lS sc made T W B (nT nw now fr []) H n):=by rfl'
def iM:Ah cO.2.2=[]/\Ah dB.2.2=(["born","now"]:List Str)/\Ah cN.2.2=(["now"]:List Str):=⟨by rfl',by rfl',by rfl'⟩
def xL:Ce (AF w) 25 Ap cO n v ⟨[],H,m,a⟩ R=Am .append [.ref n,v] ⟨[("one",v)],H,m,a⟩ λ_ τ=>R τ:=by rfl'
def rY:Ce (AF w) 25 Ap cO n v ⟨[("one",u)],H,m,a⟩ R=Am .append [.ref n,v] ⟨[("one",v)],H,m,a⟩ λ_ τ=>R τ:=by rfl'
def wI:VX (AF w) 27 Ap dB n (.int k) ⟨[("born",.dct B),("now",.int now)],H,m,a⟩ R=BI (B.lookup (.int k)).isSome (∃v,B.lookup (.int k)=some v/\DJ ⟨[("born",.dct B),("now",.int now),("line",.int k)],H,m,a⟩ (.ref n) λx es=>R ((⟨[("born",.dct B),("now",.int now),("line",.int k)],H,m,a⟩:St).set x (.dict (dset es (.int k) v)))) (DJ ⟨[("born",.dct B),("now",.int now),("line",.int k)],H,m,a⟩ (.ref n) λx es=>R ((⟨[("born",.dct B),("now",.int now),("line",.int k)],H,m,a⟩:St).set x (.dict (dset es (.int k) (.int now))))):=by rfl'
def wJ:VX (AF w) 27 Ap dB n (.int k) ⟨[("born",.dct B),("now",.int now),("line",u)],H,m,a⟩ R=BI (B.lookup (.int k)).isSome (∃v,B.lookup (.int k)=some v/\DJ ⟨[("born",.dct B),("now",.int now),("line",.int k)],H,m,a⟩ (.ref n) λx es=>R ((⟨[("born",.dct B),("now",.int now),("line",.int k)],H,m,a⟩:St).set x (.dict (dset es (.int k) v)))) (DJ ⟨[("born",.dct B),("now",.int now),("line",.int k)],H,m,a⟩ (.ref n) λx es=>R ((⟨[("born",.dct B),("now",.int now),("line",.int k)],H,m,a⟩:St).set x (.dict (dset es (.int k) (.int now))))):=by rfl'
def wC:As (CY w 28) (Od 3) v ⟨("script",.lst (zs sc))::("made",.int made)::("texts",.ref 0)::("born",.dct B)::("writers",.ref 1)::nT nw now fr [],H,n,0⟩ R=R ⟨("script",.lst (zs sc))::("made",.int made)::("texts",.ref 0)::("born",v)::("writers",.ref 1)::nT nw now fr [],H,n,0⟩:=by rfl'
def zB:wL (AF w) (AI w 29) (fX.2.drop 4) σ K =∃τ,A0 σ τ/\AI w 29 (sX 4) τ (kx (AF w) (AI w 29) (fX.2.drop 5) K):=by rfl'
def rS:AI w 29 (sX 4) (lS sc made T W B (nT nw now fr []) [] 2) K=B7 RH [.ref 2] (lS sc made T W B (nT nw now fr []) [(2,.inst aD [])] 3) λr σ=>r = .none/\As (CY w 28) (Od 4) (.ref 2) σ λσ=>K .next σ:=by rfl'
def yD:As (CY w 28) (Od 4) v (lS sc made T W B (nT nw now fr []) H n) R=R (lS sc made T W B (nT nw now fr [("matcher",v)]) H n):=by rfl'
def rT:wL (AF w) (AI w 29) (fX.2.drop 5) (lS sc made T W B (nT nw now fr [("matcher",.ref 2)]) [(2,.inst aD (Bc a0 b0 mb op fb b2j))] 3) K=B7 MN [.ref 2,.lst (zs nw)] (lS sc made T W B (nT nw now fr [("matcher",.ref 2)]) [(2,.inst aD (Bc a0 b0 mb op fb b2j))] 3) λ_ σ=>wL (AF w) (AI w 29) (fX.2.drop 6) σ K:=by rfl'
def sW:wL (AF w) (AI w 29) (fX.2.drop 6) (lS sc made T W B (nT nw now fr [("matcher",.ref 2)]) [(2,.inst aD (Bc a0 b0 mb op fb b2j))] 3) K=(BH (-1)/\∃v,CF T (-1)=some v/\B7 KW [.ref 2,v] (lS sc made T W B (nT nw now fr [("matcher",.ref 2)]) [(2,.inst aD (Bc a0 b0 mb op fb b2j))] 3) λ_ σ=>wL (AF w) (AI w 29) (fX.2.drop 7) σ K):=by rfl'
def vW:wL (AF w) (AI w 29) (fX.2.drop 7) (lS sc made T W B (nT nw now fr [("matcher",.ref 2)]) [(2,.inst aD (Bc a0 b0 mb op fb b2j))] 3) K=(subAll nn (zs nw)=some (zs nw)/\Aj (.list []) (zs nw) (Ce (AF w) 26 Ap cN 3) (Ah cN.2.2) (lS sc made T W B (nT nw now fr [("matcher",.ref 2)]) [(2,.inst aD (Bc a0 b0 mb op fb b2j))] 3) λv σ=>Hm (CU w 27) (eN.drop 1) σ λvs σ=>Ln (.tup (v::vs)) 3 σ λvs σ=>Vg Ap (["at","windows","notes"]:List Str) vs.reverse σ λσ=>wL (AF w) (AI w 29) (fX.2.drop 8) σ K):=by rfl'
def vA:Ce (AF w) 26 Ap cN n v ⟨[("now",.int now)],H,m,a⟩ R=Am .append [.ref n,.int now] ⟨[("now",.int now),("line",v)],H,m,a⟩ λ_ τ=>R τ:=by rfl'
def y8:Ce (AF w) 26 Ap cN n v ⟨[("now",.int now),("line",u)],H,m,a⟩ R=Am .append [.ref n,.int now] ⟨[("now",.int now),("line",v)],H,m,a⟩ λ_ τ=>R τ:=by rfl'
def r4:(Hm (CU w 27) (eN.drop 1) (lS sc made T W B (nT nw now fr [("matcher",.ref 2)]) [(2,.inst aD (Bc a0 b0 mb op fb b2j)),(3,.list M)] 4) λvs σ=>Ln (.tup (.ref 3::vs)) 3 σ λvs σ=>Vg Ap (["at","windows","notes"]:List Str) vs.reverse σ λσ=>wL (AF w) (AI w 29) (fX.2.drop 8) σ K)=(3=3/\wL (AF w) (AI w 29) (fX.2.drop 8) (lS sc made T W B (mT nw now fr (.ref 3) (.ref 4) 0 0 []) [(2,.inst aD (Bc a0 b0 mb op fb b2j)),(3,.list M),(4,.list [])] 5) K):=by rfl'
def xD:wL (AF w) (AI w 29) (fX.2.drop 8) σ K =∃τ,A0 σ τ/\AI w 29 (sX 8) τ (kx (AF w) (AI w 29) (fX.2.drop 9) K):=by rfl'
def zC:AI w 29 (sX 8) (lS sc made T W B (mT nw now fr nt (.ref 3) 0 0 []) [(2,.inst aD (Bc a0 b0 mb op fb b2j)),(3,.list [])] 4) K=B7 Mn [.ref 2] (lS sc made T W B (mT nw now fr nt (.ref 3) 0 0 []) [(2,.inst aD (Bc a0 b0 mb op fb b2j)),(3,.list [])] 4) λv σ=>ZS v σ λitems σ=>D1 items (On w) (wL (AF w) (AI w 28) []) σ K:=by rfl'
end
def WW(s:í):Expr:=ĳ (motive_2:=λ_=>Expr) s (λ_ _ _ _ _ _ _ _ _ _=>DN) (λ_ _ _ _ _ _ _ _ _ _=>DN) (λ_ _ _ _ _ _ _ _ _ _ _=>DN) (λ_ _=>DN) (λ_ _=>DN) (λ_ _ _=>DN) (λ_ _ _ _ _ _ _=>DN) (λ_ _ _ _=>DN) (λ_ _ _ _ _=>DN) (λ_ _ _ _ _=>DN) (λ_ _ _ _ _=>DN) (λ_ _ _ _=>DN) (λt _ _ _=>t) (λ_ _ _=>DN) (λ_ _ _=>DN) (λ_ _ _=>DN) (λ_ _ _=>DN) (λ_ _ _ _ _=>DN) (λ_ _ _ _ _=>DN) (λ_ _ _=>DN) (λ_ _=>DN) (λ_ _ _ _=>DN) (λ_ _=>DN) (λ_ _=>DN) (λ_ _=>DN) (λ_=>DN) (λ_=>DN) (λ_=>DN)
noncomputable def VT(e:Expr):Expr×Expr:=Expr.casesOn (motive_1:=λ_=>Expr×Expr) e (λ_ _ _=>(e,e)) (λ_ _ _=>(e,e)) (λ_ _ _ _=>(e,e)) (λ_ _ _=>(e,e)) (λ_ _ _ _=>(e,e)) (λ_ _ _ _=>(e,e)) (λ_ _ _=>(e,e)) (λ_ _ _=>(e,e)) (λ_ _ _ _=>(e,e)) (λ_ _ _ _=>(e,e)) (λ_ _ _ _ _=>(e,e)) (λ_ _ _ _=>(e,e)) (λ_ _=>(e,e)) (λ_ _=>(e,e)) (λ_ _=>(e,e)) (λl ops rs _=>(l,rs.getD 0 e)) (λ_ _ _ _=>(e,e)) (λ_ _ _ _=>(e,e)) (λ_ _=>(e,e)) (λ_ _ _=>(e,e)) (λ_ _ _=>(e,e)) (λ_ _ _=>(e,e)) (λ_ _=>(e,e)) (λ_ _=>(e,e)) (λ_ _=>(e,e)) (λ_ _ _=>(e,e)) (λ_ _ _ _=>(e,e))
def Z9(n:Nat):í:=Oy.2.getD n (.Pass AB)
def gF:í:=(Aa (Z9 3)).getD 0 (.Pass AB)
def qZ:í:=(C8 (Z9 3)).getD 0 (.Pass AB)
def oG(n:Nat):Expr:=(TO (WW (sX 9))).getD n DN
def tG:List Expr:=GD (VT (oG 0)).2
def cG:CL:=FG (VT (oG 1)).1
def XF(P:Pm)(f:Nat)(sc:Scope)(q:CL)(n:Nat):AV->St->(St->Prop)->Prop:=DT (F2 P f (BN q.2.2 sc)) (q.2.1.getD 1 Yj) (LC q.1 (F2 P f (BN q.2.2 sc)) n)
abbrev qO(tag:Str)(i1 i2 j1 j2:Int)(tl:List (Str×AV)):List (Str×AV):=("tag",.key (.str tag))::("i1",.int i1)::("i2",.int i2)::("j1",.int j1)::("j2",.int j2)::tl
abbrev cJ(a b c d:Int):Bool:=decide (AE.int a=AE.int c)&&(decide (AE.int b=AE.int d)&&([]:List AV).isEmpty)
abbrev oP(sc:List Int)(made:Int)(T W:List AV)(B:List (AE×AV))(nw:List Int)(now:Int)(fr:List Int)(N:List AV)(a1 a2:Int)(I:AO)(wn:List AV)(tl:List (Str×AV)):St:=lS sc made T W B (mT nw now fr (.lst N) (.ref 3) a1 a2 tl) [(2,I),(3,.list wn)] 4
section
variable{w:Ì}{sc nw fr:List Int}{made now a1 a2 i1 i2 j1 j2 c d:Int}{T W N wn:List AV}{B:List (AE×AV)}{I:AO}{tag wd:Str}{K:KS}{R:St->Prop}{H:List (Nat×AO)}{n m a:Nat}{u v nt:AV}{Q:AV->St->Prop}{V:Bool->St->Prop}{σ:St}
def e1:On w (Ow tag i1 i2 j1 j2) (oP sc made T W B nw now fr N a1 a2 I wn []) K=(5=5/\BI (decide (i1<i2)) (BI (decide (j1<j2)) (wL (AF w) (AI w 28) (Oy.2.drop 1) (oP sc made T W B nw now fr N a1 a2 I wn (qO tag i1 i2 j1 j2 [("word",.key (.str "replace"))])) K) (wL (AF w) (AI w 28) (Oy.2.drop 1) (oP sc made T W B nw now fr N a1 a2 I wn (qO tag i1 i2 j1 j2 [("word",.key (.str "delete"))])) K)) (wL (AF w) (AI w 28) (Oy.2.drop 1) (oP sc made T W B nw now fr N a1 a2 I wn (qO tag i1 i2 j1 j2 [("word",.key (.str "insert"))])) K)):=by rfl'
abbrev rO(w:Ì)(σ:St)(K:KS):Prop:=wL (AF w) (AI w 27) (Aa (Z9 1)) σ (kx (AF w) (AI w 28) (Oy.2.drop 2) K)
def e2:wL (AF w) (AI w 28) (Oy.2.drop 1) (oP sc made T W B nw now fr N a1 a2 I wn (qO tag i1 i2 j1 j2 [("word",.key (.str wd))])) K=BI (!cJ i1 j1 a1 a2) (rO w (oP sc made T W B nw now fr N a1 a2 I wn (qO tag i1 i2 j1 j2 [("word",.key (.str wd))])) K) (BI (!decide (AE.str tag∈[AE.str "equal",AE.str wd])) (rO w (oP sc made T W B nw now fr N a1 a2 I wn (qO tag i1 i2 j1 j2 [("word",.key (.str wd))])) K) (BI (cJ i1 j1 i2 j2) (rO w (oP sc made T W B nw now fr N a1 a2 I wn (qO tag i1 i2 j1 j2 [("word",.key (.str wd))])) K) (wL (AF w) (AI w 28) (Oy.2.drop 3) (oP sc made T W B nw now fr N i2 j2 I wn (qO tag i1 i2 j1 j2 [("word",.key (.str wd))])) K))):=by rfl'
def e4:wL (AF w) (AI w 28) (Oy.2.drop 3) (oP sc made T W B nw now fr N a1 a2 I wn (qO tag i1 i2 j1 j2 [("word",.key (.str wd))])) K=BI (decide (AE.str tag=AE.str "equal")) (wL (AF w) (AI w 27) (Aa (Z9 3)) (oP sc made T W B nw now fr N a1 a2 I wn (qO tag i1 i2 j1 j2 [("word",.key (.str wd))])) (kx (AF w) (AI w 28) [] K)) (BI (decide (j1<j2)) (wL (AF w) (AI w 26) (Aa qZ) (oP sc made T W B nw now fr N a1 a2 I wn (qO tag i1 i2 j1 j2 [("word",.key (.str wd))])) (kx (AF w) (AI w 27) [] (kx (AF w) (AI w 28) [] K))) (K .next (oP sc made T W B nw now fr N a1 a2 I wn (qO tag i1 i2 j1 j2 [("word",.key (.str wd))])))):=by rfl'
def e5:wL (AF w) (AI w 27) (Aa (Z9 3)) (oP sc made T W B nw now fr N a1 a2 I wn (qO tag i1 i2 j1 j2 [("word",.key (.str wd))])) K=(MX/\AC N.length/\BH (-1)/\∃v,CF W (-1)=some v/\UU v (.int i1) (.int i2) .none (oP sc made T W B nw now fr N a1 a2 I wn (qO tag i1 i2 j1 j2 [("word",.key (.str wd))])) λp σ=>ET .Add (.lst (Ad N none (some j1) none)) p σ λq σ=>CU w 25 (Eh (D5 gF)).2 σ λc σ=>ET .Add q c σ λr σ=>As (CY w 26) (Ax gF) r σ λσ=>K .next σ):=by rfl'
def sP:CU w 25 (Eh (D5 gF)).2 (oP sc made T W B nw now fr N a1 a2 I wn (qO tag i1 i2 j1 j2 [("word",.key (.str wd))])) Q=(MX/\AC N.length/\Q (.lst (Ad N (some j2) none none)) (oP sc made T W B nw now fr N a1 a2 I wn (qO tag i1 i2 j1 j2 [("word",.key (.str wd))]))):=by rfl'
def u7{M:List AV}:As (CY w 26) (Ax gF) (.lst M) (oP sc made T W B nw now fr N a1 a2 I wn (qO tag i1 i2 j1 j2 [("word",.key (.str wd))])) R=R (oP sc made T W B nw now fr M a1 a2 I wn (qO tag i1 i2 j1 j2 [("word",.key (.str wd))])):=by rfl'
def e6:wL (AF w) (AI w 26) (Aa qZ) (oP sc made T W B nw now fr N a1 a2 I wn (qO tag i1 i2 j1 j2 [("word",.key (.str wd))])) K=(AC wn.length/\K .next (oP sc made T W B nw now fr N a1 a2 I (wn++[CB j1 j2]) (qO tag i1 i2 j1 j2 [("word",.key (.str wd))]))):=by rfl'
abbrev ME(sc:List Int)(made:Int)(T W:List AV)(B:List (AE×AV))(nw:List Int)(now:Int)(fr:List Int)(N:List AV)(a1 a2:Int)(I:AO)(wn:List AV)(H:List (Nat×AO))(n:Nat):St:=lS sc made T W B (mT nw now fr (.lst N) (.lst wn) a1 a2 []) ((2,I)::H) n
abbrev rG(w:Ì)(σ:St)(K:KS):Prop:=wL (AF w) (AI w 28) (Aa (sX 9)) σ (kx (AF w) (AI w 29) (fX.2.drop 10) K)
def g0:wL (AF w) (AI w 29) (fX.2.drop 9) σ K =∃τ,A0 σ τ/\RX w 27 (oG 0) τ λb σ=>BI b (rG w σ K) (RX w 27 (oG 1) σ λb σ=>BI b (rG w σ K) (wL (AF w) (AI w 29) (fX.2.drop 10) σ K)):=by rfl'
def g1:RX w 27 (oG 0) (ME sc made T W B nw now fr N a1 a2 I wn [] 3) V=(BH (-1)/\∃v,CF T (-1)=some v/\Di (AF w) (.fn .len) [v] (ME sc made T W B nw now fr N a1 a2 I wn [] 3) λn σ=>Hm (CU w 25) (tG.drop 1) σ λvs σ=>CQ .NotEq (CB a1 a2) (.tup (n::vs)) σ λr σ=>Ca r σ V):=by rfl'
def sA{Z:List AV->St->Prop}:Hm (CU w 25) (tG.drop 1) (ME sc made T W B nw now fr N a1 a2 I wn [] 3) Z=(AC (zs nw).length/\Z [.int (zs nw).length] (ME sc made T W B nw now fr N a1 a2 I wn [] 3)):=by rfl'
def zF:(CQ .NotEq (CB a1 a2) (CB c d) σ λr σ=>Ca r σ V)=V (!cJ a1 a2 c d) σ:=by rfl'
def g2:RX w 27 (oG 1) (ME sc made T W B nw now fr N a1 a2 I wn [] 3) V=(subAll nn wn=some wn/\Aj (.list []) wn (Ce (AF w) 25 Ap cG 3) (Ah cG.2.2) (ME sc made T W B nw now fr N a1 a2 I wn [] 3) λv σ=>CU w 26 (VT (oG 1)).2 σ λb σ=>CQ .NotEq v b σ λr σ=>Ca r σ V):=by rfl'
def rN:CU w 26 (VT (oG 1)).2 (ME sc made T W B nw now fr N a1 a2 I wn H n) Q=Q (.lst (zs fr)) (ME sc made T W B nw now fr N a1 a2 I wn H n):=by rfl'
def tQ:Ah cG.2.2=(["new"]:List Str):=by rfl'
abbrev f0(w:Ì)(n:Nat)(j1 j2:Int)(τ:St)(R:St->Prop):Prop:=2=2/\Au j1 j2/\∃J:Nat->St->Prop,J 0 τ/\(∀k v τ,(Ao j1 (j2-j1).toNat)[k]?=some v->J k τ->XF (AF w) 25 Ap cG n v τ (J (k+1)))/\∀τ,J (Ao j1 (j2-j1).toNat).length τ->R τ
def vH:Ce (AF w) 25 Ap cG n (CB j1 j2) ⟨[("new",.lst (zs nw))],H,m,a⟩ R=f0 w n j1 j2 ⟨[("new",.lst (zs nw)),("j1",.int j1),("j2",.int j2)],H,m,a⟩ R:=by rfl'
def vO:Ce (AF w) 25 Ap cG n (CB j1 j2) ⟨[("new",.lst (zs nw)),("j1",u),("j2",v)],H,m,a⟩ R=f0 w n j1 j2 ⟨[("new",.lst (zs nw)),("j1",.int j1),("j2",.int j2)],H,m,a⟩ R:=by rfl'
def uJ:Ce (AF w) 25 Ap cG n (CB j1 j2) ⟨[("new",.lst (zs nw)),("j1",u),("j2",v),("j",nt)],H,m,a⟩ R=f0 w n j1 j2 ⟨[("new",.lst (zs nw)),("j1",.int j1),("j2",.int j2),("j",nt)],H,m,a⟩ R:=by rfl'
def v3:XF (AF w) 25 Ap cG n (.int c) ⟨[("new",.lst (zs nw)),("j1",u),("j2",v)],H,m,a⟩ R=(BH c/\∃x,CF (zs nw) c=some x/\Am .append [.ref n,x] ⟨[("new",.lst (zs nw)),("j1",u),("j2",v),("j",.int c)],H,m,a⟩ λ_ τ=>R τ):=by rfl'
def w6:XF (AF w) 25 Ap cG n (.int c) ⟨[("new",.lst (zs nw)),("j1",u),("j2",v),("j",nt)],H,m,a⟩ R=(BH c/\∃x,CF (zs nw) c=some x/\Am .append [.ref n,x] ⟨[("new",.lst (zs nw)),("j1",u),("j2",v),("j",.int c)],H,m,a⟩ λ_ τ=>R τ):=by rfl'
end
def fU:Expr×List í:=E0 (sX 11)
def sU(n:Nat):í:=fU.2.getD n (.Pass AB)
def rA(w:Ì):AV->St->KS->Prop:=λv σ K=>CY w 28 fU.1 v σ λσ=>wL (AF w) (AI w 28) fU.2 σ K
def fV:Expr×List í:=E0 (sU 4)
def gW(w:Ì):AV->St->KS->Prop:=λv σ K=>CY w 27 fV.1 v σ λσ=>wL (AF w) (AI w 27) fV.2 σ K
def sV:í:=fV.2.getD 0 (.Pass AB)
def oU(n:Nat):Expr:=(TO (WW (sU 2))).getD n DN
def cZ:CL:=FG (VT (WW (sX 12))).2
def aU:List Expr:=(Ai (D5 (sU 1))).2.1
abbrev uT(nw:List Int)(now:Int)(fr:List Int)(wn N:List AV)(tl:List (Str×AV)):List (Str×AV):=nT nw now fr (("matcher",.ref 2)::("windows",.lst wn)::("notes",.lst N)::tl)
abbrev uS(sc:List Int)(made:Int)(T W:List AV)(B:List (AE×AV))(nw:List Int)(now:Int)(fr:List Int)(I:AO)(wn N:List AV)(tl:List (Str×AV)):St:=lS sc made T W B (uT nw now fr wn N tl) [(2,I)] 3
abbrev uD(D:List AV)(u:Int)(tl:List (Str×AV)):List (Str×AV):=("due",.lst D)::("u",.int u)::tl
abbrev F0(F L:List AV):AV:=.tup [.lst F,.lst L]
section
variable{w:Ì}{sc nw fr:List Int}{made now c u j i k:Int}{T W N wn D F L M:List AV}{B:List (AE×AV)}{I:AO}{a0 b0 mb op fb b2j v x:AV}{K:KS}{R:St->Prop}{H:List (Nat×AO)}{n m a:Nat}{Q:AV->St->Prop}{V:Bool->St->Prop}{σ:St}{ρ tl:List (Str×AV)}
def s8:wL (AF w) (AI w 29) (fX.2.drop 10) σ K =∃τ,A0 σ τ/\AI w 29 (sX 10) τ (kx (AF w) (AI w 29) (fX.2.drop 11) K):=by rfl'
def rR:AI w 29 (sX 10) (uS sc made T W B nw now fr I wn N []) K=B7 NH [.ref 0,.lst (zs nw),.lst (zs fr)] (uS sc made T W B nw now fr I wn N []) λv σ=>As (CY w 28) (Od 10) v σ λσ=>K .next σ:=by rfl'
def yA:As (CY w 28) (Od 10) v (uS sc made T W B nw now fr I wn N []) R=R (uS sc made T W B nw now fr I wn N [("due",v)]):=by rfl'
def u0:wL (AF w) (AI w 29) (fX.2.drop 11) (uS sc made T W B nw now fr I wn N [("due",.lst D)]) K=(AC T.length/\((-1:Int) = -1/\Au ((T.length:Int)-1) (-1))/\D1 (Cb ((T.length:Int)-1) ((T.length:Int)-1 - -1).toNat) (rA w) (wL (AF w) (AI w 28) []) (uS sc made T W B nw now fr I wn N [("due",.lst D)]) (kx (AF w) (AI w 29) (fX.2.drop 12) K)):=by rfl'
def u1:rA w (.int u) (uS sc made T W B nw now fr (.inst aD (Bc a0 b0 mb op fb b2j)) wn N [("due",.lst D)]) K=(BH u/\∃v,CF T u=some v/\B7 KW [.ref 2,v] (uS sc made T W B nw now fr (.inst aD (Bc a0 b0 mb op fb b2j)) wn N (uD D u [])) λ_ σ=>wL (AF w) (AI w 28) (fU.2.drop 1) σ K):=by rfl'
def u2:wL (AF w) (AI w 28) (fU.2.drop 1) (uS sc made T W B nw now fr I wn N (uD D u [])) K=(BH u/\∃v,CF T u=some v/\Di (AF w) (.fn .len) [v] (uS sc made T W B nw now fr I wn N (uD D u [])) λn σ=>Hm (CU w 26) (aU.drop 2) σ λvs σ=>Di (AF w) (.glo 256) (.ref 2::n::vs) σ λr σ=>As (CY w 27) (Ax (sU 1)) r σ λσ=>wL (AF w) (AI w 28) (fU.2.drop 2) σ K):=by rfl'
def sI{Z:List AV->St->Prop}:Hm (CU w 26) (aU.drop 2) (uS sc made T W B nw now fr I wn N (uD D u [])) Z=Z [.lst wn] (uS sc made T W B nw now fr I wn N (uD D u [])):=by rfl'
def vL:Di (AF w) (.glo 256) [.ref 2,.int c,.lst wn] σ Q=B7 MQ [.ref 2,.int c,.lst wn] σ Q:=by rfl'
def vK:As (CY w 27) (Ax (sU 1)) v (uS sc made T W B nw now fr I wn N (uD D u [])) R=R (uS sc made T W B nw now fr I wn N (uD D u [("read",v)])):=by rfl'
abbrev rU(w:Ì)(σ:St)(K:KS):Prop:=wL (AF w) (AI w 27) (Aa (sU 2)) σ (kx (AF w) (AI w 28) (fU.2.drop 3) K)
def u3:wL (AF w) (AI w 28) (fU.2.drop 2) (uS sc made T W B nw now fr I wn N (uD D u [("read",F0 F L)])) K=(BH 0/\∃f,CF [.lst F,.lst L] 0=some f/\CU w 25 (VT (oU 1)).2 (uS sc made T W B nw now fr I wn N (uD D u [("read",F0 F L)])) λd σ=>CQ .NotEq f d σ λr σ=>Ca r σ λb σ=>BI b (rU w σ K) (wL (AF w) (AI w 28) (fU.2.drop 3) σ K)):=by rfl'
def yY:CU w 25 (VT (oU 1)).2 (uS sc made T W B nw now fr I wn N (uD D u [("read",F0 F L)])) Q=(BH u/\∃v,CF D u=some v/\Q v (uS sc made T W B nw now fr I wn N (uD D u [("read",F0 F L)]))):=by rfl'
def u4:wL (AF w) (AI w 28) (fU.2.drop 3) (uS sc made T W B nw now fr I wn N (uD D u [("read",F0 F L)])) K=(BH 1/\∃f,CF [.lst F,.lst L] 1=some f/\As (CY w 27) (Ax (sU 3)) f (uS sc made T W B nw now fr I wn N (uD D u [("read",F0 F L)])) λσ=>wL (AF w) (AI w 28) (fU.2.drop 4) σ K):=by rfl'
def w8:As (CY w 27) (Ax (sU 3)) (.lst M) (uS sc made T W B nw now fr I wn N (uD D u [("read",F0 F L)])) R=R (uS sc made T W B nw now fr I M N (uD D u [("read",F0 F L)])):=by rfl'
def u5:wL (AF w) (AI w 28) (fU.2.drop 4) (uS sc made T W B nw now fr I wn N (uD D u [("read",F0 F L)])) K=(BH 0/\∃f,CF [.lst F,.lst L] 0=some f/\ZS f (uS sc made T W B nw now fr I wn N (uD D u [("read",F0 F L)])) λitems σ=>D1 items (gW w) (wL (AF w) (AI w 27) []) σ (kx (AF w) (AI w 28) [] K)):=by rfl'
abbrev jT(j i k:Int):List (Str×AV):=[("j",.int j),("i",.int i),("k",.int k)]
def v1:gW w (Es j i k) (uS sc made T W B nw now fr I wn N (uD D u [("read",F0 F L)])) K=(3=3/\MX/\AC N.length/\BH u/\∃v,CF W u=some v/\UU v (.int i) (.int (i+k)) .none (uS sc made T W B nw now fr I wn N (uD D u (("read",F0 F L)::jT j i k))) λp σ=>ET .Add (.lst (Ad N none (some j) none)) p σ λq σ=>CU w 25 (Eh (D5 sV)).2 σ λc σ=>ET .Add q c σ λr σ=>As (CY w 26) (Ax sV) r σ λσ=>K .next σ):=by rfl'
def sN:CU w 25 (Eh (D5 sV)).2 (uS sc made T W B nw now fr I wn N (uD D u (("read",F0 F L)::jT j i k))) Q=(MX/\AC N.length/\Q (.lst (Ad N (some (j+k)) none none)) (uS sc made T W B nw now fr I wn N (uD D u (("read",F0 F L)::jT j i k)))):=by rfl'
def w9:As (CY w 26) (Ax sV) (.lst M) (uS sc made T W B nw now fr I wn N (uD D u (("read",F0 F L)::jT j i k))) R=R (uS sc made T W B nw now fr I wn M (uD D u (("read",F0 F L)::jT j i k))):=by rfl'
abbrev rZ(w:Ì)(σ:St)(K:KS):Prop:=wL (AF w) (AI w 28) (Aa (sX 12)) σ (kx (AF w) (AI w 29) (fX.2.drop 13) K)
def tY:wL (AF w) (AI w 29) (fX.2.drop 12) (uS sc made T W B nw now fr I wn N [("due",.lst D)]) K=(subAll nn (zs nw)=some (zs nw)/\Aj (.list []) (zs nw) (Ce (AF w) 26 Ap cZ 3) (Ah cZ.2.2) (uS sc made T W B nw now fr I wn N [("due",.lst D)]) λv σ=>CQ .NotEq (.lst N) v σ λr σ=>Ca r σ λb σ=>BI b (rZ w σ K) (wL (AF w) (AI w 29) (fX.2.drop 13) σ K)):=by rfl'
def yH:Ah cZ.2.2=(["born"]:List Str):=by rfl'
def uW:Ce (AF w) 26 Ap cZ n (.int c) ⟨[("born",.dct B)],H,m,a⟩ R =∃v,B.lookup (.int c)=some v/\Am .append [.ref n,v] ⟨[("born",.dct B),("line",.int c)],H,m,a⟩ λ_ τ=>R τ:=by rfl'
def t7:Ce (AF w) 26 Ap cZ n (.int c) ⟨[("born",.dct B),("line",x)],H,m,a⟩ R =∃v,B.lookup (.int c)=some v/\Am .append [.ref n,v] ⟨[("born",.dct B),("line",.int c)],H,m,a⟩ λ_ τ=>R τ:=by rfl'
def xR:wL (AF w) (AI w 29) (fX.2.drop 13) (lS sc made T W B (uT nw now fr wn N tl) H n) K=(AC T.length/\AC W.length/\K .next (lS sc made (T++[.lst (zs nw)]) (W++[.lst N]) B (uT nw now fr wn N tl) H n)):=by rfl'
def l0:wL (AF w) (AI w 30) FE (A4 ((["script"]:List Str).zip [.lst (zs sc)]) []) K=(2=2/\wL (AF w) (AI w 30) (FE.drop 1) ⟨[("script",.lst (zs sc)),("texts",.ref 0),("made",.int 6)],[(0,.list [.lst (zs [0,1,2,3,4,5])])],1,0⟩ K):=by rfl'
def l9:wL (AF w) (AI w 30) (FE.drop 3) (lS sc made T W B [] H n) K=K (.ret (.bool true)) (lS sc made T W B [] H n):=by rfl'
end
def vI:List Expr:=GD (D5 (FE.getD 1 (.Pass AB)))
noncomputable def hX(e:Expr):List Expr:=Expr.casesOn (motive_1:=λ_=>List Expr) e (λ_ _ _=>[]) (λ_ _ _=>[]) (λ_ _ _ _=>[]) (λ_ _ _=>[]) (λ_ _ _ _=>[]) (λ_ _ _ _=>[]) (λ_ _ _=>[]) (λ_ _ _=>[]) (λ_ _ _ _=>[]) (λ_ _ _ _=>[]) (λ_ _ _ _ _=>[]) (λ_ _ _ _=>[]) (λ_ _=>[]) (λ_ _=>[]) (λ_ _=>[]) (λ_ _ _ _=>[]) (λ_ _ _ _=>[]) (λ_ _ _ _=>[]) (λ_ _=>[]) (λ_ _ _=>[]) (λ_ _ _=>[]) (λ_ _ _=>[]) (λ_ _=>[]) (λ_ _=>[]) (λes _=>es) (λ_ _ _=>[]) (λ_ _ _ _=>[])
def cI:CL:=FG ((hX (vI.getD 0 DN)).getD 0 DN)
def dI:DL:=dR (vI.getD 1 DN)
abbrev gB:AV:=.lst (zs [0,1,2,3,4,5])
abbrev iS(sc:List Int)(tl:List (Str×AV))(H:List (Nat×AO))(n:Nat):St:=⟨("script",.lst (zs sc))::("texts",.ref 0)::("made",.int 6)::tl,(0,.list [gB])::H,n,0⟩
section
variable{w:Ì}{sc:List Int}{c k:Int}{K:KS}{R:St->Prop}{H:List (Nat×AO)}{n m a:Nat}{u v x:AV}{Q:AV->St->Prop}{σ:St}
def l1:wL (AF w) (AI w 30) (FE.drop 1) (iS sc [] [] 1) K=CU w 28 (vI.getD 0 DN) (iS sc [] [] 1) λu σ=>CU w 28 (vI.getD 1 DN) σ λv σ=>As (CY w 29) (Ax (FE.getD 1 (.Pass AB))) (.tup [u,v]) σ λσ=>wL (AF w) (AI w 30) (FE.drop 2) σ K:=by rfl'
def yE:CU w 28 (vI.getD 0 DN) (iS sc [] [] 1) Q=(BH 0/\∃v,CF [gB] 0=some v/\ZS v (iS sc [] [] 1) λitems σ=>Aj (.list []) items (Ce (AF w) 26 Ap cI σ.n) (Ah cI.2.2) σ λv σ=>Q (.ref σ.n) (σ.new (.list [v]))):=by rfl'
def rM:CU w 28 (vI.getD 1 DN) (iS sc [] H n) Q=(BH 0/\∃v,CF [gB] 0=some v/\ZS v (iS sc [] H n) λitems σ=>Aj (.dict []) items (VX (AF w) 27 Ap dI σ.n) (Ah dI.2.2) σ Q):=by rfl'
def pZ:Ah cI.2.2=[]/\Ah dI.2.2=[]:=⟨by rfl',by rfl'⟩
def zE:Ce (AF w) 26 Ap cI n v ⟨[],H,m,a⟩ R=Am .append [.ref n,.int 0] ⟨[("line",v)],H,m,a⟩ λ_ τ=>R τ:=by rfl'
def sE:Ce (AF w) 26 Ap cI n v ⟨[("line",u)],H,m,a⟩ R=Am .append [.ref n,.int 0] ⟨[("line",v)],H,m,a⟩ λ_ τ=>R τ:=by rfl'
def wW:VX (AF w) 27 Ap dI n (.int k) ⟨[],H,m,a⟩ R=DJ ⟨[("line",.int k)],H,m,a⟩ (.ref n) λx es=>R ((⟨[("line",.int k)],H,m,a⟩:St).set x (.dict (dset es (.int k) (.int 0)))):=by rfl'
def vM:VX (AF w) 27 Ap dI n (.int k) ⟨[("line",u)],H,m,a⟩ R=DJ ⟨[("line",.int k)],H,m,a⟩ (.ref n) λx es=>R ((⟨[("line",.int k)],H,m,a⟩:St).set x (.dict (dset es (.int k) (.int 0)))):=by rfl'
def xW:As (CY w 29) (Ax (FE.getD 1 (.Pass AB))) (.tup [u,v]) (iS sc [] H n) R=(2=2/\R (iS sc [("writers",u),("born",v)] H n)):=by rfl'
def l2:wL (AF w) (AI w 30) (FE.drop 2) (iS sc [("writers",u),("born",v)] H n) K=(AC (5+(zs sc).length)/\subAll nn (zs [49,8,46,51,53]++zs sc)=some (zs [49,8,46,51,53]++zs sc)/\D1 (zs [49,8,46,51,53]++zs sc) (Yp w) (wL (AF w) (AI w 29) []) (iS sc [("writers",u),("born",v)] H n) (kx (AF w) (AI w 30) (FE.drop 3) K)):=by rfl'
end
def IE{tr:Tr}{ρ:List (Str×AV)}{o1 o2:AO}{H:List (Nat×AO)}{n k:Nat}{D:É}{at_:List (Str×AV)}{as as':List AV}{Q:AV->St->Prop}(hs:AH nn at_=some at_)(hr:BV as=[2])(ha:subAll (KO [2]) as=some as')
  (h:tr as' [(D,at_)] λr os'=>Q r (St.sets ⟨ρ,(0,o1)::(1,o2)::(2,.inst D at_)::H,n,k⟩ [2] os')):B7 tr as ⟨ρ,(0,o1)::(1,o2)::(2,.inst D at_)::H,n,k⟩ Q:=by
 refine .inl ?_
 unfold ID
 rw[hr,ha]
 exact⟨CA hs,h⟩
def eZ{tr:Tr}{σ:St}{as:List AV}{Q:AV->St->Prop}(hr:BV as=[])(ha:subAll nn as=some as)(h:tr as [] λr os'=>Q r σ):B7 tr as σ Q:=by
 refine .inl ?_
 unfold ID
 rw[hr,show subAll (KO []) as=some as from CC ha]
 exact⟨Bo,h⟩
def IF{r r':List AV}(h:subAll nn r=some r'):subAll (KO [2]) (.ref 2::r)=some (.ref 0::r'):=by
 show(some (AV.ref 0)).bind (λa=>(subAll (KO [2]) r).map (a :: ·))=_
 rw[CC h];rfl
def ZK(l:List Int):ED (zs l)=some l:=Ä (motive:=λl=>ED (zs l)=some l) rfl (λa r ih=>by
 show(some a).bind (λx=>(ED (zs r)).map (x :: ·))=_
 rw[ih];rfl) l
def bD(ks:List Int)(b:Int->Int):List (AE×AV):=ks.map λx=>(AE.int x,AV.int (b x))
noncomputable def Ge(ks:List Int)(k:Int):List Int:=if k∈ks then ks else ks++[k]
def Ez(ks l:List Int):List Int:=l.foldl Ge ks
def QA{ks:List Int}{k x:Int}:x∈Ge ks k↔x∈ks\/x=k:=by
 unfold Ge
 split
 ·exact⟨.inl,λh=>h.elim id λe=>e▸‹_›⟩
 ·rw[Á,z9]
def Gq{l:List Int} :∀{ks:List Int} {x:Int},x∈Ez ks l↔x∈ks\/x∈l:=by
 induction l with
 | nil=>intro ks x;exact⟨.inl,λh=>h.elim id λz=>nomatch z⟩
 | cons a l ih=>
  intro ks x
  show x∈Ez (Ge ks a) l↔_
  rw[ih,QA,È,or_assoc]
def Ky{ks:List Int}{k:Int}:(Ge ks k).length<=ks.length+1:=by
 unfold Ge
 split
 ·exact ć _
 ·rw[zU];exact zX _
def Tq{ks:List Int}{b:Int->Int}{k:Int}:dset (bD ks b) (.int k) (.int (b k))=bD (Ge ks k) b:=by
 have h:((bD ks b).any λkv=>decide (kv.1=AE.int k))=decide (k∈ks):=by
  rw[aA0,aD0,decide_eq_true_iff]
  refine⟨λ⟨p,hp,e⟩=>?_,λhk=>⟨_,ś hk,decide_eq_true rfl⟩⟩
  obtain⟨x,hx,rfl⟩:=Ğ.mp hp
  exact AE.int.inj (of_decide_eq_true e)▸hx
 unfold dset Ge
 rw[h]
 by_cases hk:k∈ks
 ·rw[if_pos (decide_eq_true hk),if_pos hk]
  unfold bD
  rw[Ĳ]
  refine ŀ λx _=>?_
  show(if AE.int x=AE.int k then(AE.int x,AV.int (b k))else(AE.int x,AV.int (b x)))=_
  by_cases e:AE.int x=AE.int k
  ·rw[if_pos e,AE.int.inj e]
  ·rw[if_neg e]
 ·rw[if_neg (λz=>hk (of_decide_eq_true z)),if_neg hk]
  unfold bD
  rw[ù];rfl
def GZ{ks:List Int}{b:Int->Int}{k:Int}:(bD ks b).lookup (.int k)=if k∈ks then some (.int (b k))else none:=by
 induction ks with
 | nil=>rfl
 | cons a r ih=>
  show((AE.int a,AV.int (b a))::bD r b).lookup (.int k)=_
  rw[AU,ih]
  by_cases e:k=a
  ·subst e;rw[beq_self_eq_true,if_pos (z8 ..)];rfl
  ·rw[beq_eq_false_iff_ne.mpr (λz=>e (AE.int.inj z))]
   show(if k∈r then _ else _)=_
   by_cases h:k∈r
   ·rw[if_pos h,if_pos (À _ h)]
   ·rw[if_neg h,if_neg (λz=>(È.mp z).elim e h)]
def Ug{ks:List Int}{b:Int->Int}:DB (bD ks b)=zs ks:=Ĳ ..
def I6{ks:List Int}{b:Int->Int}:(AV.dct (bD ks b)).sub nn=some (.dct (bD ks b)):=by
 have:subDict nn (bD ks b)=some (bD ks b):=by
  induction ks with
  | nil=>rfl
  | cons a r ih=>show(some (AE.int a,AV.int (b a))).bind (λp=>(subDict nn (bD r b)).map (p :: ·))=_;rw[ih];rfl
 exact congrArg (Ñ AV.dct) this
section
variable{l:List Int}{tn:AV->St->(St->Prop)->Prop}{xs:List Str}{ρ₀:List (Str×AV)}{H:List (Nat×AO)}{n a:Nat}{Q:AV->St->Prop}
def QM{k:Nat}{v:AV}(h:(zs l)[k]?=some v) :∃x,l[k]?=some x/\v = .int x:=by
 obtain⟨x,e,rfl⟩:=map_some ((Ð ..).symm.trans h)
 exact⟨x,e,rfl⟩
def Db(F:Int->List Int)(I:List (Str×AV)->Prop)(h0:I (pick ρ₀ xs))(hs :∀ρ H' n',I ρ->F1 ⟨ρ,H',n',a⟩ ⟨ρ₀,H,n,a⟩ xs)(hl:l.length<=1000000)(hF :∀x,(F x).length<=1)
  (ht :∀x,x∈l->∀ρ L (K:St->Prop),I ρ->L.length<=1000000->(∀ρ',I ρ'->K ⟨ρ',AP H n (.list (L++zs (F x))),n+1,a⟩)->tn (.int x) ⟨ρ,AP H n (.list L),n+1,a⟩ K)
  (q:Q (.ref n) ⟨ρ₀,AP H n (.list (zs (l.flatMap F))),n+1,a⟩):Aj (.list []) (zs l) tn xs ⟨ρ₀,H,n,a⟩ Q:=by
 refine Df (λk=>zs (F (l.getD k 0))) I h0 hs (by rw[A7];exact hl) (λk=>by rw[A7];exact hF _) (λk v hv ρ L K hI hL hK=>?_) ?_
 ·obtain⟨x,e,rfl⟩:=QM hv
  rw[Ø,e]at hK
  exact ht x (Ò e) ρ L K hI hL hK
 ·have:(Ë (zs l).length).flatMap (λk=>zs (F (l.getD k 0)))=zs (l.flatMap F):=by
   rw[A7,show l.flatMap F=((Ë l.length).map λi=>l.getD i 0).flatMap F from by rw[DF]]
   induction Ë l.length with
   | nil=>rfl
   | cons k r ih=>rw[ů,ih,Ć,ů,BM]
  rw[this];exact q
def Ks(b:Int->Int)(I:List (Str×AV)->Prop)(h0:I (pick ρ₀ xs))(hs :∀ρ H' n',I ρ->F1 ⟨ρ,H',n',a⟩ ⟨ρ₀,H,n,a⟩ xs)(hl:l.length<=1000000)
  (ht :∀x,x∈l->∀ρ D (K:St->Prop),I ρ->D.length<=1000000->(∀ρ',I ρ'->K ⟨ρ',AP H n (.dict (dset D (.int x) (.int (b x)))),n+1,a⟩)->tn (.int x) ⟨ρ,AP H n (.dict D),n+1,a⟩ K)
  (q:Q (.ref n) ⟨ρ₀,AP H n (.dict (bD (Ez [] l) b)),n+1,a⟩):Aj (.dict []) (zs l) tn xs ⟨ρ₀,H,n,a⟩ Q:=by
 have len :∀k,(Ez [] (l.take k)).length<=k:=λk=>by
  have go :∀(m ks:List Int),(Ez ks m).length<=ks.length+m.length:=λm=>by
   induction m with
   | nil=>exact λks=>zX _
   | cons x m ih=>exact λks=>zP (ih (Ge ks x)) (by have:=Ky (ks:=ks) (k:=x);rw[Ş];exists[_,_,_],0x182a1a20a0181a008,this)
  have:=go (l.take k) []
  rw[ï]at this
  exact zP this (by show 0+_<=k;exact id (ql [_,_] 0x10d08a0 (by rfl')))
 refine⟨λk τ=>∃ρ,I ρ/\τ=⟨ρ,AP H n (.dict (bD (Ez [] (l.take k)) b)),n+1,a⟩,⟨_,h0,rfl⟩,λk v τ hv hJ=>?_,λτ hJ=>?_⟩
 ·obtain⟨ρ,hI,rfl⟩:=hJ
  obtain⟨x,e,rfl⟩:=QM hv
  have hk:=(zT.mp e).1
  refine ht x (Ò e) ρ _ _ hI (zP (Â (z6 ..)) (zP (len k) (zP (Û hk) hl))) λρ' hI'=>⟨ρ',hI',?_⟩
  rw[Tq,show Ge (Ez [] (l.take k)) x=Ez [] (l.take (k+1))from by unfold Ez;rw[ĺ,e,List.foldl_append];rfl]
 ·obtain⟨ρ,hI,rfl⟩:=hJ
  rw[A7,aD3]
  exact⟨hs _ _ _ hI,q⟩
def Lg{ρ:List (Str×AV)}{D:List (AE×AV)}{K:Nat->List (AE×AV)->Prop}{m:Nat}(hz:D.length<=1000000)(q:K n D):DJ ⟨ρ,AP H n (.dict D),m,a⟩ (.ref n) K:=by
 show A9 (Ñ (n,·) ((AP H n (.dict D)).lookup n)) λp=>A9 p.2.dct λvs=>AC vs.length/\K p.1 vs
 rw[Dp]
 exact⟨hz,q⟩
end
end Mine
end
namespace Mine
section
variable{la lb:List Int}
def GC(la lb:List Int)(i j:Nat):Prop:=∃x,la[i]?=some x/\lb[j]?=some x
def Hy(i j i' j':Nat):Prop:=i<i'/\j<j'
def VC(bs:List Ab)(i j:Nat):Prop:=∃b∈bs,∃d,d<b.2.2/\i=b.1+d/\j=b.2.1+d
structure lP(la lb:List Int)(D:Nat->Nat->Prop)(i j ri rj rk:Nat):Prop where
 pos:0<rk
 all :∀t,t<rk->D (ri+t) (rj+t)/\¬ Hy i j (ri+t) (rj+t)/\¬ Hy (ri+t) (rj+t) i j
 big :∀si sj sk d,d<sk->i=si+d->j=sj+d->(∀t,t<sk->GC la lb (si+t) (sj+t))->sk<rk\/(sk=rk/\ri<si)
def Ej.keep{D:Nat->Nat->Prop}(h1 :∀i j,D i j->GC la lb i j)(h2 :∀i j i' j',D i j->D i' j'->Hy i j i' j'\/(i=i'/\j=j')\/Hy i' j' i j)
  {alo ahi blo bhi:Nat} {bs:List Ab} (r:Ej la lb alo ahi blo bhi bs):(∀i j,alo<=i->i<ahi->blo<=j->j<bhi->GC la lb i j->¬ D i j->∃ri rj rk,lP la lb D i j ri rj rk/\alo<=ri/\ri+rk<=ahi/\blo<=rj/\rj+rk<=bhi)->
  ∀i j,alo<=i->i<ahi->blo<=j->j<bhi->GC la lb i j->(VC bs i j↔D i j):=by
 induction r with
 | @zero alo ahi blo bhi i0 j0 h=>
  intro _ i j a b c d e
  have:=h.max i j 1 ⟨a,c,b,d,λt ht=>(aC3.mp ht)▸e⟩
  exact z7 (ql [] 0xa081808 (by rfl') this)
 | @step alo ahi blo bhi i0 j0 k L R h hk l r ihl ihr=>
  intro hw
  obtain⟨s1,s2,s3,s4,s5⟩:=h.str
  have hC :∀d,d<k->D (i0+d) (j0+d):=λd hd=>ü λhn=>by
   obtain⟨ri,rj,rk,ag,w1,w2,w3,w4⟩:=hw _ _ (by exists[_,_,_],0x21a001008,s1) (by exists[_,_,_,_],0x230a11318210a08,s3,hd) (by exists[_,_,_],0x21a001008,s2) (by exists[_,_,_,_],0x230a11318210a08,s4,hd) (s5 d hd) hn
   have hm:=h.max ri rj rk ⟨w1,w3,w2,w4,λt ht=>h1 _ _ (ag.all t ht).1⟩
   rcases ag.big i0 j0 k d hd rfl rfl s5 with q | ⟨q,q2⟩
   ·exists[_,_],0xa01181008,hm,q
   ·subst q
    rcases h.fst hk ri rj ⟨w1,w3,w2,w4,λt ht=>h1 _ _ (ag.all t ht).1⟩with q | q
    ·exists[_,_],0xa01181018,q2,q
    ·exists[_,_],0xa01281018,q2,q.1
  have hf:=hC 0 hk
  have hl:=hC (k-1) (by exists[_],0x180b100818,hk)
  have hL:=ihl λi j a b c d e hn=>by
   obtain⟨ri,rj,rk,ag,w1,w2,w3,w4⟩:=hw i j a (by exists[_,_,_,_],0x2310318210a08,s3,b) c (by exists[_,_,_,_],0x2310318210a08,s4,d) e hn
   have g:=ag.all (rk-1) (by have:=ag.pos;exists[_],0x180b100818,this)
   have:=h2 _ _ _ _ g.1 hf
   have hp:=ag.pos
   have g2:=g.2.1
   unfold Hy at this g2
   exact⟨ri,rj,rk,ag,w1,by(exists[_,_,_,_,_,_,_],0x154a0185b6a083a1185b4a081a16083a185b6a2081a185b4a267083a185b6a1081a185b4a1678185b6a21185b4a0169832181018,b,d,g2,this),w3,by exists[_,_,_,_,_,_,_],0x356a0185b6a083a1185b4a081a16083a185b6a2081a185b4a267083a185b6a1081a185b4a1678185b6a21185b4a0169832181018,b,d,g2,this⟩
  have hR:=ihr λi j a b c d e hn=>by
   obtain⟨ri,rj,rk,ag,w1,w2,w3,w4⟩:=hw i j (by exists[_,_,_,_],0x300321a081008,s1,a) b (by exists[_,_,_,_],0x300321a081008,s2,c) d e hn
   have g:=ag.all 0 ag.pos
   have:=h2 _ _ _ _ g.1 hl
   have g2:=g.2.2
   unfold Hy at this g2
   exact⟨ri,rj,rk,ag,by(exists[_,_,_,_,_,_,_],0x510a0086a181b3a1085a181b0a16181b3a086a2181b0a085a267181b3a086a1181b0a085a16784086a12085a1698413a08210a08,a,c,g2,this),w2,by(exists[_,_,_,_,_,_,_],0x613a0086a181b3a1085a181b0a16181b3a086a2181b0a085a267181b3a086a1181b0a085a16784086a12085a1698413a08210a08,a,c,g2,this),w4⟩
  intro i j a b c d e
  constructor
  ·rintro ⟨x,hx,t,ht,rfl,rfl⟩
   rcases Á.mp hx with hx' | hx'
   ·have w:=l.within x hx'
    exact(hL _ _ (by exists[_,_,_],0x21a0021a008,a) (by exists[_,_,_,_],0x302a1312a081018,ht,w.2.1) (by exists[_,_,_],0x21a0021a008,c) (by exists[_,_,_,_],0x302a1312a081018,ht,w.2.2.2.1) e).mp ⟨x,hx',t,ht,rfl,rfl⟩
   ·rcases È.mp hx' with rfl | hx'
    ·exact hC t ht
    ·have w:=r.within x hx'
     exact(hR _ _ (by exists[_,_,_,_],0x32a10a0210a08,w.1) (by exists[_,_,_],0x210a1210a18,b) (by exists[_,_,_,_],0x32a10a0210a08,w.2.2.1) (by exists[_,_,_],0x210a1210a18,d) e).mp ⟨x,hx',t,ht,rfl,rfl⟩
  ·intro hD
   have p:=h2 _ _ _ _ hD hf
   have q:=h2 _ _ _ _ hD hl
   unfold Hy at p q
   by_cases z:i<i0
   ·obtain⟨x,hx,q⟩:=(hL i j a z c (by exists[_,_,_,_],0x3212083a10081a16083a22081a0267083a21081a016781018,z,p) e).mpr hD
    exact⟨x,Á.mpr (.inl hx),q⟩
   ·by_cases z2:i0+k<=i
    ·obtain⟨x,hx,q⟩:=(hR i j z2 b (by exists[_,_,_,_,_],0x314a03181b4a12181b0a16181b4a32181b0a2267181b4a31181b0a21678210a08,z2,q) d e).mpr hD
     exact⟨x,Á.mpr (.inr (À _ hx)),q⟩
    ·have g:=h2 _ _ _ _ hD (hC (i-i0) (by exists[_,_,_],0x12b1201a09800818,hk,z2))
     unfold Hy at g
     exact⟨(i0,j0,k),Á.mpr (.inr (z8 ..)),i-i0,by show i-i0<k;exact id (ql [_,_,_] 0x12b1201a09800818 (by rfl') hk z2),by show i=i0+(i-i0);exact id (ql [_,_] 0x10b1a0210198 (by rfl') z),by show j=j0+(i-i0);exact id (ql [_,_,_,_] 0x10b3a22210b3a1010b1a1610b3a2210b1a026710b3a2110b1a0167810198 (by rfl') z g)⟩
def Ej.cmn{alo ahi blo bhi:Nat}{bs:List Ab}(r:Ej la lb alo ahi blo bhi bs) :∀b∈bs,∀d,d<b.2.2->GC la lb (b.1+d) (b.2.1+d):=by
 induction r with
 | zero h=>exact λb hb=>nomatch hb
 | step h hk l r ihl ihr=>
  intro b hb
  rcases Á.mp hb with hb | hb
  ·exact ihl b hb
  ·rcases È.mp hb with rfl | hb
   ·exact h.str.2.2.2.2
   ·exact ihr b hb
def Ej.kept{D:Nat->Nat->Prop}(h1 :∀i j,D i j->GC la lb i j)(h2 :∀i j i' j',D i j->D i' j'->Hy i j i' j'\/(i=i'/\j=j')\/Hy i' j' i j)
  (h3 :∀i j,GC la lb i j->¬ D i j->∃ri rj rk,lP la lb D i j ri rj rk) {bs:List Ab} (r:Ej la lb 0 la.length 0 lb.length bs) :∀i j,VC bs i j↔D i j:=by
 have bd :∀i j,GC la lb i j->i<la.length/\j<lb.length:=λi j ⟨x,e,f⟩=>⟨(zT.mp e).1,(zT.mp f).1⟩
 have k:=r.keep h1 h2 λi j _ _ _ _ e hn=>by
  obtain⟨ri,rj,rk,ag⟩:=h3 i j e hn
  have g:=bd _ _ (h1 _ _ (ag.all (rk-1) (by have:=ag.pos;exists[_],0x180b100818,this)).1)
  have:=ag.pos
  exact⟨ri,rj,rk,ag,by(exists[_],0x80),by(exists[_,_,_],0x210a02181b0a18,g.1),by(exists[_],0x80),by exists[_,_,_],0x210a02181b0a18,g.2⟩
 intro i j
 constructor
 ·intro hc
  obtain⟨b,hb,d,hd,rfl,rfl⟩:=hc
  have e:=r.cmn b hb d hd
  have g:=bd _ _ e
  exact(k _ _ (by exists[_,_],0x10a080) g.1 (by exists[_,_],0x10a080) g.2 e).mp ⟨b,hb,d,hd,rfl,rfl⟩
 ·intro hD
  have e:=h1 _ _ hD
  have g:=bd _ _ e
  exact(k _ _ (by exists[_],0x80) g.1 (by exists[_],0x80) g.2 e).mpr hD
end
def OY(old new drop:List Int)(i j:Nat):Prop:=∃x,old[i]?=some x/\new[j]?=some x/\x∉drop
structure V1(old new drop:List Int):Prop where
 ch :∀i j i' j',OY old new drop i j->OY old new drop i' j'->Hy i j i' j'\/(i=i'/\j=j')\/Hy i' j' i j
 ag :∀i j,GC old new i j->¬ OY old new drop i j->∃ri rj rk,lP old new (OY old new drop) i j ri rj rk
def OY.cmn{old new drop:List Int}{i j:Nat}(h:OY old new drop i j):GC old new i j:=h.imp λx q=>⟨q.1,q.2.1⟩
def IW{l:List Int}(h:l.Nodup){i j:Nat}{x:Int}(e:l[i]?=some x)(f:l[j]?=some x):i=j:=(aG2 (zT.mp e).1 h).mp (e.trans f.symm)
def TJ{K:List Int}{x y:Int}(n:x≠y):x∈K->y∈K->[x,y].Sublist K\/[y,x].Sublist K:=by
 induction K with
 | nil=>exact λh=>nomatch h
 | cons z K ih=>
  intro hx hy
  rcases È.mp hx with rfl | hx'
  ·rcases È.mp hy with rfl | hy'
   ·exact absurd rfl n
   ·exact .inl (.cons_cons _ (List.singleton_sublist.mpr hy'))
  ·rcases È.mp hy with rfl | hy'
   ·exact .inr (.cons_cons _ (List.singleton_sublist.mpr hx'))
   ·exact(ih hx' hy').imp (.cons _) (.cons _)
def GO{l:List Int}{x y:Int}(h:l.Nodup)(s:[x,y].Sublist l){i j:Nat}(e:l[i]?=some x)(f:l[j]?=some y):i<j:=by
 have go :∀{i j:Nat},l[i]?=some x->l[j]?=some y->i<j:=by
  clear e f
  induction l with
  | nil=>exact λe=>nomatch e
  | cons z l ih=>
   obtain⟨h1,h2⟩:=aE4.mp h
   intro i j e f
   cases s with
   | cons _ s=>
    cases i with
    | zero=>exact absurd (s.subset (z8 ..)) (λm=>h1 (zR e▸m))
    | succ i=>cases j with
     | zero=>exact absurd (s.subset (À _ (z8 ..))) (λm=>h1 (zR f▸m))
     | succ j=>exact Nat.succ_lt_succ (ih h2 s e f)
   | cons_cons _ s=>
    cases j with
    | zero=>exact absurd (s.subset (z8 ..)) (λm=>h1 (zR f▸m))
    | succ j=>cases i with
     | zero=>exact Ň _
     | succ i=>exact absurd (Ò (show l[i]?=some _ from e)) h1
 exact go e f
def MV{old new drop K:List Int}(ho:old.Nodup)(hn:new.Nodup)(k1:K.Sublist old)(k2:K.Sublist new)(hK :∀x,x∈old->x∈new->x∉drop->x∈K)(i j i' j':Nat)(a:OY old new drop i j)(b:OY old new drop i' j'):Hy i j i' j'\/(i=i'/\j=j')\/Hy i' j' i j:=by
 obtain⟨x,a1,a2,a3⟩:=a
 obtain⟨y,b1,b2,b3⟩:=b
 by_cases e:x=y
 ·subst e
  exact .inr (.inl ⟨IW ho a1 b1,IW hn a2 b2⟩)
 ·exact(TJ e (hK x (Ò a1) (Ò a2) a3) (hK y (Ò b1) (Ò b2) b3)).elim (λs=>.inl ⟨GO ho (s.trans k1) a1 b1,GO hn (s.trans k2) a2 b2⟩) λs=>.inr (.inr ⟨GO ho (s.trans k1) b1 a1,GO hn (s.trans k2) b2 a2⟩)
def V1.of{old new drop:List Int}(ho:old.Nodup)(s:Nat->Nat)(dr:Nat->Prop)(hs :∀i j,GC old new i j->i=s j)(hd :∀i x,old[i]?=some x->(x∈drop↔dr i))
  (ch :∀i j i' j',OY old new drop i j->OY old new drop i' j'->Hy i j i' j'\/(i=i'/\j=j')\/Hy i' j' i j)
  (ag :∀j,GC old new (s j) j->dr (s j)->∃ri rj rk,0<rk/\(∀t,t<rk->GC old new (s (rj+t)) (rj+t)/\s (rj+t)=ri+t/\¬ dr (ri+t)/\¬ Hy (s j) j (ri+t) (rj+t)/\¬ Hy (ri+t) (rj+t) (s j) j)/\
   ∀si sj sk d,d<sk->s j=si+d->j=sj+d->(∀t,t<sk->s (sj+t)=si+t)->sk<rk\/(sk=rk/\ri<si)):V1 old new drop:=by
 refine⟨ch,λi j c n=>?_⟩
 have e:=hs i j c
 subst e
 have dj:dr (s j):=ü λz=>n (c.imp λx q=>⟨q.1,q.2,λm=>z ((hd _ _ q.1).mp m)⟩)
 obtain⟨ri,rj,rk,p,q,r⟩:=ag j c dj
 refine⟨ri,rj,rk,p,λt ht=>?_,λsi sj sk d h1 h2 h3 h4=>r si sj sk d h1 h2 h3 λt ht=>(hs _ _ (h4 t ht)).symm⟩
 obtain⟨q1,q2,q3,q4,q5⟩:=q t ht
 rw[q2]at q1
 exact⟨q1.imp λx q=>⟨q.1,q.2,λm=>q3 ((hd _ _ q.1).mp m)⟩,q4,q5⟩
section
variable{hd p q rs M tl:List Int}
def S7{n:Nat}(ho:(hd++tl).Nodup)(hn:(hd++M++tl.drop n).Nodup)(hM :∀x∈M,x∉hd++tl):V1 (hd++tl) (hd++M++tl.drop n) []:=
 ⟨MV (K:=hd++tl.drop n) ho hn ((aC6 hd).append (Ů ..)) ((Ĵ ..).append (.refl _)) λx h1 h2 _=>by
  rcases Á.mp h2 with h2 | h2
  ·rcases Á.mp h2 with h2 | h2
   ·exact Á.mpr (.inl h2)
   ·exact absurd h1 (hM x h2)
  ·exact Á.mpr (.inr h2),λi j c nk=>absurd (c.imp λx q=>⟨q.1,q.2,λz=>nomatch z⟩) nk⟩
noncomputable def s2(a P Q j:Nat):Nat:=if j<a then j else if j<a+Q then j+P else if j<a+Q+P then j-Q else j
def Zr(j:Nat):(hd++q++p++rs)[j]?=(hd++p++q++rs)[s2 hd.length p.length q.length j]?:=by
 unfold s2
 have l3 :∀(a b c d:List Int) (k:Nat),(a++b++c++d)[k]?=if k<a.length then a[k]? else if k<a.length+b.length then b[k-a.length]? else if k<a.length+b.length+c.length then c[k-(a.length+b.length)]? else d[k-(a.length+b.length+c.length)]?:=λa b c d k=>by
  rw[aE0,aE0,aE0,zU,zU]
  by_cases h1:k<a.length
  ·rw[if_pos (by exists[_,_,_,_],0x321aa011018,h1),if_pos (by exists[_,_,_],0x21a011018,h1),if_pos h1,if_pos h1]
  ·by_cases h2:k<a.length+b.length
   ·rw[if_pos (by exists[_,_,_,_],0x321aa0121a018,h2),if_pos h2,if_neg h1,if_neg h1,if_pos h2]
   ·by_cases h3:k<a.length+b.length+c.length
    ·rw[if_pos h3,if_neg h2,if_neg h1,if_neg h2,if_pos h3]
    ·rw[if_neg h3,if_neg h1,if_neg h2,if_neg h3]
 rw[l3,l3]
 by_cases h1:j<hd.length
 ·rw[if_pos h1,if_pos h1,if_pos h1]
 ·rw[if_neg h1,if_neg h1]
  by_cases h2:j<hd.length+q.length
  ·rw[if_pos h2,if_pos h2,if_neg (by exists[_,_,_],0x120a1910198,h1),if_neg (by exists[_,_,_],0x21a20a1910198,h1),if_pos (by exists[_,_,_,_],0x231aa30a121a018,h2)]
   congr 1;exists[_,_,_],0x21a20ab10b2
  ·rw[if_neg h2,if_neg h2]
   by_cases h3:j<hd.length+q.length+p.length
   ·rw[if_pos h3,if_pos h3,if_neg (by exists[_,_,_],0x120b1921a0198,h2),if_pos (by exists[_,_,_,_],0x31a20b1321aa01821a0198,h2,h3)]
    congr 1;exists[_,_,_],0x120bb21a0b2
   ·rw[if_neg h3,if_neg h3,if_neg (by exists[_,_],0x101910198,h1),if_neg (by exists[_,_,_,_],0x31a019321aa0198,h3),if_neg (by exists[_,_,_,_],0x231aa019321aa0198,h3)]
    congr 1;exists[_,_,_,_],0x231aa0b321aa0b2
end
section
variable{hd p q rs T:List Int}
def VL(a P Q j:Nat):(j<a/\s2 a P Q j=j)\/(a<=j/\j<a+Q/\s2 a P Q j=j+P)\/(a+Q<=j/\j<a+Q+P/\s2 a P Q j+Q=j)\/(a+Q+P<=j/\s2 a P Q j=j):=by
 unfold s2
 split
 ·rename_i u0;exists[_,_,_,_],0x20321aa06020a2321aa016021a06730a0221a01601067002101671018,u0
 ·split
  ·rename_i u0 u1;exists[_,_,_,_],0x30a20321aa060230aa2321aa016021a06730a30a221a01601067030a21016721a01810198,u0,u1
  ·split
   ·rename_i u1 u2;exists[_,_,_,_],0x20b20321aa060220ba2321aa016021a06730a20b221a01601067020b210167321aa01821a0198,u1,u2
   ·rename_i u2;exists[_,_,_,_],0x20321aa06020a2321aa016021a06730a0221a0160106700210167321aa0198,u2
def XS(a P Q j u:Nat):(a<=j->j<a+Q->s2 a P Q u+j=s2 a P Q j+u->0<P->a<=u/\u<a+Q)/\(a+Q<=j->j<a+Q+P->0<Q->s2 a P Q u+j=s2 a P Q j+u->a+Q<=u/\u<a+Q+P):=by
 have hu:=VL a P Q u
 refine⟨λh1 h2 h3 h0=>?_,λh1 h2 h0 h3=>?_⟩
 ·have hj:s2 a P Q j=j+P:=by unfold s2;rw[if_neg (by exists[_,_],0x1191008,h1),if_pos h2]
  exists[_,_,_,_,_,_,_],0x65a3135063023465aa06360a2465aa316365a06743a0265a3163506730253167841a2284081832a10a28,h3,h0,hj,hu
 ·have hj:s2 a P Q j=j-Q:=by unfold s2;rw[if_neg (by exists[_,_,_],0x219210a08,h1),if_neg (by exists[_,_,_],0x10a219210a08,h1),if_pos h2]
  exists[_,_,_,_,_,_,_],0x610aa51510a065325610aa06513a2610aa516510a06765a3210a5165006753205167812b42854a23a2810818210a08,h1,h0,h3,hj,hu
def LV{A B C:List Int}(h:(A++B++C).Nodup){i:Nat}{x:Int}(e:(A++B++C)[i]?=some x):x∈B↔A.length<=i/\i<A.length+B.length:=by
 have at_ :∀t,t<B.length->(A++B++C)[A.length+t]?=B[t]?:=λt ht=>by
  rw[Ï,č (Æ ..),Nat.add_sub_cancel_left,ď ht]
 constructor
 ·intro hx
  obtain⟨t,ht⟩:=Ĝ hx
  have l:=(zT.mp ht).1
  have:=IW h e ((at_ t l).trans ht)
  exists[_,_,_,_],0x13a21230603a2281018,l,this
 ·intro⟨h1,h2⟩
  have:=at_ (i-A.length) (by exists[_,_,_],0x201b120a1181008,h1,h2)
  rw[show A.length+(i-A.length)=i by(exists[_,_],0x101b0a21008,h1),e]at this
  exact Ò this.symm
def Q4{old new:List Int}{s:Nat->Nat}(h :∀j,new[j]?=old[s j]?){j:Nat}(hj:j<new.length):GC old new (s j) j:=⟨new[j],(h j).symm.trans (zV hj),zV hj⟩
def Q8{old new:List Int}{s:Nat->Nat}(ho:old.Nodup)(h :∀j,new[j]?=old[s j]?){i j:Nat}(c:GC old new i j):i=s j:=c.elim λx q=>IW ho q.1 ((h j).symm.trans q.2)
def Ua(ho:(hd++p++q++rs).Nodup)(hn:(hd++q++p++rs).Nodup):V1 (hd++p++q++rs) (hd++q++p++rs) (if q.length<=p.length then q else p):=by
 have sa:=Zr (hd:=hd) (p:=p) (q:=q) (rs:=rs)
 have ln:(hd++q++p++rs).length=hd.length+q.length+p.length+rs.length:=by rw[zU,zU,zU]
 have cm :∀j,j<hd.length+q.length+p.length->GC (hd++p++q++rs) (hd++q++p++rs) (s2 hd.length p.length q.length j) j:=λj hj=>Q4 (s:=s2 hd.length p.length q.length) sa (ln▸zZ hj (Æ ..))
 have mq :∀i x,(hd++p++q++rs)[i]?=some x->(x∈q↔hd.length+p.length<=i/\i<hd.length+p.length+q.length):=λi x e=>by
  have:=LV (A:=hd++p) ho e
  rwa[zU]at this
 have mp :∀i x,(hd++p++q++rs)[i]?=some x->(x∈p↔hd.length<=i/\i<hd.length+p.length):=λi x e=>by
  have ho':=ho
  rw[Ï (hd++p)]at e ho'
  exact LV ho' e
 have ms :∀x,x∈hd++p++q++rs->x∈hd\/x∈p\/x∈q\/x∈rs:=λx h=>by
  rw[Ï,Ï]at h
  exact(Á.mp h).imp_right λh=>(Á.mp h).imp_right λh=>Á.mp h
 have is:=VL hd.length p.length q.length
 have of:=XS hd.length p.length q.length
 have k :∀{a b c:List Int} {x:Int},x∈a\/x∈b\/x∈c->x∈a++b++c:=λh=>h.elim (λh=>Á.mpr (.inl (Á.mpr (.inl h)))) λh=>h.elim (λh=>Á.mpr (.inl (Á.mpr (.inr h)))) λh=>Á.mpr (.inr h)
 by_cases hc:q.length<=p.length
 ·rw[if_pos hc]
  refine .of ho _ (λi=>hd.length+p.length<=i/\i<hd.length+p.length+q.length) (λi j=>Q8 ho sa) mq
   (MV (K:=hd++p++rs) ho hn ((Ĵ ..).append (.refl _)) (((Ĵ ..).append (.refl _)).append (.refl _)) λx h _ n=>k ((ms x h).imp_right λh=>h.imp_right λh=>h.resolve_left n)) λj c d=>?_
  clear mq mp ms k ho hn sa ln c
  generalize s2 hd.length p.length q.length=s at cm is of d ⊢
  generalize hd.length=a at *;generalize p.length=P at *;generalize q.length=Q at *
  have ij:a<=j/\j<a+Q/\s j=j+P:=by have:=is j;clear is of;exists[_,_,_,_,_],0x14a2230a41640064224130aa06432a2130aa416430a06714a2230a41640067422041678310aa218210a08,d.1,d.2,this
  refine⟨a,a+Q,P,by(exists[_,_,_,_],0x1081012aa318312a081008,hc,d.1,d.2),λt ht=>?_,λsi sj sk e h1 h2 h3 h4=>?_⟩
  ·have g:s (a+Q+t)=a+t:=by have:=is (a+Q+t);clear is of;exists[_,_,_,_,_],0x2a42032aa42032aa132aa06032aa34a2132aa032aa16032aa32a0671032aaa4232a032aa16032aa2067032aa422032aa16781018,ht,this
   refine⟨cm _ (by exists[_,_,_,_],0x132aa032aa11018,ht),g,λz=>absurd z.1 (by exists[_,_,_],0x2a12a091018,ht),λz=>absurd z.1 (by exists[_,_,_,_],0x30a2191318210a08,d.1,ht),λz=>absurd z.2 (by exists[_,_,_,_],0x321aa1921a018,ij.2.1)⟩
  ·have g1:=(of j (sj+0)).1 ij.1 ij.2.1 (by have:=h4 0 (by exists[_,_],0x10811018,h1);exists[_,_,_,_,_,_],0x84a0a35a2081a52824a32821a028,h2,h3,this) (by exists[_,_,_,_],0x1081012aa318312a081008,hc,d.1,d.2)
   have g2:=(of j (sj+(sk-1))).1 ij.1 ij.2.1 (by have:=h4 (sk-1) (by exists[_,_],0x1181b11018,h1);exists[_,_,_,_,_,_,_],0x186b4a0a35a2186b1a52824a32821a028,h2,h3,this) (by exists[_,_,_,_],0x1081012aa318312a081008,hc,d.1,d.2)
   clear is of h4 cm
   exists[_,_,_,_,_,_,_,_,_],0x47112f2612f1707a182fb6a18086a70856a32854a22813a2281008,hc,ij.2.2,h2,h3,g1.1,g2.2
 ·rw[if_neg hc]
  refine .of ho _ (λi=>hd.length<=i/\i<hd.length+p.length) (λi j=>Q8 ho sa) mp
   (MV (K:=hd++q++rs) ho hn (((Ĵ ..).append (.refl _)).append (.refl _)) ((Ĵ ..).append (.refl _)) λx h _ n=>k ((ms x h).imp_right λh=>h.resolve_left n)) λj c d=>?_
  clear mq mp ms k ho hn sa ln c
  generalize s2 hd.length p.length q.length=s at cm is of d ⊢
  generalize hd.length=a at *;generalize p.length=P at *;generalize q.length=Q at *
  have ij:a+Q<=j/\j<a+Q+P/\s j+Q=j:=by have:=is j;clear is of;exists[_,_,_,_,_],0x341a2240aa316340a063123240aa06341a2240aa316340a06723a1240a3163006731203167820a1181008,d.1,d.2,this
  refine⟨a+P,a,Q,by(exists[_,_],0x8110098,hc),λt ht=>?_,λsi sj sk e h1 h2 h3 h4=>?_⟩
  ·have g:s (a+t)=a+P+t:=by have:=is (a+t);clear is of;exists[_,_,_,_,_],0x42aa3202a3202a412aa0602a13a2412aa02a1602a12a067402aa3212a02a1602a206702a32202a16781018,ht,this
   refine⟨cm _ (by exists[_,_,_,_],0x312aa02a11018,ht),g,λz=>absurd z.2 (by exists[_,_,_],0x10a210aa19),λz=>absurd z.2 (by exists[_,_,_,_],0x30a2191318210a08,ij.1,ht),λz=>absurd z.1 (by exists[_,_,_,_],0x321aa1921a018,d.2)⟩
  ·have g1:=(of j (sj+0)).2 ij.1 ij.2.1 (by exists[_,_],0x8110098,hc) (by have:=h4 0 (by exists[_,_],0x10811018,h1);exists[_,_,_,_,_,_],0x84a0a35a2081a52824a32821a028,h2,h3,this)
   have g2:=(of j (sj+(sk-1))).2 ij.1 ij.2.1 (by exists[_,_],0x8110098,hc) (by have:=h4 (sk-1) (by exists[_,_],0x1181b11018,h1);exists[_,_,_,_,_,_,_],0x186b4a0a35a2186b1a52824a32821a028,h2,h3,this)
   clear is of h4 cm
   exists[_,_,_,_,_,_,_,_,_],0x416a102f2602f17106aa182fb7a18087a06a0854a228302a2810098,hc,ij.2.2,h2,g1.1,g2.2
noncomputable def s3(a n j:Nat):Nat:=if j<a then j else if j<a+n then a+n-1-(j-a)else j
def a8(a n j:Nat):(j<a/\s3 a n j=j)\/(a<=j/\j<a+n/\s3 a n j+j+1=a+a+n)\/(a+n<=j/\s3 a n j=j):=by
 unfold s3
 split
 ·rename_i u0;exists[_,_,_],0x2021a06211aa1800aa221a01601067002101671018,u0
 ·split
  ·rename_i u0 u1;exists[_,_,_],0x10b1821abb2021a06211aa18010b1821abbaa221a01601067010b1821abb21016721a01810198,u0,u1
  ·rename_i u1;exists[_,_,_],0x2021a06211aa1800aa221a016010670021016721a0198,u1
def dH(j:Nat):(hd++T.reverse++rs)[j]?=(hd++T++rs)[s3 hd.length T.length j]?:=by
 unfold s3
 by_cases h1:j<hd.length
 ·rw[if_pos h1,Ï,Ï,ď h1,ď h1]
 ·rw[if_neg h1]
  by_cases h2:j<hd.length+T.length
  ·have l:(hd++T.reverse++rs)[j]?=T[T.length-1-(j-hd.length)]?:=by
    rw[Ï,č (Ü h1),ď (by rw[Ĉ];exists[_,_,_],0x210b121a01810198,h1,h2),List.getElem?_reverse (by exists[_,_,_],0x210b121a01810198,h1,h2)]
   have r:(hd++T++rs)[hd.length+T.length-1-(j-hd.length)]?=T[hd.length+T.length-1-(j-hd.length)-hd.length]?:=by
    rw[Ï,č (by exists[_,_,_],0x10b1821abb1021a01810198,h1,h2),ď (by exists[_,_,_],0x2110b1821abbb121a01810198,h1,h2)]
   rw[if_pos h2,l,r]
   congr 1;exists[_,_,_],0x221b1802abbb21b180bb2
  ·rw[if_neg h2,č (by rw[zU,Ĉ];exists[_,_,_],0x21a021a0198,h2),č (by rw[zU];exists[_,_,_],0x21a021a0198,h2),zU,zU,Ĉ]
def Ti(ho:(hd++T++rs).Nodup)(hn:(hd++T.reverse++rs).Nodup):V1 (hd++T++rs) (hd++T.reverse++rs) (T.drop 1):=by
 have sa:=dH (hd:=hd) (T:=T) (rs:=rs)
 have ln:(hd++T.reverse++rs).length=hd.length+T.length+rs.length:=by rw[zU,zU,Ĉ]
 have cm :∀j,j<hd.length+T.length->GC (hd++T++rs) (hd++T.reverse++rs) (s3 hd.length T.length j) j:=λj hj=>Q4 (s:=s3 hd.length T.length) sa (ln▸zZ hj (Æ ..))
 have mt :∀i x,(hd++T++rs)[i]?=some x->(x∈T.drop 1↔hd.length+1<=i/\i<hd.length+T.length):=λi x e=>by
  cases T with
  | nil=>exact⟨λz=>(nomatch(show x∈([]:List Int)from z)),λz=>absurd z.2 (Đ.mpr (õ z.1))⟩
  | cons y r=>
   have h':((hd++[y])++r++rs).Nodup:=by rw[Ï hd];exact ho
   have e':((hd++[y])++r++rs)[i]?=some x:=by rw[Ï hd];exact e
   have:=LV h' e'
   rw[zU,show hd.length+[y].length+r.length=hd.length+(y::r).length from(Ω ..).trans (congrArg (hd.length + ·) (Nat.add_comm 1 r.length))]at this
   exact this
 have ch :∀i j i' j',OY (hd++T++rs) (hd++T.reverse++rs) (T.drop 1) i j->OY (hd++T++rs) (hd++T.reverse++rs) (T.drop 1) i' j'->Hy i j i' j'\/(i=i'/\j=j')\/Hy i' j' i j:=by
  refine MV (K:=hd++T.take 1++rs) ho hn (((aC6 hd).append (List.take_sublist ..)).append (.refl _)) (((aC6 hd).append ?_).append (.refl _)) λx h _ n=>?_
  ·cases T with
   | nil=>exact .refl _
   | cons y r=>rw[ġ];exact List.sublist_append_right ..
  ·rcases Á.mp h with h | h
   ·rcases Á.mp h with h | h
    ·exact Á.mpr (.inl (Á.mpr (.inl h)))
    ·rw[<-Ĭ 1 T]at h
     exact Á.mpr (.inl (Á.mpr (.inr ((Á.mp h).resolve_right n))))
   ·exact Á.mpr (.inr h)
 have is:=a8 hd.length T.length
 refine .of ho _ (λi=>hd.length+1<=i/\i<hd.length+T.length) (λi j=>Q8 ho sa) mt ch λj c d=>?_
 clear mt ch ho hn sa ln c
 generalize s3 hd.length T.length=s at cm is d ⊢
 generalize hd.length=a at *;generalize T.length=n at *
 have ij:a<=j/\j+1<a+n/\s j+j+1=a+a+n:=by have:=is j;clear is;exists[_,_,_,_],0x200aa1831aa220a183a163006312320a06200aa1831aa220a3163006731203167820a1181180a08,d.1,d.2,this
 refine⟨a,a+n-1,1,aD8,λt ht=>?_,λsi sj sk e h1 h2 h3 h4=>?_⟩
 ·obtain rfl:=aC3.mp ht
  have g:s (a+n-1)=a:=by have:=is (a+n-1);clear is;exists[_,_,_,_],0x321820ab321820ab20a06200aa181820ab3aa220a1820ab161820ab00671820ab3201820ab167820a1181180a08,d.1,d.2,this
  exact⟨cm _ (by exists[_,_,_],0x21a081821aba121a018,d.2),g,λz=>absurd z.1 (by exists[_],0x80a180a09),λz=>absurd z.1 (by exists[_,_],0x80a1191180a08,d.1),λz=>absurd z.2 (by exists[_,_,_],0x81821aba1921a180a18,ij.2.1)⟩
 ·have nx:s (j+1)≠s j+1:=by have:=is (j+1);clear is;exists[_,_,_,_,_],0x181a429182a42182a30a06300aa18182a4aa230a182a16182a0067182a420182a1678300aa1821aa281180a08,d.1,ij.2.2,this
  have AR:sk=1:=ü λz=>by
   by_cases he:e+1<sk
   ·exact nx (by rw[h3,Ω,h4 _ he,<-h3,h2];rfl)
   ·have g:=h4 (e-1) (by exists[_,_],0x1180b11018,h1)
    have g3:=is (sj+(e-1))
    clear is nx cm h4
    exists[_,_,_,_,_,_,_,_,_],0xa185298184b7a2f2184b7a30a06300aa18184b7a2faa230a184b7a16184b7a0067184b7a2f20184b7a1678184b6a2f285184a19847a22846a1285418300aa1821aa281180a08,d.1,ij.2.2,h1,h2,h3,he,g,g3,z
  clear is cm nx h4
  exists[_,_,_,_,_],0x40118326183171832824a12832181180a08,d.1,h1,h2,AR
end
noncomputable def DC:Nat->List Ab->List Wd
 | _,[]=>[]
 | j,b::r=>(if j<b.2.1 then [(j,b.2.1)]else [])++DC (b.2.1+b.2.2) r
noncomputable def LE(W N:List Int)(i j k:Nat):List Int:=N.take j++(W.take (i+k)).drop i++N.drop (j+k)
def Qr(W N:List Int)(bl:List Ab):List Int:=bl.foldl (λN b=>LE W N b.1 b.2.1 b.2.2) N
def NQ(n m:Nat):Nat->Nat->List Ab->Prop
 | i,j,[]=>i=n/\j=m
 | i,j,b::r=>(i<=b.1/\j<=b.2.1)/\(0<b.2.2\/r=[])/\NQ n m (b.1+b.2.2) (b.2.1+b.2.2) r
def RP{W N:List Int}{i j:Nat}:LE W N i j 0=N:=by
 unfold LE
 rw[Nat.add_zero,List.drop_take,aI6,List.take_zero,Ô]
 exact Ĭ j N
def MM{W N:List Int}{i j k:Nat}:(LE W N i j k).length<=N.length+W.length:=by
 unfold LE
 rw[zU,zU,ï,ë,ï,ë]
 exists[_,_,_,_,_],0x41a30a1b2432adb10daa0
def OM(Wl N:List Int)(p:List Ab):List Int:=p.foldl (λN b=>LE Wl N b.2.1 b.1 b.2.2) N
theorem M8{Wl:List Int} :∀{p:List Ab} {N:List Int},(OM Wl N p).length<=N.length+p.length*Wl.length
 | [],N=>by rw[aJ0,Nat.zero_mul];exact zX _
 | b::p,N=>by
  refine zP (M8 (p:=p)) ?_
  have:=MM (W:=Wl) (N:=N) (i:=b.2.1) (j:=b.1) (k:=b.2.2)
  rw[Ş,Nat.add_mul]
  exists[_,_,_,_],0x201c3a1a30a021a008,this
abbrev Vf(p:List Ab):Prop:=(p.map λb=>((b.1:Nat):Int)).Pairwise (· < ·)
abbrev UB(p:List Wd):Prop:=(p.map λb=>((b.1:Nat):Int)).Pairwise (· < ·)
structure f9(Ts:List (List Int))(nw:List Int)(b:Int->Int)(P:List (List Ab))(R:Nat->List Wd->List Int->Prop):Prop where
 len :∀u W N,R u W N->N.length<=100
 ok :∀u W N,R u W N->(Fz nw.length W/\Fr W<=900)
 step :∀u W N T,R (u+1) W N->Ts[u]?=some T->∃p,P[u]?=some p/\p.length<64/\Vf p/\∀fs ls,Os T nw W.reverse fs ls->p.Perm fs/\∃L:List Wd,L.Perm ls/\UB L/\L.length<64/\R u L (OM (T.map b) N p)
structure Dd(old nw dr:List Int)(made:Int):Prop where
 nd:nw.Nodup
 len:nw.length<=16
 bd :∀y∈nw,0<=y/\y<made+4
 shp:V1 old nw dr
section
variable{hd tl tx M:List Int}{made:Int}{AR two n:Nat}
def JB(ho:(hd++tl).Nodup)(hb :∀y∈hd++tl,0<=y/\y<made)(hM:M.Nodup)(hn :∀x∈M,x∉hd++tl)(hm :∀y∈M,0<=y/\y<made+4)(hl:(hd++M++tl.drop n).length<=16):Dd (hd++tl) (hd++M++tl.drop n) [] made:=by
 have mem :∀y∈hd++M++tl.drop n,y∈M\/y∈hd++tl:=λy hy=>by
  rcases Á.mp hy with hy | hy
  ·rcases Á.mp hy with hy | hy
   ·exact .inr (Á.mpr (.inl hy))
   ·exact .inl hy
  ·exact .inr (Á.mpr (.inr (List.mem_of_mem_drop hy)))
 have nd:(hd++M++tl.drop n).Nodup:=by
  have p:(hd++M++tl.drop n).Perm (M++(hd++tl.drop n)):=by
   rw[Ï]
   exact List.perm_append_comm_assoc ..
  rw[p.nodup_iff]
  refine List.nodup_append.mpr ⟨hM,ho.sublist ((aC6 hd).append (Ů ..)),λa ha b hb e=>?_⟩
  subst e
  exact hn a ha ((Á.mp hb).elim (λh=>Á.mpr (.inl h)) λh=>Á.mpr (.inr (List.mem_of_mem_drop h)))
 exact⟨nd,hl,λy hy=>(mem y hy).elim (hm y) λh=>⟨(hb y h).1,Ż (hb y h).2 (by exact qi [] [_] 0x480a04 (by rfl'))⟩,S7 ho nd hn⟩
def Ji{m:Nat}(hm:m<=4)(h0:0<=made)(hb :∀y∈tx,0<=y/\y<made):(DI made m).Nodup/\(∀x∈DI made m,x∉tx)/\(∀y∈DI made m,0<=y/\y<made+4)/\(DI made m).length=m:=by
 have mem :∀y∈DI made m,made<=y/\y<made+4:=λy hy=>by
  obtain⟨k,hk,rfl⟩:=Ğ.mp hy
  have:=ű.mp hk
  exists[_,_],[_],0x480a10f0a410f0a036011848008,hm,this
 refine⟨aG9.map _ (λa b h e=>h (by exists[_,_],[_],0x10210f0a00f0a58,e)) aH6,λx hx h=>?_,λy hy=>⟨ż h0 (mem y hy).1,(mem y hy).2⟩,(z6 ..).trans ó⟩
 have:=(mem x hx).1;have:=(hb x h).2;rename_i u0;exists[],[_,_],0xa01481038,u0,this
def Sb(h0:0<=made)(i j:Nat):(((C9 made tx).take j).drop i).Nodup/\(∀x∈((C9 made tx).take j).drop i,x∉tx)/\∀y∈((C9 made tx).take j).drop i,0<=y/\y<made+4:=by
 have sub:(((C9 made tx).take j).drop i).Sublist (C9 made tx):=(Ů ..).trans (List.take_sublist ..)
 have nd:(C9 made tx).Nodup:=List.Nodup.sublist List.filter_sublist (aG9.map _ (λa b h e=>h (by exists[_,_],0x10210f00f58,e)) aH6)
 refine⟨nd.sublist sub,λx hx h=>by
  have q:=(Ũ.mp (sub.subset hx)).2
  rw[decide_eq_true h]at q
  exact(nomatch q),λy hy=>?_⟩
 obtain⟨k,hk,rfl⟩:=Ğ.mp (Ũ.mp (sub.subset hy)).1
 have:=ű.mp hk
 exists[_,_],[_],0x480a00f400f0836080e10f581018,this,(Ý _)
def NW{old nw dr:List Int}(p:nw.Perm old)(ho:old.Nodup)(hl:old.length<=16)(hb :∀y∈old,0<=y/\y<made)(s:nw.Nodup->V1 old nw dr):Dd old nw dr made:=
 have nd:=p.nodup_iff.mpr ho
 ⟨nd,p.length_eq▸hl,λy hy=>⟨(hb y (p.mem_iff.mp hy)).1,Ż (hb y (p.mem_iff.mp hy)).2 (by exact qi [] [_] 0x480a04 (by rfl'))⟩,s nd⟩
def P9{kd x2:Int}(h1:AR<=4)(h2:two<=4)(ho:(hd++tl).Nodup)(hl:(hd++tl).length<=16)(h0:0<=made)(hb :∀y∈hd++tl,0<=y/\y<made):Dd (hd++tl) (H2 kd x2 made AR two (hd++tl) hd tl).1 (H2 kd x2 made AR two (hd++tl) hd tl).2 made:=by
 have lt:(hd++tl).length=hd.length+tl.length:=zU
 have dl :∀k,(tl.drop k).length<=tl.length:=λk=>by rw[ë];exact aF9 ..
 unfold H2
 by_cases k0:kd=0
 ·rw[if_pos k0]
  obtain⟨f1,f2,f3,f4⟩:=Ji (m:=min AR (16-(hd++tl).length)) (zP (Ő ..) h1) h0 hb
  exact JB (n:=0) ho hb f1 f2 f3 (by rw[zU,zU,f4,aF6];exists[_,_,_,_],0x109200000109b3d1aa021a0280000109008,hl,lt)
 ·rw[if_neg k0]
  by_cases k1:kd=1
  ·rw[if_pos k1]
   have:=JB (n:=AR) (M:=[]) (made:=made) ho hb aJ7 (λ_ h=>nomatch h) (λ_ h=>nomatch h) (by rw[Ô,zU];have:=dl AR;exists[_,_,_,_],0x10931a0230821a0280000109008,hl,lt,this)
   rwa[Ô]at this
  ·rw[if_neg k1]
   have tk :∀k,hd++tl.take k++tl.drop k=hd++tl:=λk=>by rw[Ï,Ĭ]
   by_cases k2:kd=2
   ·rw[if_pos k2]
    have e:hd++tl.take AR++(tl.take (AR+two)).drop AR++tl.drop (AR+two)=hd++tl:=by
     have:tl.take AR++(tl.take (AR+two)).drop AR=tl.take (AR+two):=by
      conv=>rhs;rw[<-Ĭ AR (tl.take (AR+two)),List.take_take,aE1 (Æ ..)]
     rw[Ï hd,this,tk]
    show Dd (hd++tl) (hd++(tl.take (AR+two)).drop AR++tl.take AR++tl.drop (AR+two)) (if((tl.take (AR+two)).drop AR).length<=(tl.take AR).length then(tl.take (AR+two)).drop AR else tl.take AR) made
    rw[<-e]at ho hl hb ⊢
    refine NW ?_ ho hl hb λnd=>Ua ho nd
    refine aK3.append_right _ ?_
    rw[Ï,Ï]
    exact aC9 _ List.perm_append_comm
   ·rw[if_neg k2]
    by_cases k3:kd=3
    ·rw[if_pos k3]
     show Dd (hd++tl) (hd++(tl.take (AR+two)).reverse++tl.drop (AR+two)) ((tl.take (AR+two)).drop 1) made
     have e:=tk (AR+two)
     rw[<-e]at ho hl hb ⊢
     exact NW (aK3.append_right _ (aC9 _ (List.reverse_perm _))) ho hl hb λnd=>Ti ho nd
    ·rw[if_neg k3]
     by_cases k5:kd=5
     ·rw[if_pos k5]
      obtain⟨f1,f2,f3,f4⟩:=Ji (m:=min two (16-(hd++tl.drop AR).length)) (zP (Ő ..) h2) h0 hb
      have l2:(hd++tl.drop AR).length=hd.length+(tl.drop AR).length:=zU
      have:=dl AR
      exact JB (n:=AR) ho hb f1 f2 f3 (by rw[zU,zU,f4];exists[_,_,_,_,_,_],0x109430000109b5d1aa0240841a32821a0280000109008,hl,lt,l2,this)
     ·rw[if_neg k5]
      obtain⟨f1,f2,f3⟩:=Sb (tx:=hd++tl) h0 ((x2.fdiv 16).fmod ((C9 made (hd++tl)).length+1)).toNat (((x2.fdiv 16).fmod ((C9 made (hd++tl)).length+1)).toNat+min AR (16-(hd++tl).length))
      refine JB (n:=0) ho hb f1 f2 f3 ?_
      rw[aF6,zU,zU,ë,ï]
      exists[_,_,_,_,_,_],0x10923500000109b4d3adb1aa021a0280000109008,hl,lt
end
def Qb{x made:Int}{tx:List Int}(ho:tx.Nodup)(hl:tx.length<=16)(h0:0<=made)(hb :∀y∈tx,0<=y/\y<made):Dd tx (Et x tx made).1 (Et x tx made).2 made:=by
 have four :∀i:Int,(1+i.fmod 4).toNat<=4:=λi=>by
  have:=ŧ i (by decide:(0:Int)<4);have:=Int.fmod_lt_of_pos i (by decide:(0:Int)<4);exists[_],[_],0x480008018ae00f5848048,this,(Ý _)
 have e:=Ĭ ((x.fdiv 6).fmod (tx.length+1)).toNat tx
 have:=P9 (kd:=x.fmod 6) (x2:=(x.fdiv 6).fdiv (tx.length+1)) (made:=made) (hd:=tx.take ((x.fdiv 6).fmod (tx.length+1)).toNat) (tl:=tx.drop ((x.fdiv 6).fmod (tx.length+1)).toNat) (four ((x.fdiv 6).fdiv (tx.length+1))) (four (((x.fdiv 6).fdiv (tx.length+1)).fdiv 4)) (by rw[e];exact ho) (by rw[e];exact hl) h0 (by rw[e];exact hb)
 rw[e]at this
 exact this
def CO{b:Ab}{r:List Ab}{x y:Nat}:VC (b::r) x y↔(∃d,d<b.2.2/\x=b.1+d/\y=b.2.1+d)\/VC r x y:=by
 constructor
 ·rintro ⟨c,hc,q⟩
  rcases È.mp hc with rfl | hc
  ·exact .inl q
  ·exact .inr ⟨c,hc,q⟩
 ·rintro (q | ⟨c,hc,q⟩)
  ·exact⟨b,z8 ..,q⟩
  ·exact⟨c,À _ hc,q⟩
theorem Eo{x y:Nat} :∀{bs:List Ab} {i j k:Nat},VC (FR (i,j,k) bs) x y↔VC ((i,j,k)::bs) x y
 | [],i,j,k=>by
  unfold FR
  split
  ·rename_i h
   subst h
   exact⟨λ⟨c,hc,_⟩=>(nomatch hc),λh=>(CO.mp h).elim (λ⟨d,hd,_⟩=>absurd hd (ø d)) id⟩
  ·exact Iff.rfl
 | (i2,j2,k2)::r,i,j,k=>by
  unfold FR
  split
  ·rename_i h
   obtain⟨rfl,rfl⟩:=h
   rw[Eo,CO,CO,CO,<-or_assoc]
   refine or_congr_left ⟨λ⟨d,h1,h2,h3⟩=>?_,λh=>?_⟩
   ·by_cases z:d<k
    ·exact .inl ⟨d,z,h2,h3⟩
    ·exact .inr ⟨d-k,by show d-k<k2;have:d<k+k2:=h1;exact id (ql [_,_,_] 0x210b121a01810198 (by rfl') z this),by show x=i+k+(d-k);have:x=i+d:=h2;exact id (ql [_,_,_,_] 0x32b31aa023219821a028 (by rfl') h2 z),by show y=j+k+(d-k);have:y=j+d:=h3;exact id (ql [_,_,_,_] 0x32b31aa023219821a028 (by rfl') h3 z)⟩
   ·rcases h with⟨d,h1,h2,h3⟩ | ⟨d,h1,h2,h3⟩
    ·exact⟨d,zZ h1 (Æ ..),h2,h3⟩
    ·exact⟨k+d,aE8 h1 k,h2.trans (Ω ..),h3.trans (Ω ..)⟩
  ·split
   ·rename_i h
    subst h
    rw[Eo,CO (b:=(i,j,0))]
    exact⟨.inr,λh=>h.elim (λ⟨d,hd,_⟩=>absurd hd (ø d)) id⟩
   ·rw[CO,Eo,CO (b:=(i,j,k))]
def WG(n m:Nat):Nat->Nat->List Ab->Prop
 | i,j,[]=>i<=n/\j<=m
 | i,j,b::r=>(i<=b.1/\j<=b.2.1)/\0<b.2.2/\WG n m (b.1+b.2.2) (b.2.1+b.2.2) r
theorem G2{n m:Nat} :∀{bs:List Ab} {i j k s t:Nat},s<=i->t<=j->WG n m (i+k) (j+k) bs->NQ n m s t (FR (i,j,k) bs++[(n,m,0)])
 | [],i,j,k,s,t,h1,h2,h3=>by
  unfold FR
  split
  ·rename_i h
   subst h
   exact⟨⟨zP h1 h3.1,zP h2 h3.2⟩,.inr rfl,rfl,rfl⟩
  ·exact⟨⟨h1,h2⟩,.inl (Į ‹_›),⟨h3.1,h3.2⟩,.inr rfl,rfl,rfl⟩
 | (i2,j2,k2)::r,i,j,k,s,t,h1,h2,⟨⟨h3,h4⟩,h5,h6⟩=>by
  unfold FR
  split
  ·rename_i h
   obtain⟨rfl,rfl⟩:=h
   exact G2 h1 h2 (by rw[<-Ω,<-Ω];exact h6)
  ·split
   ·rename_i h
    subst h
    exact G2 (zP h1 h3) (zP h2 h4) h6
   ·exact⟨⟨h1,h2⟩,.inl (Į ‹_›),G2 h3 h4 h6⟩
theorem M5{n m:Nat} :∀{L:List Ab} {i j x y k:Nat} {R:List Ab},WG x y i j L->0<k->WG n m (x+k) (y+k) R->WG n m i j (L++(x,y,k)::R)
 | [],_,_,_,_,_,_,h,hk,r=>⟨h,hk,r⟩
 | b::L,_,_,_,_,_,_,⟨h1,h2,h3⟩,hk,r=>⟨h1,h2,M5 h3 hk r⟩
def Ej.ris{la lb:List Int}{alo ahi blo bhi:Nat}{bs:List Ab}(h:Ej la lb alo ahi blo bhi bs):WG ahi bhi alo blo bs:=by
 induction h with
 | zero h=>exact⟨zP h.str.1 h.str.2.2.1,zP h.str.2.1 h.str.2.2.2.1⟩
 | step h hk l r ihl ihr=>exact M5 ihl hk ihr
theorem Mp{n m:Nat} :∀{bs:List Ab} {i j:Nat},WG n m i j bs->j+bs.length<=m
 | [],_,_,h=>h.2
 | b::r,i,j,⟨h1,h2,h3⟩=>by
  have:=Mp h3
  rw[Ş];have:=h1.2;rename_i u0;exists[_,_,_,_,_],0x4183a0a04321aa08208181008,h1.2,h2,u0
def Hd(m:Nat):Nat->List Wd->Prop
 | _,[]=>True
 | lo,p::r=>(lo<=p.1/\p.1<p.2/\p.2<=m)/\Hd m (p.2+1) r
def Hd.le{m:Nat}{lo lo':Nat}(h:lo'<=lo) :∀{W:List Wd},Hd m lo W->Hd m lo' W
 | [],_=>trivial
 | _::_,⟨h1,h2⟩=>⟨⟨zP h h1.1,h1.2⟩,h2⟩
theorem Hd.mem{m:Nat} :∀{lo:Nat} {W:List Wd},Hd m lo W->∀p∈W,lo<=p.1/\p.1<p.2/\p.2<=m
 | _,[],_,_,h=>nomatch h
 | _,q::r,⟨h1,h2⟩,p,hp=>by
  rcases È.mp hp with rfl | hp
  ·exact h1
  ·have:=h2.mem p hp
   exact⟨zP (zP h1.1 (Û h1.2.1)) (õ this.1),this.2⟩
def J4(W:List Wd)(t:Nat):Prop:=∃p∈W,p.1<=t/\t<p.2
def Ep(bl:List Ab)(t:Nat):Prop:=∃b∈bl,b.2.1<=t/\t<b.2.1+b.2.2
theorem Mb{n m:Nat} :∀{bl:List Ab} {i j:Nat},NQ n m i j bl->Hd m j (DC j bl)
 | [],_,_,_=>trivial
 | b::r,i,j,⟨h1,h2,h3⟩=>by
  have ih:=Mb h3
  have le :∀{bl:List Ab} {i j:Nat},NQ n m i j bl->j<=m:=λ{bl}=>by
   induction bl with
   | nil=>exact λh=>Â h.2
   | cons b r ih=>exact λh=>zP h.1.2 (zP (Æ ..) (ih h.2.2))
  show Hd m j ((if j<b.2.1 then [(j,b.2.1)]else [])++DC (b.2.1+b.2.2) r)
  by_cases g:j<b.2.1
  ·rw[if_pos g]
   refine⟨⟨zX _,g,zP (Æ ..) (le h3)⟩,?_⟩
   rcases h2 with h2 | rfl
   ·exact ih.le (ė h2 _)
   ·exact trivial
  ·rw[if_neg g,aA3]
   exact ih.le (zP h1.2 (Æ ..))
theorem LO{n m:Nat} :∀{bl:List Ab} {i j:Nat},NQ n m i j bl->∀t,J4 (DC j bl) t↔(j<=t/\t<m)/\¬ Ep bl t
 | [],i,j,h,t=>⟨λ⟨p,hp,_⟩=>(nomatch hp),λ⟨h1,_⟩=>absurd (h.2▸h1.1) (ŷ.mpr h1.2)⟩
 | b::r,i,j,⟨h1,h2,h3⟩,t=>by
  have ih:=LO h3 t
  have ap:J4 (DC j (b::r)) t↔(j<=t/\t<b.2.1)\/J4 (DC (b.2.1+b.2.2) r) t:=by
   show J4 ((if j<b.2.1 then [(j,b.2.1)]else [])++DC (b.2.1+b.2.2) r) t↔_
   by_cases g:j<b.2.1
   ·rw[if_pos g]
    constructor
    ·rintro ⟨p,hp,q⟩
     rcases Á.mp hp with hp | hp
     ·rw[z9.mp hp]at q
      exact .inl q
     ·exact .inr ⟨p,hp,q⟩
    ·rintro (q | ⟨p,hp,q⟩)
     ·exact⟨(j,b.2.1),Á.mpr (.inl (z9.mpr rfl)),q⟩
     ·exact⟨p,Á.mpr (.inr hp),q⟩
   ·rw[if_neg g,aA3]
    exact⟨.inr,λh=>h.elim (λq=>absurd (Í q.1 q.2) g) id⟩
  have cj:Ep (b::r) t↔(b.2.1<=t/\t<b.2.1+b.2.2)\/Ep r t:=⟨λ⟨c,hc,q⟩=>(È.mp hc).elim (λe=>.inl (e▸q)) λhc=>.inr ⟨c,hc,q⟩,λh=>h.elim (λq=>⟨_,z8 ..,q⟩) λ⟨p,hp,q⟩=>⟨p,À _ hp,q⟩⟩
  have up :∀{bl:List Ab} {i j:Nat},NQ n m i j bl->(∀t,Ep bl t->j<=t)/\j<=m:=λ{bl}=>by
   induction bl with
   | nil=>exact λh=>⟨λt ⟨c,hc,_⟩=>(nomatch hc),Â h.2⟩
   | cons b r ih=>
    intro i j h
    have ih:=ih h.2.2
    refine⟨λt ⟨c,hc,q⟩=>?_,zP h.1.2 (zP (Æ ..) ih.2)⟩
    rcases È.mp hc with rfl | hc
    ·exact zP h.1.2 q.1
    ·exact zP h.1.2 (zP (Æ ..) (ih.1 t ⟨c,hc,q⟩))
  have u:=up h3
  rw[ap,ih,cj]
  constructor
  ·rintro (⟨q1,q2⟩ | ⟨⟨q1,q2⟩,q3⟩)
   ·refine⟨⟨q1,zZ q2 (zP (Æ ..) u.2)⟩,λz=>?_⟩
    rcases z with z | z
    ·exact absurd z.1 (ŷ.mpr q2)
    ·exact absurd (zP (Æ ..) (u.1 t z)) (ŷ.mpr q2)
   ·exact⟨⟨zP h1.2 (zP (Æ ..) q1),q2⟩,λz=>z.elim (λz=>absurd z.2 (Đ.mpr q1)) q3⟩
  ·rintro ⟨⟨q1,q2⟩,q3⟩
   by_cases g:t<b.2.1
   ·exact .inl ⟨q1,g⟩
   ·exact .inr ⟨⟨Ü λz=>q3 (.inl ⟨Ü g,z⟩),q2⟩,λz=>q3 (.inr z)⟩
noncomputable def SJ(old dr nw:List Int):List Int:=nw.flatMap λx=>bif !decide (x∈old)||decide (x∈dr)then [x]else []
noncomputable def FV(nw:List Int)(p:Wd):List Int:=(Ë (p.2-p.1)).map λt=>nw.getD (p.1+t) 0
noncomputable def Ov(S:Nat->Bool)(nw:List Int):Nat->Nat->List Int
 | _,0=>[]
 | j,d+1=>(bif S j then [nw.getD j 0]else [])++Ov S nw (j+1) d
section
variable{S:Nat->Bool}{nw:List Int}{m:Nat}
theorem Ib :∀{d e j:Nat},Ov S nw j (d+e)=Ov S nw j d++Ov S nw (j+d) e
 | 0,e,j=>by rw[ĩ];rfl
 | d+1,e,j=>by
  rw[show d+1+e=(d+e)+1 from ĥ d 1 e]
  show _++Ov S nw (j+1) (d+e)=(_++Ov S nw (j+1) d)++_
  rw[Ib,Ï,show j+1+d=j+(d+1)from by exists[_,_],0x181a0a1180aa2]
theorem Mz :∀{d j:Nat},(∀t,j<=t->t<j+d->S t=true)->Ov S nw j d=(Ë d).map λt=>nw.getD (j+t) 0
 | 0,j,_=>rfl
 | d+1,j,h=>by
  show(bif S j then [nw.getD j 0]else [])++Ov S nw (j+1) d=_
  rw[h j (zX _) (Þ (Ň d)),Mz λt h1 h2=>h t (õ h1) (by lia),List.range_succ_eq_map,Ć,Ĳ]
  show nw.getD j 0::_=nw.getD (j+0) 0::_
  rw[Nat.add_zero]
  congr 1
  exact ŀ λt _=>by show nw.getD (j+1+t) 0=nw.getD (j+(t+1)) 0;rw[show j+1+t=j+(t+1)from by exists[_,_],0x181a0a1180aa2]
theorem Gb :∀{d j:Nat},(∀t,j<=t->t<j+d->S t=false)->Ov S nw j d=[]
 | 0,j,_=>rfl
 | d+1,j,h=>by
  show(bif S j then [nw.getD j 0]else [])++Ov S nw (j+1) d=_
  rw[h j (zX _) (Þ (Ň d)),Gb λt h1 h2=>h t (õ h1) (by lia)];rfl
def Dz{p:Wd}{r:List Wd}{t:Nat}:J4 (p::r) t↔(p.1<=t/\t<p.2)\/J4 r t:=by
 constructor
 ·rintro ⟨q,hq,h⟩
  rcases È.mp hq with rfl | hq
  ·exact .inl h
  ·exact .inr ⟨q,hq,h⟩
 ·rintro (h | ⟨q,hq,h⟩)
  ·exact⟨p,z8 ..,h⟩
  ·exact⟨q,À _ hq,h⟩
theorem M3 :∀{W:List Wd} {lo:Nat},lo<=m->Hd m lo W->(∀t,lo<=t->t<m->(S t=true↔J4 W t))->W.flatMap (FV nw)=Ov S nw lo (m-lo)
 | [],lo,hl,_,h=>(Gb λt h1 h2=>by
   cases e:S t with
   | false=>rfl
   | true=>obtain⟨p,hp,_⟩:=(h t h1 (by exists[_,_,_],0x12101b0a2181008,hl,h2)).mp e;exact nomatch hp).symm
 | p::r,lo,hl,⟨⟨h1,h2,h3⟩,h4⟩,h=>by
  have out :∀t,t<p.1\/t=p.2->¬ J4 r t:=λt ht ⟨q,hq,q1,_⟩=>by have:=(h4.mem q hq).1;exists[_,_,_,_],0xa132031782181a0832081018,h2,q1,this,ht
  rw[ů,M3 (lo:=p.2) h3 (h4.le (ć _)) λt g1 g2=>(h t (by exists[_,_,_,_],0x300320821181008,h1,h2,g1) g2).trans (Dz.trans ⟨λz=>z.elim (λz=>absurd z.2 (Đ.mpr g1)) id,.inr⟩)]
  have e1:=Ib (S:=S) (nw:=nw) (j:=lo) (d:=p.1-lo) (e:=(p.2-p.1)+(m-p.2))
  have e2:=Ib (S:=S) (nw:=nw) (j:=p.1) (d:=p.2-p.1) (e:=m-p.2)
  rw[show lo+(p.1-lo)=p.1 from by(exists[_,_],0x101b0a21008,h1),show p.1-lo+(p.2-p.1+(m-p.2))=m-lo from by exists[_,_,_,_],0x3b23b12ba01ba2320821181008,h1,h2,h3]at e1
  rw[show p.1+(p.2-p.1)=p.2 from by exists[_,_],0x101b0a21018,h2]at e2
  rw[e1,e2,Gb (j:=lo) (d:=p.1-lo) λt g1 g2=>?_,Mz (j:=p.1) (d:=p.2-p.1) λt g1 g2=>(h t (by exists[_,_,_],0x20021081008,h1,g1) (by exists[_,_,_,_],0x23101b0a31821081018,h2,h3,g2)).mpr (Dz.mpr (.inl ⟨g1,by exists[_,_,_],0x12101b0a2181018,h2,g2⟩))]
  ·rfl
  ·cases e:S t with
   | false=>rfl
   | true=>exact((Dz.mp ((h t g1 (by exists[_,_,_,_,_],0x14102b0a418130832181008,hl,h2,h3,g2)).mp e)).elim (λz=>absurd z.1 (by exists[_,_,_],0x210901b0a2181008,h1,g2)) (out t (.inl (by exists[_,_,_],0x12101b0a2181008,h1,g2)))).elim
theorem R5{F:Int->Bool} :∀(d j:Nat),j+d=nw.length->(nw.drop j).flatMap (λx=>bif F x then [x]else [])=Ov (λt=>F (nw.getD t 0)) nw j d
 | 0,j,h=>by rw[Ń (by exists[_,_],0x101080a28,h)];rfl
 | d+1,j,h=>by
  have hj:j<nw.length:=by exists[_,_,_],0x2012181a0a28,h
  rw[è hj,ů,R5 d (j+1) (by exists[_,_,_],0x21180aa22181a0a28,h)]
  show _=(bif F (nw.getD j 0)then [nw.getD j 0]else [])++_
  rw[show nw.getD j 0=nw[j]from by rw[Ø,zV hj];rfl]
end
def TK{W N:List Int}{i j k t:Nat}(h1:i+k<=W.length)(h2:j+k<=N.length):(LE W N i j k).length=N.length/\(LE W N i j k)[t]?=if j<=t/\t<j+k then W[i+(t-j)]? else N[t]?:=by
 have l1:(N.take j).length=j:=by rw[ï];exists[_,_,_],0x20d2210a08,h2
 have l2:((W.take (i+k)).drop i).length=k:=by rw[ë,ï];exists[_,_,_],0x10210adb2210a08,h1
 unfold LE
 refine⟨by rw[zU,zU,l1,l2,ë];(exists[_,_,_],0x210a2b10aa2210a08,h2),?_⟩
 by_cases a:t<j
 ·rw[if_neg (λz=>absurd z.1 (ŷ.mpr a)),Ï,ď (l1.symm▸a),aA8,if_pos a]
 ·by_cases b:t<j+k
  ·rw[if_pos ⟨Ü a,b⟩,Ï,č (l1.symm▸Ü a),l1,ď (l2.symm▸(by exists[_,_,_],0x210b121a01810198,a,b)),Ŧ,aA8,if_pos (by exists[_,_,_,_],0x23a10b3a121a01810198,a,b)]
  ·rw[if_neg (λz=>b z.2),č (by rw[zU,l1,l2];exact Ü b),zU,l1,l2,Ŧ]
   congr 1;exists[_,_,_],0x21a0b21aa221a0198,b
theorem G6{W:List Int}{g:Nat->Int}{m:Nat} :∀{xs:List Ab} {N:List Int},(∀b∈xs,(b.1+b.2.2<=W.length/\b.2.1+b.2.2<=m)/\∀d,d<b.2.2->W[b.1+d]?=some (g (b.2.1+d)))->N.length=m->
  (Qr W N xs).length=m/\∀t,(Ep xs t->(Qr W N xs)[t]?=some (g t))/\(¬ Ep xs t->(Qr W N xs)[t]?=N[t]?)
 | [],N,_,hN=>⟨hN,λt=>⟨λ⟨b,hb,_⟩=>(nomatch hb),λ_=>rfl⟩⟩
 | b::r,N,h,hN=>by
  obtain⟨⟨h1,h2⟩,h3⟩:=h b (z8 ..)
  have s:=λt=>TK (W:=W) (N:=N) (t:=t) h1 (hN.symm▸h2)
  obtain⟨i1,i2⟩:=G6 (xs:=r) (N:=LE W N b.1 b.2.1 b.2.2) (λc hc=>h c (À _ hc)) ((s 0).1.trans hN)
  refine⟨i1,λt=>?_⟩
  have cj:Ep (b::r) t↔(b.2.1<=t/\t<b.2.1+b.2.2)\/Ep r t:=⟨λ⟨c,hc,q⟩=>(È.mp hc).elim (λe=>.inl (e▸q)) λhc=>.inr ⟨c,hc,q⟩,λh=>h.elim (λq=>⟨_,z8 ..,q⟩) λ⟨p,hp,q⟩=>⟨p,À _ hp,q⟩⟩
  obtain⟨j1,j2⟩:=i2 t
  have st:=(s t).2
  rw[cj]
  refine⟨λhc=>?_,λhc=>?_⟩
  ·by_cases z:Ep r t
   ·exact j1 z
   ·have q:=hc.resolve_right z
    rw[if_pos q]at st
    refine(j2 z).trans (st.trans ?_)
    have:=h3 (t-b.2.1) (by exists[_,_,_],0x201b120a1181008,q.1,q.2)
    rwa[show b.2.1+(t-b.2.1)=t from by exists[_,_],0x101b0a21008,q.1]at this
  ·rw[if_neg λz=>hc (.inl z)]at st
   exact(j2 λz=>hc (.inr z)).trans st
def SP{W N:List Int}{p:List Ab}:OM W N p=Qr W N (p.map λb=>(b.2.1,b.1,b.2.2)):=by
 unfold OM Qr
 rw[List.foldl_map]
end Mine
section
open PySem PySem.W PyProof.Rows
namespace Mine
def Bw{g:Nat->Option AV}{l:List AV}(h:subAll nn l=some l):(AO.list l).sub g=some (.list l):=congrArg (Ñ AO.list) (CC h)
def Bl(Ts:List (List Int)):subAll nn (TA Ts)=some (TA Ts):=Cq (λt=>A5 t) Ts
section
variable{w:Ì}{sc nw dr bk fr old ks:List Int}{made x now:Int}{Ts Ws:List (List Int)}{B:List (AE×AV)}{K:KS}{M:List AV}{b:Int->Int}
def UH(ho:CF (TA Ts) (-1)=some (.lst (zs old)))(hl:old.length<=16)(hm:0<=made/\made<=1000)
  (h :∀bk,wL (AF w) (AI w 29) (fX.2.drop 1) (lS sc made (TA Ts) (TA Ws) B (dT x (Et x old made).1 (Et x old made).2 bk []) [] 2) K):Yp w (.int x) (lS sc made (TA Ts) (TA Ws) B [] [] 2) K:=by
 refine a1.mpr ⟨S8,_,ho,eZ rfl (AW rfl (AW (A5 old) (AW rfl rfl))) ⟨x,old,made,rfl,rfl,hl,hm,λbk=>?_⟩⟩
 exact a2.mpr ⟨rfl,h bk⟩
def Sl{A:List AV}{σ:St}{Q:AV->St->Prop}:Di (AF w) (.fn .max) [.lst A] σ Q=JV [.lst A] σ Q:=by rfl'
def Sd(hT:Ts.length<=1000)(hn:nw.length<=1000)(h:wL (AF w) (AI w 29) (fX.2.drop 2) (lS sc (Ly (made::nw.map (· + 1))) (TA Ts) (TA Ws) B (dT x nw dr bk [("now",.int (Ts.length:Int))]) [(2,.list (zs (nw.flatMap λx=>[x+1])))] 3) K) :
  wL (AF w) (AI w 29) (fX.2.drop 1) (lS sc made (TA Ts) (TA Ws) B (dT x nw dr bk []) [] 2) K:=by
 have lT:(TA Ts).length=Ts.length:=z6 ..
 rw[a3,xJ]
 refine vJ.mpr ⟨by rw[lT];exact zP hT (by decide),vY.mpr ⟨CJ nw,?_⟩⟩
 rw[p7.1,lT]
 refine Db (λx=>[x+1]) (λρ=>ρ=([]:List (Str×AV))\/∃v,ρ=([("line",v)]:List (Str×AV))) (.inl rfl) (λ_ _ _ _=>trivial) (zP hn (by decide)) (λ_=>zX _) (λy _ ρ L K hI hL hK=>?_) ?_
 ·have go:=hK _ (.inr ⟨.int y,rfl⟩)
  exact hI.elim (λe=>e▸xK.mpr (CD hL go)) λq=>q.elim λu e=>e▸uM.mpr (CD hL go)
 ·have e:nw.flatMap (λx=>[x+1])=nw.map (· + 1):=Fd _ _
  have lz:(zs (nw.flatMap λx=>[x+1])).length=nw.length:=by rw[A7,e,z6]
  refine⟨by show AC (1+_);rw[lz];exact zP (ė hn 1) (by decide),?_⟩
  show Di (AF w) (.fn .max) [.lst (zs (made::nw.flatMap λx=>[x+1]))] _ _
  rw[Sl]
  show A9 (ED (zs (made::nw.flatMap λx=>[x+1]))) _
  rw[ZK]
  refine⟨λz=>(nomatch z),?_⟩
  rw[show Ly (made::nw.flatMap λx=>[x+1])=Ly (made::nw.map (· + 1))from by rw[e]]
  exact uL.mpr ⟨rfl,h⟩
def QL(ho:CF (TA Ts) (-1)=some (.lst (zs old)))(hn:nw.length<=1000)(h:wL (AF w) (AI w 29) (fX.2.drop 3) (lS sc made (TA Ts) (TA Ws) B (dT x nw dr bk [("now",.int now),("fresh",.ref 3)]) [(2,.list M),(3,.list (zs (SJ old dr nw)))] 4) K) :
  wL (AF w) (AI w 29) (fX.2.drop 2) (lS sc made (TA Ts) (TA Ws) B (dT x nw dr bk [("now",.int now)]) [(2,.list M)] 3) K:=by
 rw[a4,p7.2]
 refine⟨CJ nw,Db (λx=>bif !decide (x∈old)||decide (x∈dr)then [x]else []) (λρ=>ρ=([("drop",.lst (zs dr)),("texts",.ref 0)]:List (Str×AV))\/∃v,ρ=([("drop",.lst (zs dr)),("texts",.ref 0),("line",v)]:List (Str×AV))) (.inl rfl) (λρ H' n' hI=>hI.elim (λe=>e▸⟨rfl,rfl,trivial⟩) λq=>q.elim λl e=>e▸⟨rfl,rfl,trivial⟩) (zP hn (by decide)) (λx=>by cases(!decide (x∈old)||decide (x∈dr))with | true=>exact zX _ | false=>exact Õ _) (λy _ ρ L K hI hL hK=>?_) (yU.mpr h)⟩
 have go:=hK _ (.inr ⟨.int y,rfl⟩)
 have fin:(F2 (AF w) 26 (BN cF.2.2 Ap)).B gK ⟨[("drop",.lst (zs dr)),("texts",.ref 0),("line",.int y)],AP (lS sc made (TA Ts) (TA Ws) B (dT x nw dr bk [("now",.int now)]) [(2,.list M)] 3).H 3 (.list L),4,0⟩ λb σ=>BI b (LC cF.1 (F2 (AF w) 27 (BN cF.2.2 Ap)) 3 σ K) ((F2 (AF w) 26 (BN cF.2.2 Ap)).B bJ σ λb σ=>BI b (LC cF.1 (F2 (AF w) 27 (BN cF.2.2 Ap)) 3 σ K) (K σ)):=by
  refine vC.mpr ⟨S8,_,ho,?_⟩
  rw[N3,MH]
  have yes:(bif !decide (y∈old)||decide (y∈dr)then [y]else [])=[y]->LC cF.1 (F2 (AF w) 27 (BN cF.2.2 Ap)) 3 ⟨[("drop",.lst (zs dr)),("texts",.ref 0),("line",.int y)],AP (lS sc made (TA Ts) (TA Ws) B (dT x nw dr bk [("now",.int now)]) [(2,.list M)] 3).H 3 (.list L),4,0⟩ K:=λe=>by
   rw[e]at go
   exact tI.mpr (CD hL go)
  cases h1:decide (y∈old)with
  | false=>exact yes (by rw[h1];rfl)
  | true=>
   show(F2 (AF w) 26 (BN cF.2.2 Ap)).B bJ _ _
   rw[wN,Q2,MH]
   cases h2:decide (y∈dr)with
   | true=>exact yes (by rw[h1,h2];rfl)
   | false=>
    rw[h1,h2,show L++zs (bif !true||false then [y]else [])=L from Ô L]at go
    exact go
 exact hI.elim (λe=>e▸yI.mpr fin) λq=>q.elim λu e=>e▸uG.mpr fin
end
def Bb{g:Nat->Option AV}(l:List Int):(AV.lst (zs l)).sub g=some (.lst (zs l)):=Ag _ _ (A5 l)
def HZ{g:Nat->Option AV}{ks:List Int}{b:Int->Int}:(AV.dct (bD ks b)).sub g=some (.dct (bD ks b)):=Ag _ _ I6
section
variable{w:Ì}{sc nw dr bk fr old ks ks' nt:List Int}{made x now:Int}{Ts Ws:List (List Int)}{B:List (AE×AV)}{K:KS}{M:List AV}{b b':Int->Int}{I I':AO}{v0:AV}
def UQ:A0 (lS sc made (TA Ts) (TA Ws) (bD ks b) (dT x nw dr bk [("now",.int now),("fresh",.ref 3)]) [(2,.list M),(3,.list (zs fr))] 4) (lS sc made (TA Ts) (TA Ws) (bD ks b) (nT nw now fr []) [] 2):=
 .re [0,1] [(3,.lst (zs fr))] rfl rfl rfl rfl (BQ rfl rfl rfl (A5 fr) Br) (Ay rfl (Bb _) (Ay rfl rfl (Ay rfl rfl (Ay rfl HZ (Ay rfl rfl (Ay rfl (Bb _) (Ay rfl rfl (Ay rfl rfl BU)))))))) (E9 rfl rfl (Bw (Bl Ts)) (E9 rfl rfl (Bw (Bl Ws)) BS))
def T3:A0 ⟨("script",.lst (zs sc))::("made",.int made)::("texts",.ref 0)::("born",.ref 3)::("writers",.ref 1)::nT nw now fr [],[(0,.list (TA Ts)),(1,.list (TA Ws)),(2,.list M),(3,.dict (bD ks b))],4,0⟩ (lS sc made (TA Ts) (TA Ws) (bD ks b) (nT nw now fr []) [] 2):=
 .re [0,1] [(3,.dct (bD ks b))] rfl rfl rfl rfl (BQ rfl rfl rfl I6 Br) (Ay rfl (Bb _) (Ay rfl rfl (Ay rfl rfl (Ay rfl rfl (Ay rfl rfl (Ay rfl (Bb _) (Ay rfl rfl (Ay rfl (Bb _) BU)))))))) (E9 rfl rfl (Bw (Bl Ts)) (E9 rfl rfl (Bw (Bl Ws)) BS))
def TN{at_:List (Str×AV)}(hs:AH nn at_=some at_):A0 (lS sc made (TA Ts) (TA Ws) (bD ks b) (mT nw now fr (.ref 3) (.ref 4) 0 0 []) [(2,.inst aD at_),(3,.list (zs nt)),(4,.list [])] 5) (lS sc made (TA Ts) (TA Ws) (bD ks b) (mT nw now fr (.lst (zs nt)) (.ref 3) 0 0 []) [(2,.inst aD at_),(3,.list [])] 4):=
 .re [0,1,2,4] [(3,.lst (zs nt))] rfl rfl rfl rfl (BQ rfl rfl rfl (A5 nt) Br) (Ay rfl (Bb _) (Ay rfl rfl (Ay rfl rfl (Ay rfl HZ (Ay rfl rfl (Ay rfl (Bb _) (Ay rfl rfl (Ay rfl (Bb _) (Ay rfl rfl (Ay rfl rfl (Ay rfl rfl (Ay rfl rfl BU)))))))))))) (E9 rfl rfl (Bw (Bl Ts)) (E9 rfl rfl (Bw (Bl Ws)) (E9 rfl rfl (EN (congrArg (Ñ (AO.inst aD)) hs)) (E9 rfl rfl rfl BS))))
def TW(hk:ks.length+nw.length<=1000000)(hb :∀x,b' x=if x∈ks then b x else now)
  (h :∀M,wL (AF w) (AI w 29) (fX.2.drop 4) ⟨("script",.lst (zs sc))::("made",.int made)::("texts",.ref 0)::("born",.ref 3)::("writers",.ref 1)::nT nw now fr [],[(0,.list (TA Ts)),(1,.list (TA Ws)),(2,.list M),(3,.dict (bD (Ez [] (ks++nw)) b'))],4,0⟩ K) :
  wL (AF w) (AI w 29) (fX.2.drop 3) (lS sc made (TA Ts) (TA Ws) (bD ks b) (dT x nw dr bk [("now",.int now),("fresh",.ref 3)]) [(2,.list M),(3,.list (zs fr))] 4) K:=by
 rw[t0]
 refine⟨_,UQ,v7.mpr (sK.mpr ?_)⟩
 rw[Ug,iM.1]
 refine Db (λx=>[x]) (λρ=>ρ=([]:List (Str×AV))\/∃v,ρ=([("one",v)]:List (Str×AV))) (.inl rfl) (λ_ _ _ _=>trivial) (zP (Æ ..) hk) (λ_=>zX _) (λy _ ρ L K hI hL hK=>?_) ?_
 ·have go:=hK _ (.inr ⟨.int y,rfl⟩)
  exact hI.elim (λe=>e▸xL.mpr (CD hL go)) λq=>q.elim λu e=>e▸rY.mpr (CD hL go)
 ·have ef:ks.flatMap (λx=>[x])=ks:=(Fd (λx=>x) ks).trans (List.map_id' ks)
  rw[ef]
  show CU w 26 (Eh iB).2 (lS sc made (TA Ts) (TA Ws) (bD ks b) (nT nw now fr []) [(2,.list (zs ks))] 3) _
  rw[rV]
  refine⟨by rw[A7,A7];exact hk,?_⟩
  show subAll nn (zs ks++zs nw)=some (zs ks++zs nw)/\Aj (.dict []) (zs ks++zs nw) (VX (AF w) 27 Ap dB 3) (Ah dB.2.2) (lS sc made (TA Ts) (TA Ws) (bD ks b) (nT nw now fr []) [(2,.list (zs ks))] 3) λv σ=>As (CY w 28) (Od 3) v σ λσ=>wL (AF w) (AI w 29) (fX.2.drop 4) σ K
  rw[BM,iM.2.1]
  refine⟨CJ _,Ks b' (λρ=>ρ=([("born",.dct (bD ks b)),("now",.int now)]:List (Str×AV))\/∃v,ρ=([("born",.dct (bD ks b)),("now",.int now),("line",v)]:List (Str×AV))) (.inl rfl) (λρ H' n' hI=>hI.elim (λe=>e▸⟨rfl,rfl,trivial⟩) λq=>q.elim λl e=>e▸⟨rfl,rfl,trivial⟩) (by rw[zU];exact hk) (λy _ ρ D K hI hD hK=>?_) (wC.mpr (h _))⟩
  have go:=hK _ (.inr ⟨.int y,rfl⟩)
  have put :∀v,v=AV.int (b' y)->DJ ⟨[("born",.dct (bD ks b)),("now",.int now),("line",.int y)],AP (lS sc made (TA Ts) (TA Ws) (bD ks b) (nT nw now fr []) [(2,.list (zs ks))] 3).H 3 (.dict D),4,0⟩ (.ref 3) λx es=>K ((⟨[("born",.dct (bD ks b)),("now",.int now),("line",.int y)],AP (lS sc made (TA Ts) (TA Ws) (bD ks b) (nT nw now fr []) [(2,.list (zs ks))] 3).H 3 (.dict D),4,0⟩:St).set x (.dict (dset es (.int y) v))):=λv ev=>by
   subst ev
   refine Lg hD ?_
   exact go
  have fin:BI ((bD ks b).lookup (.int y)).isSome (∃v,(bD ks b).lookup (.int y)=some v/\DJ ⟨[("born",.dct (bD ks b)),("now",.int now),("line",.int y)],AP (lS sc made (TA Ts) (TA Ws) (bD ks b) (nT nw now fr []) [(2,.list (zs ks))] 3).H 3 (.dict D),4,0⟩ (.ref 3) λx es=>K ((⟨[("born",.dct (bD ks b)),("now",.int now),("line",.int y)],AP (lS sc made (TA Ts) (TA Ws) (bD ks b) (nT nw now fr []) [(2,.list (zs ks))] 3).H 3 (.dict D),4,0⟩:St).set x (.dict (dset es (.int y) v))))
    (DJ ⟨[("born",.dct (bD ks b)),("now",.int now),("line",.int y)],AP (lS sc made (TA Ts) (TA Ws) (bD ks b) (nT nw now fr []) [(2,.list (zs ks))] 3).H 3 (.dict D),4,0⟩ (.ref 3) λx es=>K ((⟨[("born",.dct (bD ks b)),("now",.int now),("line",.int y)],AP (lS sc made (TA Ts) (TA Ws) (bD ks b) (nT nw now fr []) [(2,.list (zs ks))] 3).H 3 (.dict D),4,0⟩:St).set x (.dict (dset es (.int y) (.int now))))):=by
   have e:=hb y
   by_cases hy:y∈ks
   ·rw[if_pos hy]at e
    refine En (by rw[GZ,if_pos hy];rfl) ⟨.int (b y),by rw[GZ,if_pos hy],put _ (congrArg AV.int e.symm)⟩
   ·rw[if_neg hy]at e
    exact Cn (by rw[GZ,if_neg hy];rfl) (put _ (congrArg AV.int e.symm))
  exact hI.elim (λe=>e▸wI.mpr fin) λq=>q.elim λu e=>e▸wJ.mpr fin
def Qs(ho:CF (TA Ts) (-1)=some (.lst (zs old)))(hl:old.length<=16/\nw.length<=16)
  (h :∀ds a bs,BJ nw ds->Ej old nw 0 old.length 0 nw.length bs->bs.length<64/\D1 (F3 0 0 (Gj old nw bs)) (On w) (wL (AF w) (AI w 28) []) (oP sc made (TA Ts) (TA Ws) (bD ks b) nw now fr (zs (nw.flatMap λ_=>[now])) 0 0 (iA old nw (.lst (EU bs old.length nw.length)) (.glo a) .none ds) [] []) (kx (AF w) (AI w 29) (fX.2.drop 9) K)) :
  wL (AF w) (AI w 29) (fX.2.drop 4) ⟨("script",.lst (zs sc))::("made",.int made)::("texts",.ref 0)::("born",.ref 3)::("writers",.ref 1)::nT nw now fr [],[(0,.list (TA Ts)),(1,.list (TA Ws)),(2,.list M),(3,.dict (bD ks b))],4,0⟩ K:=by
 have mz :∀{l:List Int},l.length<=16->l.length<=100000:=λh=>zP h (by decide)
 rw[zB]
 refine⟨_,T3,rS.mpr (IE (at_:=[]) rfl rfl (IF rfl) ⟨rfl,rfl,⟨rfl,yD.mpr ?_⟩⟩)⟩
 show wL (AF w) (AI w 29) (fX.2.drop 5) (lS sc made (TA Ts) (TA Ws) (bD ks b) (nT nw now fr [("matcher",.ref 2)]) [(2,.inst aD (Bc eS eS .none .none .none (.dct [])))] 3) K
 rw[rT]
 refine IE (at_:=Bc eS eS .none .none .none (.dct [])) rfl rfl (IF (AW (A5 nw) rfl)) (.inr ⟨nw,eS,.none,.none,.none,.dct [],rfl,Í hl.2 (by decide),rfl,⟨rfl,rfl,rfl,rfl,rfl,rfl⟩,λds hB=>?_⟩)
 show wL (AF w) (AI w 29) (fX.2.drop 6) (lS sc made (TA Ts) (TA Ws) (bD ks b) (nT nw now fr [("matcher",.ref 2)]) [(2,.inst aD (Bc eS (.lst (zs nw)) .none .none .none (.dct ds)))] 3) K
 have S0:BO eS (.lst (zs nw)) .none .none .none (.dct ds):=⟨rfl,A5 nw,rfl,rfl,rfl,G1 hB⟩
 have S1:BO (.lst (zs old)) (.lst (zs nw)) .none .none .none (.dct ds):=⟨A5 old,A5 nw,rfl,rfl,rfl,G1 hB⟩
 rw[sW]
 refine⟨S8,_,ho,IE (at_:=Bc eS (.lst (zs nw)) .none .none .none (.dct ds)) S0.shut rfl (IF (AW (A5 old) rfl)) (.inr ⟨old,eS,.lst (zs nw),.none,.none,.none,.dct ds,rfl,rfl,S0,?_,.inl rfl⟩)⟩
 show wL (AF w) (AI w 29) (fX.2.drop 7) (lS sc made (TA Ts) (TA Ws) (bD ks b) (nT nw now fr [("matcher",.ref 2)]) [(2,.inst aD (Bc (.lst (zs old)) (.lst (zs nw)) .none .none .none (.dct ds)))] 3) K
 rw[vW,iM.2.2]
 refine⟨CJ nw,Db (λ_=>[now]) (λρ=>ρ=([("now",.int now)]:List (Str×AV))\/∃v,ρ=([("now",.int now),("line",v)]:List (Str×AV))) (.inl rfl) (λρ H' n' hI=>hI.elim (λe=>e▸⟨rfl,trivial⟩) λq=>q.elim λl e=>e▸⟨rfl,trivial⟩) (zP hl.2 (by decide)) (λ_=>zX _) (λy _ ρ L K hI hL hK=>?_) ?_⟩
 ·have go:=hK _ (.inr ⟨.int y,rfl⟩)
  exact hI.elim (λe=>e▸vA.mpr (CD hL go)) λq=>q.elim λu e=>e▸y8.mpr (CD hL go)
 ·refine r4.mpr ⟨rfl,?_⟩
  rw[xD]
  refine⟨_,TN S1.shut,zC.mpr (IE (at_:=Bc (.lst (zs old)) (.lst (zs nw)) .none .none .none (.dct ds)) S1.shut rfl (IF rfl) ⟨old,nw,.none,.none,ds,rfl,rfl,⟨S1,hB⟩,.inl rfl,⟨mz hl.1,mz hl.2⟩,λa bs r=>?_⟩)⟩
  have q:=h ds a bs hB r
  exact⟨q.1,HM,q.2⟩
end
section
variable{w:Ì}{sc nw fr old Wl N N0:List Int}{made now:Int}{T W wn:List AV}{B:List (AE×AV)}{I:AO}{K:KS}{i i' j j':Nat}{wd:Str}{b:Ab}{bl bl0 r:List Ab}
abbrev OV(sc:List Int)(made:Int)(T W:List AV)(B:List (AE×AV))(nw:List Int)(now:Int)(fr:List Int)(N:List Int)(i j:Nat)(I:AO)(wn:List AV)(tl:List (Str×AV)):St:=oP sc made T W B nw now fr (zs N) (nI i) (nI j) I wn tl
def Qi{a b:Int}:cJ a b a b=true:=by
 show(decide (AE.int a=AE.int a)&&(decide (AE.int b=AE.int b)&&true))=true
 rw[decide_eq_true rfl,decide_eq_true rfl];rfl
def VP{i i' j j':Nat}(h:i<i'\/j<j'):cJ (nI i) (nI j) (nI i') (nI j')=false:=by
 show(decide (AE.int (nI i)=AE.int (nI i'))&&(decide (AE.int (nI j)=AE.int (nI j'))&&true))=false
 rcases h with h | h
 ·rw[decide_eq_false (p:=AE.int (nI i)=AE.int (nI i')) λz=>ß h (ŗ (AE.int.inj z))];rfl
 ·rw[decide_eq_false (p:=AE.int (nI j)=AE.int (nI j')) λz=>ß h (ŗ (AE.int.inj z))];exact aF1 _
def JS(hg:i<i'\/j<j')(hw:decide (AE.str wd=AE.str "equal")=false)(hz:wn.length<=1000)
  (h :∀tl,K .next (OV sc made T W B nw now fr N i' j' I (wn++if j<j' then [By (j,j')]else []) tl)) :
  wL (AF w) (AI w 28) (Oy.2.drop 1) (OV sc made T W B nw now fr N i j I wn (qO wd (nI i) (nI i') (nI j) (nI j') [("word",.key (.str wd))])) K:=by
 rw[e2]
 refine Cn (by rw[Qi];rfl) (Cn (by rw[decide_eq_true (À _ (z8 ..))];rfl) (Cn (VP hg) ?_))
 rw[e4]
 refine Cn hw (Ew (λhj=>?_) λhj=>?_)
 ·rw[if_pos (Ç.mp hj)]at h
  exact e6.mpr ⟨zP hz (by decide),h _⟩
 ·rw[if_neg (λz=>hj (Ç.mpr z)),Ô]at h
  exact h _
def YW(hi:i<=i'/\j<=j')(hg:i<i'\/j<j')(hz:wn.length<=1000){item:AV}(hi2:GX i j b=[item])(hb:b.1=i'/\b.2.1=j')
  (h :∀tl,K .next (OV sc made T W B nw now fr N i' j' I (wn++if j<j' then [By (j,j')]else []) tl)) :
  On w item (OV sc made T W B nw now fr N i j I wn []) K:=by
 obtain⟨rfl,rfl⟩:=hb
 unfold GX at hi2
 by_cases h1:i<b.1
 ·by_cases h2:j<b.2.1
  ·rw[if_pos ⟨h1,h2⟩]at hi2
   cases Ļ hi2
   exact e1.mpr ⟨rfl,En (decide_eq_true (Ç.mpr h1)) (En (decide_eq_true (Ç.mpr h2)) (JS hg (by decide +kernel) hz h))⟩
  ·rw[if_neg (λz=>h2 z.2),if_pos h1]at hi2
   cases Ļ hi2
   exact e1.mpr ⟨rfl,En (decide_eq_true (Ç.mpr h1)) (Cn (decide_eq_false λz=>h2 (Ç.mp z)) (JS hg (by decide +kernel) hz h))⟩
 ·have h2:=hg.resolve_left h1
  rw[if_neg (λz=>h1 z.1),if_neg h1,if_pos h2]at hi2
  cases Ļ hi2
  exact e1.mpr ⟨rfl,Cn (decide_eq_false λz=>h1 (Ç.mp z)) (JS hg (by decide +kernel) hz h)⟩
def Zy{k:Nat}(hk:0<k)(hN:N.length<=10000)(hW:CF W (-1)=some (.lst (zs Wl)))(hl:Wl.length<=10000)
  (h :∀tl,K .next (OV sc made T W B nw now fr (LE Wl N i j k) (i+k) (j+k) I wn tl)):On w (Ow "equal" (nI i) (nI (i+k)) (nI j) (nI (j+k))) (OV sc made T W B nw now fr N i j I wn []) K:=by
 have lN:(zs N).length=N.length:=A7 N
 have lW:(zs Wl).length=Wl.length:=A7 Wl
 have sz :∀{n:Nat},n<=30000->AC n:=λh=>zP h (by decide)
 have go :∀wd:Str,wL (AF w) (AI w 28) (Oy.2.drop 1) (OV sc made T W B nw now fr N i j I wn (qO "equal" (nI i) (nI (i+k)) (nI j) (nI (j+k)) [("word",.key (.str wd))])) K:=λwd=>by
  rw[e2]
  refine Cn (by rw[Qi];rfl) (Cn (by rw[decide_eq_true (z8 ..)];rfl) (Cn (VP (.inl (Þ hk))) ?_))
  rw[e4]
  refine En (decide_eq_true rfl) (e5.mpr ⟨B9,by rw[lN];exact sz (zP hN (by decide)),S8,_,hW,⟨B9,by rw[lW];exact sz (zP hl (by decide)),?_⟩⟩)
  rw[Cu,Dm,show Ž j (zs N)=zs (N.take j)from(ū ..).symm,show ķ i (Ž (i+k) (zs Wl))=zs ((Wl.take (i+k)).drop i)from(congrArg (ķ i) (ū ..).symm).trans (ŉ ..).symm]
  have t1:(N.take j).length<=10000:=by rw[ï];exact zP (ŋ ..) hN
  have t2:((Wl.take (i+k)).drop i).length<=10000:=by rw[ë,ï];exact zP (aF9 ..) (zP (ŋ ..) hl)
  refine⟨by rw[A7,A7];exact sz (zP (Ė t1 t2) (by decide)),?_⟩
  rw[BM]
  refine sP.mpr ⟨B9,by rw[lN];exact sz (zP hN (by decide)),?_⟩
  rw[Bj,show ķ (j+k) (zs N)=zs (N.drop (j+k))from(ŉ ..).symm]
  have t3:(N.drop (j+k)).length<=10000:=by rw[ë];exact zP (aF9 ..) hN
  refine⟨by rw[A7,A7];exact sz (by rw[zU];exact Ė (Ė t1 t2) t3),?_⟩
  rw[BM]
  exact u7.mpr (h _)
 exact e1.mpr ⟨rfl,Ew (λ_=>Ew (λ_=>go _) λ_=>go _) λ_=>go _⟩
end
section
variable{w:Ì}{sc nw fr Wl N N0:List Int}{made now:Int}{T W:List AV}{wn:List Wd}{B:List (AE×AV)}{I:AO}{K:KS}{i j n m:Nat}{b:Ab}{bl bl0 r:List Ab}
def Md{wn:List AV}{tl:List (Str×AV)}:A0 (OV sc made T W B nw now fr N i j I wn tl) (OV sc made T W B nw now fr N i j I wn []):=
 .less (ρ:=(OV sc made T W B nw now fr N i j I wn []).ρ++tl) (λx v e=>CT e) λ_ _=>id
def QT{item:AV}{rest:List AV}(hc:NQ n m i j bl)(e:F3 i j bl=item::rest) :∃b r,bl=b::r/\((i<b.1\/j<b.2.1)/\GX i j b=[item]/\rest=F3 b.1 b.2.1 (b::r)\/(i=b.1/\j=b.2.1/\0<b.2.2)/\item=Ow "equal" (nI b.1) (nI (b.1+b.2.2)) (nI b.2.1) (nI (b.2.1+b.2.2))/\rest=F3 (b.1+b.2.2) (b.2.1+b.2.2) r):=by
 cases bl with
 | nil=>exact nomatch e
 | cons b r=>
  refine⟨b,r,rfl,?_⟩
  obtain⟨⟨h1,h2⟩,h3,h4⟩:=hc
  have e:GX i j b++(K4 b++F3 (b.1+b.2.2) (b.2.1+b.2.2) r)=item::rest:=e
  have none_:GX b.1 b.2.1 b=[]:=by unfold GX;rw[if_neg (λz=>ò _ z.1),if_neg (ò _),if_neg (ò _)]
  by_cases g:i<b.1\/j<b.2.1
  ·refine .inl ⟨g,?_⟩
   have AR :∃x,GX i j b=[x]:=by
    unfold GX
    split
    ·exact⟨_,rfl⟩
    ·split
     ·exact⟨_,rfl⟩
     ·split
      ·exact⟨_,rfl⟩
      ·exact absurd g (not_or.mpr ⟨‹_›,‹_›⟩)
   obtain⟨x,ex⟩:=AR
   rw[ex]at e ⊢
   cases Ļ e
   exact⟨rfl,by show rest=GX b.1 b.2.1 b++_;rw[none_];exact(List.tail_eq_of_cons_eq e).symm⟩
  ·have hi:i=b.1:=Ĥ h1 (Ü λz=>g (.inl z))
   have hj:j=b.2.1:=Ĥ h2 (Ü λz=>g (.inr z))
   subst hi;subst hj
   rw[none_]at e
   have e:K4 b++F3 (b.1+b.2.2) (b.2.1+b.2.2) r=item::rest:=e
   by_cases hk:b.2.2=0
   ·rw[show K4 b=[]from if_pos hk,h3.resolve_left (by rw[hk];exact ò 0)]at e
    exact nomatch e
   ·rw[show K4 b=[Ow "equal" (nI b.1) (nI (b.1+b.2.2)) (nI b.2.1) (nI (b.2.1+b.2.2))]from if_neg hk]at e
    exact .inr ⟨⟨rfl,rfl,Į hk⟩,(Ļ e).symm,(List.tail_eq_of_cons_eq e).symm⟩
def So(hc:NQ n m i j bl)(e:F3 i j bl=[]):i=n/\j=m/\DC j bl=[]/\Qr Wl N bl=N:=by
 cases bl with
 | nil=>exact⟨hc.1,hc.2,rfl,rfl⟩
 | cons b r=>
  obtain⟨⟨h1,h2⟩,h3,h4⟩:=hc
  obtain⟨e1,e2⟩:=List.append_eq_nil_iff.mp (show GX i j b++(K4 b++F3 (b.1+b.2.2) (b.2.1+b.2.2) r)=[]from e)
  obtain⟨e2,e3⟩:=List.append_eq_nil_iff.mp e2
  have hk:b.2.2=0:=by
   unfold K4 at e2
   split at e2
   ·assumption
   ·exact nomatch e2
  have hr:=h3.resolve_left (by rw[hk];exact ò 0)
  have g:¬ (i<b.1)/\¬ (j<b.2.1):=by
   unfold GX at e1
   split at e1
   ·exact nomatch e1
   ·split at e1
    ·exact nomatch e1
    ·split at e1
     ·exact nomatch e1
     ·exact⟨‹_›,‹_›⟩
  subst hr
  have hi:=Ĥ h1 (Ü g.1)
  have hj:=Ĥ h2 (Ü g.2)
  rw[hk]at h4
  refine⟨hi.trans h4.1,hj.trans h4.2,?_,?_⟩
  ·show(if j<b.2.1 then [(j,b.2.1)]else [])++[]=[]
   rw[if_neg g.2];rfl
  ·show LE Wl N b.1 b.2.1 b.2.2=N
   rw[hk];exact RP
theorem MR :∀{bl:List Ab} {i j:Nat},(F3 i j bl).length<=2*bl.length
 | [],_,_=>zX _
 | b::r,i,j=>by
  show(GX i j b++(K4 b++F3 _ _ r)).length<=_
  have h1:=Ix (i:=i) (j:=j) (b:=b);have h2:=N2 (b:=b);have h3:=MR (bl:=r) (i:=b.1+b.2.2) (j:=b.2.1+b.2.2)
  rw[zU,zU,Ş]
  exists[_,_,_,_],0x183a02c21a0a0302c2081810818008,h1,h2,h3
def m9(sc:List Int)(made:Int)(T W:List AV)(B:List (AE×AV))(nw:List Int)(now:Int)(fr Wl N0:List Int)(I:AO)(n m:Nat)(bl0:List Ab)(t:Nat)(σ:St):Prop:=
 ∃(i j:Nat) (bl:List Ab) (N:List Int) (wn:List Wd),((F3 0 0 bl0).drop t=F3 i j bl/\NQ n m i j bl)/\σ=OV sc made T W B nw now fr N i j I (wn.map By) []/\(N.length<=16+16*t/\wn.length<=t)/\wn++DC j bl=DC 0 bl0/\Qr Wl N bl=Qr Wl N0 bl0
def Sz(hc:NQ n m 0 0 bl0)(hb:bl0.length<=70)(hN:N0.length<=16)(hl:Wl.length<=16)(hW:CF W (-1)=some (.lst (zs Wl)))
  (h:K .next (OV sc made T W B nw now fr (Qr Wl N0 bl0) n m I ((DC 0 bl0).map By) [])):D1 (F3 0 0 bl0) (On w) (wL (AF w) (AI w 28) []) (OV sc made T W B nw now fr N0 0 0 I [] []) K:=by
 refine⟨m9 sc made T W B nw now fr Wl N0 I n m bl0,⟨_,.refl _,0,0,bl0,N0,[],⟨rfl,hc⟩,rfl,⟨hN,zX _⟩,rfl,rfl⟩,λt σ v hv hI=>?_,λσ hI=>?_⟩
 ·obtain⟨i,j,bl,N,wn,⟨e1,hC⟩,rfl,⟨z1,z2⟩,e2,e3⟩:=hI
  have ht:t<140:=zZ (zT.mp hv).1 (zP MR (Nat.mul_le_mul_left 2 hb))
  have eD:F3 i j bl=v::(F3 0 0 bl0).drop (t+1):=by
   rw[<-e1,è (zT.mp hv).1,(zT.mp hv).2]
  obtain⟨b,r,rfl,hcase⟩:=QT hC eD
  obtain⟨⟨h1,h2⟩,h3,h4⟩:=hC
  rcases hcase with⟨g,eG,eR⟩ | ⟨⟨rfl,rfl,hk⟩,rfl,eR⟩
  ·refine YW ⟨h1,h2⟩ g (by rw[z6];exists[_,_],0x3e890000008c91181008,z2,ht) eG ⟨rfl,rfl⟩ λtl=>⟨_,Md,b.1,b.2.1,b::r,N,wn++(if j<b.2.1 then [(j,b.2.1)]else []),⟨eR,⟨⟨zX _,zX _⟩,h3,h4⟩⟩,?_,⟨zP z1 (by exists[_],0x180a10c0000109a010c0000109a0),?_⟩,?_,e3⟩
   ·rw[ù]
    split<;>rfl
   ·rw[zU]
    exact Ė z2 (by split;exact zX _;exact Õ _)
   ·rw[<-e2,Ï]
    show wn++((if j<b.2.1 then [(j,b.2.1)]else [])++((if b.2.1<b.2.1 then [(b.2.1,b.2.1)]else [])++DC (b.2.1+b.2.2) r))=wn++((if j<b.2.1 then [(j,b.2.1)]else [])++DC (b.2.1+b.2.2) r)
    rw[if_neg (ò _),aA3]
  ·refine Zy hk (by exists[_,_],0x271090000008c9118110c0000109a008,z1,ht) hW (zP hl (by decide)) λtl=>⟨_,Md,b.1+b.2.2,b.2.1+b.2.2,r,LE Wl N b.1 b.2.1 b.2.2,wn,⟨eR,h4⟩,rfl,⟨zP MM (by exists[_,_,_],0x182a10c0000109a01a0210c0000109a1080000109008,hl,z1),ð z2⟩,?_,e3⟩
   rw[<-e2]
   show _=wn++((if b.2.1<b.2.1 then [(b.2.1,b.2.1)]else [])++DC (b.2.1+b.2.2) r)
   rw[if_neg (ò _),aA3]
 ·obtain⟨i,j,bl,N,wn,⟨e1,hC⟩,rfl,z,e2,e3⟩:=hI
  rw[aD5]at e1
  obtain⟨rfl,rfl,e4,e5⟩:=So (Wl:=Wl) (N:=N) hC e1.symm
  rw[e5]at e3
  rw[e4,Ô]at e2
  subst e2;subst e3
  exact h
end
def PX{α:Type}{f:α->AV}(h :∀a,GN 8 (f a) (f a)=some true)(l:List α):CW (GN 8) (l.map f) (l.map f)=some true:=by
 induction l with
 | nil=>rfl
 | cons a r ih=>
  show(GN 8 (f a) (f a)).bind (λx=>(CW (GN 8) (r.map f) (r.map f)).map (x && ·))=_
  rw[h,ih];rfl
def P4(l:List Int):CW (GN 8) (zs l) (zs l)=some true:=PX (f:=AV.int) (λa=>(show GN 8 (.int a) (.int a)=some (decide (AE.int a=AE.int a))from by rfl').trans (by rw[decide_eq_true rfl])) l
def Y5(l:List Ab):CW (GN 8) (l.map Dh) (l.map Dh)=some true:=PX (f:=Dh) (λb=>(show GN 8 (Es (nI b.1) (nI b.2.1) (nI b.2.2)) (Es (nI b.1) (nI b.2.1) (nI b.2.2))=some (decide (AE.int (nI b.1)=AE.int (nI b.1))&&(decide (AE.int (nI b.2.1)=AE.int (nI b.2.1))&&(decide (AE.int (nI b.2.2)=AE.int (nI b.2.2))&&([]:List AV).isEmpty)))from by rfl').trans (by rw[decide_eq_true rfl,decide_eq_true rfl,decide_eq_true rfl];rfl)) l
section
variable{w:Ì}{sc nw fr old N:List Int}{made now a1 a2:Int}{Ts Ws:List (List Int)}{wn:List Wd}{ks:List Int}{b:Int->Int}{at_:List (Str×AV)}{K:KS}{H:List (Nat×AO)}{n:Nat}{A M:List AV}{σ:St}{Q:AV->St->Prop}
def M6:Di (AF w) (.fn .len) [.lst A] σ Q=(AC A.length/\Q (.int A.length) σ):=by rfl'
def R0{v:AV}(hv:Ak σ v=some A)(hk:Fq v (.lst A)=none)(h:CW (GN 8) A A=some true){V:Bool->St->Prop}(q:V false σ):CQ .NotEq v (.lst A) σ λr σ=>Ca r σ V:=by
 show A9 (J3 (Fq v (.lst A)) (J3 ((Ak σ v).bind λxs=>(some A).bind λys=>CW (GN 8) xs ys) _)) _
 rw[hk,hv]
 show A9 (J3 (CW (GN 8) A A) _) _
 rw[h]
 exact q
def Ss(hs:AH nn at_=some at_):A0 (oP sc made (TA Ts) (TA Ws) (bD ks b) nw now fr (zs N) a1 a2 (.inst aD at_) (wn.map By) []) (ME sc made (TA Ts) (TA Ws) (bD ks b) nw now fr (zs N) a1 a2 (.inst aD at_) (wn.map By) [] 3):=
 .re [0,1,2] [(3,.lst (wn.map By))] rfl rfl rfl rfl (BQ rfl rfl rfl (Ae (DS wn)) Br) (Ay rfl (Bb _) (Ay rfl rfl (Ay rfl rfl (Ay rfl HZ (Ay rfl rfl (Ay rfl (Bb _) (Ay rfl rfl (Ay rfl (Bb _) (Ay rfl rfl (Ay rfl rfl (Ay rfl rfl (Ay rfl (Bb _) BU)))))))))))) (E9 rfl rfl (Bw (Bl Ts)) (E9 rfl rfl (Bw (Bl Ws)) (E9 rfl rfl (EN (congrArg (Ñ (AO.inst aD)) hs)) BS)))
def Wb(ho:CF (TA Ts) (-1)=some (.lst (zs old)))(hl:old.length<=16/\nw.length<=16)(hw:wn.length<=1000/\∀p∈wn,p.1<=p.2/\p.2<=nw.length)(hf:wn.flatMap (FV nw)=fr)(hs:AH nn at_=some at_)
  (h :∀M,wL (AF w) (AI w 29) (fX.2.drop 10) (ME sc made (TA Ts) (TA Ws) (bD ks b) nw now fr (zs N) (nI old.length) (nI nw.length) (.inst aD at_) (wn.map By) [(3,.list M)] 4) K) :
  wL (AF w) (AI w 29) (fX.2.drop 9) (oP sc made (TA Ts) (TA Ws) (bD ks b) nw now fr (zs N) (nI old.length) (nI nw.length) (.inst aD at_) (wn.map By) []) K:=by
 rw[g0]
 refine⟨_,Ss hs,g1.mpr ⟨S8,_,ho,?_⟩⟩
 rw[M6,A7]
 refine⟨zP hl.1 (by decide),sA.mpr ⟨by rw[A7];exact zP hl.2 (by decide),?_⟩⟩
 rw[A7,zF,Qi]
 show RX w 27 (oG 1) _ _
 rw[g2,tQ]
 refine⟨DS wn,?_⟩
 have wd :∀p∈wn,(FV nw p).length<=16:=λp hp=>by
  unfold FV;rw[z6,ó];have:=(hw.2 p hp).2;exists[_,_,_],0x10921b001080000109008,hl.2,this
 have tot :∀k,((wn.take k).flatMap (FV nw)).length<=16*k:=λk=>by
  induction k with
  | zero=>exact zX _
  | succ k ih=>
   rw[ĺ,Ś,zU]
   cases e:wn[k]? with
   | none=>exact zP ih (by exists[_],0x180a10c010c0)
   | some p=>show _+((FV nw p)++[]).length<=_;rw[Ô];have:=wd p (Ò e);exists[_,_,_],0x181a10c20a00000109208110c008,ih,this
 let H0:List (Nat×AO):=(ME sc made (TA Ts) (TA Ws) (bD ks b) nw now fr (zs N) (nI old.length) (nI nw.length) (.inst aD at_) (wn.map By) [] 3).H
 let I:List (Str×AV)->Prop:=λρ=>ρ=([("new",.lst (zs nw))]:List (Str×AV))\/(∃u v,ρ=([("new",.lst (zs nw)),("j1",u),("j2",v)]:List (Str×AV)))\/∃u v y,ρ=([("new",.lst (zs nw)),("j1",u),("j2",v),("j",y)]:List (Str×AV))
 refine⟨λk τ=>∃ρ,I ρ/\τ=⟨ρ,AP H0 3 (.list (zs ((wn.take k).flatMap (FV nw)))),4,0⟩,⟨_,.inl rfl,rfl⟩,λk v τ hv hJ=>?_,λτ hJ=>?_⟩
 ·obtain⟨ρ,hI,rfl⟩:=hJ
  obtain⟨p,e1,rfl⟩:=map_some ((Ð ..).symm.trans hv)
  have hp:=hw.2 p (Ò e1)
  have hk:k<1000:=zZ (zT.mp e1).1 hw.1
  have hpl:=tot k
  have ht:(wn.take (k+1)).flatMap (FV nw)=(wn.take k).flatMap (FV nw)++FV nw p:=by
   rw[ĺ,e1,Ś]
   exact congrArg (_ ++ ·) (Ô _)
  show Ce (AF w) 25 Ap cG 3 (By p) ⟨ρ,AP H0 3 (.list (zs ((wn.take k).flatMap (FV nw)))),4,0⟩ λτ=>∃ρ,I ρ/\τ=⟨ρ,AP H0 3 (.list (zs ((wn.take (k+1)).flatMap (FV nw)))),4,0⟩
  rw[ht]
  generalize (wn.take k).flatMap (FV nw)=pre at hpl ⊢
  have cnt:(nI p.2-nI p.1).toNat=p.2-p.1:=by show((p.2:Int)-(p.1:Int)).toNat=_;exact id (ql [_,_,_] 0x21b020820f10fbe00f58 (by rfl') (Ý _))
  have fin :∀ρ1,(ρ1=([("new",.lst (zs nw)),("j1",.int (nI p.1)),("j2",.int (nI p.2))]:List (Str×AV))\/∃y,ρ1=([("new",.lst (zs nw)),("j1",.int (nI p.1)),("j2",.int (nI p.2)),("j",y)]:List (Str×AV)))->f0 w 3 (nI p.1) (nI p.2) ⟨ρ1,AP H0 3 (.list (zs pre)),4,0⟩ λτ=>∃ρ,I ρ/\τ=⟨ρ,AP H0 3 (.list (zs (pre++FV nw p))),4,0⟩:=λρ1 h1=>by
   refine⟨rfl,⟨by lia,by lia,by lia,by lia⟩,λt τ=>∃ρ,(ρ=([("new",.lst (zs nw)),("j1",.int (nI p.1)),("j2",.int (nI p.2))]:List (Str×AV))\/∃y,ρ=([("new",.lst (zs nw)),("j1",.int (nI p.1)),("j2",.int (nI p.2)),("j",y)]:List (Str×AV)))/\τ=⟨ρ,AP H0 3 (.list (zs (pre++(FV nw p).take t))),4,0⟩,⟨ρ1,h1,by rw[List.take_zero,Ô]⟩,λt v τ hv hJ=>?_,λτ hJ=>?_⟩
   ·obtain⟨ρ,hρ,rfl⟩:=hJ
    have ht:=(zT.mp hv).1
    rw[AY,cnt]at ht
    rw[cnt]at hv
    cases zR (hv.symm.trans (B5 ht))
    have hx:p.1+t<nw.length:=by exists[_,_,_,_],0x123a130b2181008,hp.2,ht
    have en:nw[p.1+t]?=some (nw.getD (p.1+t) 0):=by rw[Ø,zV hx];rfl
    have e2:pre++(FV nw p).take (t+1)=pre++(FV nw p).take t++[nw.getD (p.1+t) 0]:=by
     rw[ĺ,Ï]
     congr 2
     unfold FV
     rw[Ð,Θ ht];rfl
    have go :∃ρ',(ρ'=([("new",.lst (zs nw)),("j1",.int (nI p.1)),("j2",.int (nI p.2))]:List (Str×AV))\/∃y,ρ'=([("new",.lst (zs nw)),("j1",.int (nI p.1)),("j2",.int (nI p.2)),("j",y)]:List (Str×AV)))/\(⟨[("new",.lst (zs nw)),("j1",.int (nI p.1)),("j2",.int (nI p.2)),("j",.int (nI p.1+(t:Int)))],AP H0 3 (.list (zs (pre++(FV nw p).take t)++[.int (nw.getD (p.1+t) 0)])),4,0⟩:St)=⟨ρ',AP H0 3 (.list (zs (pre++(FV nw p).take (t+1)))),4,0⟩:=by
     refine⟨_,.inr ⟨.int (nI p.1+(t:Int)),rfl⟩,?_⟩
     rw[e2]
     show _=(⟨_,AP H0 3 (.list (zs (pre++(FV nw p).take t++[nw.getD (p.1+t) 0]))),4,0⟩:St)
     rw[<-BM (pre++(FV nw p).take t)];rfl
    have sz:(zs (pre++(FV nw p).take t)).length<=1000000:=by
     rw[A7,zU,ï];exists[_,_,_,_,_,_,_],0xf4240964d3a051b418210c3080003e8921801080000109008,hl.2,hp.2,hk,hpl,ht
    have ix:BH (nI p.1+(t:Int)):=Jx (k:=p.1+t) (by exists[_,_,_,_],0xf4240923a131b21801080000109008,hl.2,hp.2,ht)
    have nx:CF (zs nw) (nI p.1+(t:Int))=some (.int (nw.getD (p.1+t) 0)):=F7 (i:=p.1+t) en
    rcases hρ with rfl | ⟨y,rfl⟩
    ·exact v3.mpr ⟨ix,_,nx,CD sz go⟩
    ·exact w6.mpr ⟨ix,_,nx,CD sz go⟩
   ·obtain⟨ρ,hρ,rfl⟩:=hJ
    refine⟨ρ,hρ.elim (λe=>.inr (.inl ⟨_,_,e⟩)) λq=>q.elim λy e=>.inr (.inr ⟨_,_,_,e⟩),?_⟩
    rw[AY,cnt,show(FV nw p).take (p.2-p.1)=FV nw p from Ţ (by unfold FV;rw[z6,ó];exact zX _)]
  rcases hI with rfl | ⟨u,v,rfl⟩ | ⟨u,v,y,rfl⟩
  ·exact vH.mpr (fin _ (.inl rfl))
  ·exact vO.mpr (fin _ (.inl rfl))
  ·exact uJ.mpr (fin _ (.inr ⟨y,rfl⟩))
 ·obtain⟨ρ,hI,rfl⟩:=hJ
  refine⟨by rcases hI with e | ⟨u,v,e⟩ | ⟨u,v,y,e⟩<;>exact e▸⟨rfl,trivial⟩,?_⟩
  rw[z6,aD3,hf]
  show CU w 26 (VT (oG 1)).2 (ME sc made (TA Ts) (TA Ws) (bD ks b) nw now fr (zs N) (nI old.length) (nI nw.length) (.inst aD at_) (wn.map By) [(3,.list (zs fr))] 4) _
  rw[rN]
  exact R0 (σ:=ME sc made (TA Ts) (TA Ws) (bD ks b) nw now fr (zs N) (nI old.length) (nI nw.length) (.inst aD at_) (wn.map By) [(3,.list (zs fr))] 4) (Mt rfl) rfl (P4 fr) (h _)
end
section
variable{L:Cd}{h:æ}{a:É}{us us':List Value}{G G':Gh}{n n':Nat}
def Li(p:L.sq h a .lst us)(q:L.sq h a .lst us'):us=us':=by
 obtain⟨e,p⟩:=p;obtain⟨e',q⟩:=q
 have:IZ L .lst us e=IZ L .lst us' e':=zR (p.symm.trans q)
 have d:(IZ L .lst us e).data=(IZ L .lst us' e').data:=congrArg Obj.data this
 injection d with d1 d2
 exact congrArg Array.toList d1
def VS(p:L.sq h a .tup us)(q:L.sq h a .lst us'):False:=by
 obtain⟨e,p⟩:=p;obtain⟨e',q⟩:=q
 have:IZ L .tup us e=IZ L .lst us' e':=zR (p.symm.trans q)
 have d:(Ř "tuple":Value) = .type "list":=congrArg Obj.cls this
 injection d with d1
 exact absurd d1 (by decide)
def VAll.imp_{as:List AV}(f :∀x∈as,∀v,VRel L G' h n' x v->VRel L G h n x v) :∀{vs:List Value},VAll L G' h n' as vs->VAll L G h n as vs:=by
 induction as with
 | nil=>exact λq=>q
 | cons x r ih=>
  intro vs q
  obtain⟨v,u,rfl,q1,q2⟩:=q
  exact⟨v,u,rfl,f x (z8 ..) v q1,ih (λy hy=>f y (À _ hy)) q2⟩
end
def Xl{Ts:List (List Int)}{P:List (List Ab)}{T0:List Int}{r:List (List Int)}{x:Int}{t:List Int}(hT:Ts=T0::r)(h0:T0=x::t):qG (TA Ts) (.lst (PA P)):=by
 subst hT;subst h0
 intro L G G' h n n' a us v hp hr ho q
 obtain⟨u0,u1,rfl,q0,q1⟩:=hr
 cases q0 with
 | mk l0 w0 hv0 hp0 ho0 hr0=>
 obtain⟨y0,y1,rfl,k0,k1⟩:=hr0
 have own :∀{l:É},¬ G'.own l->(l=a->False)->¬ G.own l:=λo e z=>(ho _ z).elim o e
 have tp :∀(b:Ab) (w:Value),VRel L G' h n' (Dh b) w->VRel L G h n (Dh b) w:=λb w q=>by
  cases q with
  | mk l ws hv hp' ho' hr'=>exact⟨l,ws,hv,hp',own ho' (λe=>VS (e▸hp') hp),VAll.imp_ (λx hx v q=>by
    rcases È.mp hx with rfl | hx
    ·exact q
    ·rcases È.mp hx with rfl | hx
     ·exact q
     ·rcases È.mp hx with rfl | hx
      ·exact q
      ·exact nomatch hx) hr'⟩
 have ls :∀(p:List Ab) (w:Value),VRel L G' h n' (.lst (p.map Dh)) w->VRel L G h n (.lst (p.map Dh)) w:=λp w q=>by
  cases q with
  | mk l ws hv hp' ho' hr'=>
  refine⟨l,ws,hv,hp',own ho' (λe=>?_),VAll.imp_ (λx hx v q=>?_) hr'⟩
  ·subst e
   have e:=Li hp' hp
   subst e
   cases p with
   | nil=>exact nomatch(show(u0::u1:List Value)=[]from hr')
   | cons b p=>
    obtain⟨v,u,e,k2,_⟩:=hr'
    cases e
    cases k2 with
    | mk l2 w2 hv2 hp2 _ _=>
    rw[hv0]at hv2
    injection hv2 with e
    exact VS hp2 (e▸hp0)
  ·obtain⟨b,_,rfl⟩:=Ğ.mp hx
   exact tp b v q
 cases q with
 | mk l ws hv hp' ho' hr'=>
 refine⟨l,ws,hv,hp',own ho' (λe=>?_),VAll.imp_ (λx hx v q=>?_) hr'⟩
 ·subst e
  have e:=Li hp' hp
  subst e
  cases P with
  | nil=>exact nomatch(show(u0::u1:List Value)=[]from hr')
  | cons p P=>
   obtain⟨v,u,e,k2,_⟩:=hr'
   cases e
   cases k2 with
   | mk l2 w2 hv2 hp2 _ hr2=>
   rw[hv0]at hv2
   injection hv2 with e
   subst e
   have e:=Li hp2 hp0
   subst e
   cases p with
   | nil=>exact nomatch(show(y0::y1:List Value)=[]from hr2)
   | cons b p=>
    obtain⟨v,u,e,k3,_⟩:=hr2
    cases e
    cases k3 with
    | mk l3 w3 hv3 _ _ _=>
    obtain⟨tk,e⟩:=BA (show At (.int x) y0=true from k0)
    rw[e]at hv3
    exact nomatch hv3
 ·obtain⟨p,_,rfl⟩:=Ğ.mp hx
  exact ls p v q
section
variable{w:Ì}{sc nw fr old N Wl T la:List Int}{made now a1 a2:Int}{Ts Ws:List (List Int)}{W L:List Wd}{F:List Ab}{ks:List Int}{b:Int->Int}{at_:List (Str×AV)}{K:KS}{H:List (Nat×AO)}{n u:Nat}{M M2 D:List AV}{P:List (List Ab)}{I:AO}{mb op fb:AV}{ds:List (AE×AV)}
abbrev uN(sc:List Int)(made:Int)(Ts Ws:List (List Int))(ks:List Int)(b:Int->Int)(nw:List Int)(now:Int)(fr:List Int)(I:AO)(W:List Wd)(N:List Int)(tl:List (Str×AV)):St:=uS sc made (TA Ts) (TA Ws) (bD ks b) nw now fr I (W.map By) (zs N) tl
def UF(hs:AH nn at_=some at_):A0 (ME sc made (TA Ts) (TA Ws) (bD ks b) nw now fr (zs N) a1 a2 (.inst aD at_) (W.map By) [(3,.list M)] 4) (uN sc made Ts Ws ks b nw now fr (.inst aD at_) W N []):=
 .re [0,1,2] [] rfl rfl rfl rfl Br (Ay rfl (Bb _) (Ay rfl rfl (Ay rfl rfl (Ay rfl HZ (Ay rfl rfl (Ay rfl (Bb _) (Ay rfl rfl (Ay rfl (Bb _) (Ay rfl rfl (Ay rfl (Ag _ _ (Ae (DS W))) (Ay rfl (Bb _) BU))))))))))) (E9 rfl rfl (Bw (Bl Ts)) (E9 rfl rfl (Bw (Bl Ws)) (E9 rfl rfl (EN (congrArg (Ñ (AO.inst aD)) hs)) BS)))
def Xv{T0:List Int}{r:List (List Int)}{x:Int}{t:List Int}(e0:Ts=T0::r)(e1:T0=x::t)(hT:Ts.length<=1000/\(∀T∈Ts,T.length<=1000)/\nw.length<=1000)(hs:AH nn at_=some at_)
  (h :∀P la,Pl Ts nw fr nw.length P la->wL (AF w) (AI w 29) (fX.2.drop 11) (uN sc made Ts Ws ks b nw now fr (.inst aD at_) W N [("due",.lst (PA P))]) K) :
  wL (AF w) (AI w 29) (fX.2.drop 10) (ME sc made (TA Ts) (TA Ws) (bD ks b) nw now fr (zs N) a1 a2 (.inst aD at_) (W.map By) [(3,.list M)] 4) K:=by
 rw[s8]
 refine⟨_,UF hs,rR.mpr (.inr ⟨0,TA Ts,rfl,Bl Ts,?_⟩)⟩
 have e:subAll (λy=>bif Ù y 0 then some (.lst (TA Ts))else none) [.ref 0,.lst (zs nw),.lst (zs fr)]=some [.lst (TA Ts),.lst (zs nw),.lst (zs fr)]:=by
  show(some (AV.lst (TA Ts))).bind (λa=>(subAll _ [.lst (zs nw),.lst (zs fr)]).map (a :: ·))=_
  rw[CC (AW (A5 nw) (AW (A5 fr) rfl))];rfl
 rw[e]
 exact⟨Ts,nw,fr,rfl,rfl,hT,λP la hP=>⟨Xl e0 e1,yA.mpr (h P la hP)⟩⟩
def iR{j i k:Nat}(hN:N.length<=10000)(hu:u<1000)(hW:Ws[u]?=some Wl)(hl:Wl.length<=10000)
  (h :∀tl,K .next (uN sc made Ts Ws ks b nw now fr I W (LE Wl N i j k) (uD D (nI u) (("read",F0 M M2)::tl)))):gW w (Es (nI j) (nI i) (nI k)) (uN sc made Ts Ws ks b nw now fr I W N (uD D (nI u) [("read",F0 M M2)])) K:=by
 have lN:(zs N).length=N.length:=A7 N
 have lW:(zs Wl).length=Wl.length:=A7 Wl
 have sz :∀{n:Nat},n<=30000->AC n:=λh=>zP h (by decide)
 rw[v1]
 refine⟨rfl,B9,by rw[lN];exact sz (zP hN (by decide)),Jx (ő hu (by decide)),_,Kg hW,⟨B9,by rw[lW];exact sz (zP hl (by decide)),?_⟩⟩
 rw[show(nI i+nI k)=((i+k:Nat):Int)from rfl,Cu,Dm,show Ž j (zs N)=zs (N.take j)from(ū ..).symm,show ķ i (Ž (i+k) (zs Wl))=zs ((Wl.take (i+k)).drop i)from(congrArg (ķ i) (ū ..).symm).trans (ŉ ..).symm]
 have t1:(N.take j).length<=10000:=by rw[ï];exact zP (ŋ ..) hN
 have t2:((Wl.take (i+k)).drop i).length<=10000:=by rw[ë,ï];exact zP (aF9 ..) (zP (ŋ ..) hl)
 have t3:(N.drop (j+k)).length<=10000:=by rw[ë];exact zP (aF9 ..) hN
 refine⟨by rw[A7,A7];exact sz (zP (Ė t1 t2) (by decide)),?_⟩
 rw[BM]
 refine sN.mpr ⟨B9,by rw[lN];exact sz (zP hN (by decide)),?_⟩
 rw[show(nI j+nI k)=((j+k:Nat):Int)from rfl,Bj,show ķ (j+k) (zs N)=zs (N.drop (j+k))from(ŉ ..).symm]
 refine⟨by rw[A7,A7];exact sz (by rw[zU];exact Ė (Ė t1 t2) t3),?_⟩
 rw[BM]
 exact w9.mpr (h _)
end
section
variable{w:Ì}{sc nw fr N Wl T la:List Int}{made now:Int}{Ts Ws:List (List Int)}{W L:List Wd}{F:List Ab}{ks:List Int}{b:Int->Int}{K:KS}{n u:Nat}{M M2 D:List AV}{P:List (List Ab)}{I:AO}{mb op fb:AV}{ds:List (AE×AV)}{R:Nat->List Wd->List Int->Prop}
def V9{tl:List (Str×AV)}:A0 (uN sc made Ts Ws ks b nw now fr I W N (uD D (nI u) (("read",F0 M M2)::tl))) (uN sc made Ts Ws ks b nw now fr I W N (uD D (nI u) [("read",F0 M M2)])):=
 .less (ρ:=(uN sc made Ts Ws ks b nw now fr I W N (uD D (nI u) [("read",F0 M M2)])).ρ++tl) (λx v e=>CT e) λ_ _=>id
def Wh(hF:F.length<64)(hN:N.length<=100)(hu:u<1000)(hW:Ws[u]?=some Wl)(hl:Wl.length<=16)
  (h:K .next (uN sc made Ts Ws ks b nw now fr I W (OM Wl N F) (uD D (nI u) [("read",F0 M M2)]))):D1 (F.map Dh) (gW w) (wL (AF w) (AI w 27) []) (uN sc made Ts Ws ks b nw now fr I W N (uD D (nI u) [("read",F0 M M2)])) K:=by
 refine⟨λt σ=>σ=uN sc made Ts Ws ks b nw now fr I W (OM Wl N (F.take t)) (uD D (nI u) [("read",F0 M M2)]),⟨_,.refl _,rfl⟩,λt σ v hv hI=>?_,λσ hI=>?_⟩
 ·subst hI
  obtain⟨p,e1,rfl⟩:=map_some ((Ð ..).symm.trans hv)
  have hl2:(OM Wl N (F.take t)).length<=10000:=by
   refine zP M8 ?_
   have h1:(F.take t).length<=63:=by rw[ï];exact zP (ŋ ..) (î hF)
   exact zP (Ė hN (Nat.mul_le_mul h1 hl)) (by decide)
  refine iR hl2 hu hW (zP hl (by decide)) λtl=>⟨_,V9,?_⟩
  show uN sc made Ts Ws ks b nw now fr I W (LE Wl (OM Wl N (F.take t)) p.2.1 p.1 p.2.2) (uD D (nI u) [("read",F0 M M2)])=uN sc made Ts Ws ks b nw now fr I W (OM Wl N (F.take (t+1))) (uD D (nI u) [("read",F0 M M2)])
  rw[show OM Wl N (F.take (t+1))=LE Wl (OM Wl N (F.take t)) p.2.1 p.1 p.2.2 from by unfold OM;rw[ĺ,e1,List.foldl_append];rfl]
 ·rw[z6,aD3]at hI
  subst hI
  exact h
def X2{v r:AV}:A0 (uN sc made Ts Ws ks b nw now fr I W N [("due",.lst D),("u",v),("read",r)]) (uN sc made Ts Ws ks b nw now fr I W N [("due",.lst D)]):=
 .less (ρ:=(uN sc made Ts Ws ks b nw now fr I W N [("due",.lst D)]).ρ++([("u",v),("read",r)]:List (Str×AV))) (λx v e=>CT e) λ_ _=>id
def UE{p:List Ab}(hS:BO (.lst (zs T)) (.lst (zs nw)) mb op fb (.dct ds)/\BJ nw ds)(hn:nw.length<=16)(hu:u<1000)(hT:Ts[u]?=some T)(hl:T.length<=16)(hW:Ws[u]?=some Wl)(hl2:Wl.length<=16)(hN:N.length<=100)(ho:Fz nw.length W/\Fr W<=900)
  (hp:P[u]?=some p) (hp2:p.length<64/\Vf p) (hs :∀fs ls,Os T nw W.reverse fs ls->p.Perm fs/\∃L:List Wd,L.Perm ls/\UB L/\L.length<64/\K .next (uN sc made Ts Ws ks b nw now fr (iA T nw mb op fb ds) L (OM Wl N p) [("due",.lst (PA P)),("u",.int (nI u)),("read",F0 (p.map Dh) (L.map By))])) :
  wL (AF w) (AI w 28) (fU.2.drop 1) (uN sc made Ts Ws ks b nw now fr (iA T nw mb op fb ds) W N (uD (PA P) (nI u) [])) K:=by
 have iu:BH (nI u):=Jx (ő hu (by decide))
 rw[u2]
 refine⟨iu,_,Kg hT,?_⟩
 rw[M6,A7]
 refine⟨zP hl (by decide),sI.mpr ?_⟩
 rw[vL]
 refine IE (at_:=Bc (.lst (zs T)) (.lst (zs nw)) mb op fb (.dct ds)) hS.1.shut rfl (IF (AW rfl (AW (Ae (DS W)) rfl))) ⟨T,nw,mb,op,fb,ds,W,rfl,rfl,hS,⟨zP hl (by decide),zP hn (by decide)⟩,ho,λfs ls hz=>?_⟩
 obtain⟨h1,L,h2,h3,h4,h5⟩:=hs fs ls hz
 refine⟨p,L,⟨h1,h2⟩,⟨hp2.2,h3⟩,⟨hp2.1,h4⟩,vK.mpr ?_⟩
 have i0:BH 0:=Jx (k:=0) (by decide)
 refine u3.mpr ⟨i0,_,GG (i:=0) rfl,yY.mpr ⟨iu,_,GG (vs:=PA P) (i:=u) (by unfold PA;rw[Ð,hp];rfl),?_⟩⟩
 refine R0 (v:=.lst (p.map Dh)) (A:=p.map Dh) rfl rfl (Y5 p) ?_
 refine u4.mpr ⟨Jx (k:=1) (by decide),_,GG (i:=1) rfl,w8.mpr (u5.mpr ⟨i0,_,GG (i:=0) rfl,El p,?_⟩)⟩
 exact Wh hp2.1 hN hu hW hl2 h5
def TU(hn:nw.length<=16)(hc:Ts.length<=1000)(hl :∀T∈Ts,T.length<=16)(hW:Ws=Ts.map (ĕ b))(hR:f9 Ts nw b P R)(h0:R Ts.length W N)(hS:BO (.lst (zs la)) (.lst (zs nw)) mb op fb (.dct ds)/\BJ nw ds)
  (h :∀W N la mb op,R 0 W N->BO (.lst (zs la)) (.lst (zs nw)) mb op fb (.dct ds)->wL (AF w) (AI w 29) (fX.2.drop 12) (uN sc made Ts Ws ks b nw now fr (iA la nw mb op fb ds) W N [("due",.lst (PA P))]) K) :
  wL (AF w) (AI w 29) (fX.2.drop 11) (uN sc made Ts Ws ks b nw now fr (iA la nw mb op fb ds) W N [("due",.lst (PA P))]) K:=by
 have lT:(TA Ts).length=Ts.length:=z6 ..
 have cnt:((Ts.length:Int)-1 - -1).toNat=Ts.length:=by exists[_,_],0x10208181f1810fbbe00f58,(Ý _)
 rw[u0,lT,cnt]
 refine⟨zP hc (by decide),⟨rfl,⟨by(exists[_],0x1800fb0f424091f3),by(exists[_],0xf424091800fb30003e89008,hc),by(exists[],0x181f0f424091f3),by exists[],0xf42409181f3⟩⟩,λk σ=>∃W N la mb op,R (Ts.length-k) W N/\BO (.lst (zs la)) (.lst (zs nw)) mb op fb (.dct ds)/\σ=uN sc made Ts Ws ks b nw now fr (iA la nw mb op fb ds) W N [("due",.lst (PA P))],⟨_,.refl _,W,N,la,mb,op,h0,hS.1,rfl⟩,λk σ v hv hI=>?_,λσ hI=>?_⟩
 ·have hk:=(zT.mp hv).1
  rw[Cs]at hk
  cases zR (hv.symm.trans (FO hk))
  obtain⟨W,N,la,mb,op,hr,hS1,rfl⟩:=hI
  obtain⟨u,eu⟩ :∃u,Ts.length=u+1+k:=⟨Ts.length-1-k,by exists[_,_],0x180181bbaa121018,hk⟩
  have hu:u<Ts.length:=by exists[_,_,_],0x112181aa028,eu
  have hu2:u<1000:=zZ hu hc
  rw[show Ts.length-k=u+1 from by exists[_,_,_],0x181a20b22181aa028,eu]at hr
  have e:(Ts.length:Int)-1-(k:Int)=nI u:=by show _=(u:Int);exact id (ql [_,_,_] 0x10f20f1800fbb52181aa028 (by rfl') eu)
  rw[e]
  have hT:=zV hu
  generalize Ts[u]=T at hT
  have lt:=hl T (Ò hT)
  have hWu:Ws[u]?=some (T.map b):=by rw[hW,Ð,hT];rfl
  obtain⟨p,hp,hp1,hp2,hs⟩:=hR.step u W N T hr hT
  have go :∀mb op,BO (.lst (zs T)) (.lst (zs nw)) mb op fb (.dct ds)->wL (AF w) (AI w 28) (fU.2.drop 1) (uN sc made Ts Ws ks b nw now fr (iA T nw mb op fb ds) W N (uD (PA P) (nI u) [])) (turn (λσ=>∃τ,A0 σ τ/\∃W N la mb op,R (Ts.length-(k+1)) W N/\BO (.lst (zs la)) (.lst (zs nw)) mb op fb (.dct ds)/\τ=uN sc made Ts Ws ks b nw now fr (iA la nw mb op fb ds) W N [("due",.lst (PA P))]) (kx (AF w) (AI w 29) (fX.2.drop 12) K)):=λmb op hS2=>by
   refine UE ⟨hS2,hS.2⟩ hn hu2 hT lt hWu (by rw[z6];exact lt) (hR.len _ _ _ hr) (hR.ok _ _ _ hr) hp ⟨hp1,hp2⟩ λfs ls hz=>?_
   obtain⟨h1,L,h2,h3,h4,h5⟩:=hs fs ls hz
   refine⟨h1,L,h2,h3,h4,⟨_,X2,L,_,T,mb,op,?_,hS2,rfl⟩⟩
   rw[show Ts.length-(k+1)=u from by exists[_,_,_],0x1182a0b22181aa028,eu]
   exact h5
  rw[u1]
  refine⟨Jx (ő hu2 (by decide)),_,Kg hT,IE (at_:=Bc (.lst (zs la)) (.lst (zs nw)) mb op fb (.dct ds)) hS1.shut rfl (IF (AW (A5 T) rfl)) (.inr ⟨T,.lst (zs la),.lst (zs nw),mb,op,fb,.dct ds,rfl,rfl,hS1,go _ _ ⟨A5 T,hS1.b,rfl,rfl,hS1.fb,hS1.b2j⟩,.inr ⟨la,rfl,λe=>?_⟩⟩)⟩
  subst e
  exact go _ _ hS1
 ·rw[Cs,aI6]at hI
  obtain⟨W,N,la,mb,op,hr,hS1,rfl⟩:=hI
  rw[CM,BE]
  exact h W N la mb op hr hS1
end
def vV(Ts:List (List Int))(b b':Int->Int)(old nw fr:List Int):Prop:=∀bs,Ej old nw 0 old.length 0 nw.length bs->(bs.length<64/\NQ old.length nw.length 0 0 (Gj old nw bs))/\
 (((DC 0 (Gj old nw bs)).length<=1000/\∀p∈DC 0 (Gj old nw bs),p.1<=p.2/\p.2<=nw.length)/\(DC 0 (Gj old nw bs)).flatMap (FV nw)=fr)/\
 ∀P la,Pl Ts nw fr nw.length P la->∃R,f9 Ts nw b' P R/\R Ts.length (DC 0 (Gj old nw bs)) (Qr (old.map b) (nw.map λ_=>(Ts.length:Int)) (Gj old nw bs))/\∀W N,R 0 W N->N=nw.map b'
section
variable{w:Ì}{sc nw fr N old dr la:List Int}{made now:Int}{Ts Ws:List (List Int)}{W:List Wd}{ks ks':List Int}{b b':Int->Int}{K:KS}{A D:List AV}{I:AO}{σ:St}{at_:List (Str×AV)}{x:Int}
def TM{v:AV}(hv:Ak σ v=some A)(hk:Fq (.lst A) v=none)(h:CW (GN 8) A A=some true){V:Bool->St->Prop}(q:V false σ):CQ .NotEq (.lst A) v σ λr σ=>Ca r σ V:=by
 show A9 (J3 (Fq (.lst A) v) (J3 ((some A).bind λxs=>(Ak σ v).bind λys=>CW (GN 8) xs ys) _)) _
 rw[hk,hv]
 show A9 (J3 (CW (GN 8) A A) _) _
 rw[h]
 exact q
def GS{T:List Int}:TA Ts++[.lst (zs T)]=TA (Ts++[T]):=by
 unfold TA;rw[ù];rfl
def PZ{tl:List (Str×AV)}{H:List (Nat×AO)}{n:Nat}:A0 (lS sc made (TA Ts) (TA Ws) (bD ks b) tl H n) (lS sc made (TA Ts) (TA Ws) (bD ks b) [] [] 2):=
 .re [0,1] [] rfl rfl rfl rfl Br (Ay rfl (Bb _) (Ay rfl rfl (Ay rfl rfl (Ay rfl HZ (Ay rfl rfl BU))))) (E9 rfl rfl (Bw (Bl Ts)) (E9 rfl rfl (Bw (Bl Ws)) BS))
def W6(hn:nw.length<=16)(hc:Ts.length<=1000/\Ws.length<=1000)(hk :∀x∈nw,x∈ks)(h :∀σ,A0 σ (lS sc made (TA (Ts++[nw])) (TA (Ws++[nw.map b])) (bD ks b) [] [] 2)->K .next σ) :
  wL (AF w) (AI w 29) (fX.2.drop 12) (uN sc made Ts Ws ks b nw now fr I W (nw.map b) [("due",.lst D)]) K:=by
 rw[tY,yH]
 have ef:nw.flatMap (λx=>[b x])=nw.map b:=Fd _ _
 refine⟨CJ nw,Db (λx=>[b x]) (λρ=>ρ=([("born",.dct (bD ks b))]:List (Str×AV))\/∃v,ρ=([("born",.dct (bD ks b)),("line",v)]:List (Str×AV))) (.inl rfl) (λρ H' n' hI=>hI.elim (λe=>e▸⟨rfl,trivial⟩) λq=>q.elim λl e=>e▸⟨rfl,trivial⟩) (zP hn (by decide)) (λ_=>zX _) (λy hy ρ L K hI hL hK=>?_) ?_⟩
 ·have go:=hK _ (.inr ⟨.int y,rfl⟩)
  have lk:(bD ks b).lookup (.int y)=some (.int (b y)):=by rw[GZ,if_pos (hk y hy)]
  rcases hI with rfl | ⟨v,rfl⟩
  ·exact uW.mpr ⟨_,lk,CD hL go⟩
  ·exact t7.mpr ⟨_,lk,CD hL go⟩
 ·rw[ef]
  show CQ .NotEq (.lst (zs (nw.map b))) (.ref 3) (lS sc made (TA Ts) (TA Ws) (bD ks b) (uT nw now fr (W.map By) (zs (nw.map b)) [("due",.lst D)]) [(2,I),(3,.list (zs (nw.map b)))] 4) _
  refine TM (Mt rfl) rfl (P4 _) ?_
  show wL (AF w) (AI w 29) (fX.2.drop 13) (lS sc made (TA Ts) (TA Ws) (bD ks b) (uT nw now fr (W.map By) (zs (nw.map b)) [("due",.lst D)]) [(2,I),(3,.list (zs (nw.map b)))] 4) K
  rw[xR,GS,GS]
  exact⟨zP (Â (z6 ..)) (zP hc.1 (by decide)),zP (Â (z6 ..)) (zP hc.2 (by decide)),h _ PZ⟩
def Ud{T0:List Int}{r:List (List Int)}{x0:Int}{t:List Int}(e0:Ts=T0::r)(e1:T0=x0::t)(ho:Ts[Ts.length-1]?=some old)(hc:Ts.length<=1000)(hl :∀T∈Ts,T.length<=16)(hm:0<=made/\made<=1000)(hk:ks.length<=10000)(hks :∀T∈Ts,∀x∈T,x∈ks)
  (hd:Et x old made=(nw,dr)) (hn:nw.length<=16) (hb :∀y,b' y=if y∈ks then b y else(Ts.length:Int)) (hc2:vV Ts b b' old nw (SJ old dr nw))
  (h :∀σ,A0 σ (lS sc (Ly (made::nw.map (· + 1))) (TA (Ts++[nw])) (TA ((Ts++[nw]).map (ĕ b'))) (bD (Ez [] (ks++nw)) b') [] [] 2)->K .next σ):Yp w (.int x) (lS sc made (TA Ts) (TA (Ts.map (ĕ b))) (bD ks b) [] [] 2) K:=by
 have hTs:Ts=Ts.take (Ts.length-1)++[old]:=by
  have:=Ĭ (Ts.length-1) Ts
  rw[è (zT.mp ho).1,(zT.mp ho).2,Ń (by exists[_],0x18180ba00)]at this
  exact this.symm
 have n1:CF (TA Ts) (-1)=some (.lst (zs old)):=by
  have:=EP (vs:=TA (Ts.take (Ts.length-1))) (v:=.lst (zs old))
  rw[GS,<-hTs]at this
  exact this
 have eW:Ts.map (ĕ b)=Ts.map (ĕ b'):=ŀ λT hT=>ŀ λx hx=>by rw[hb,if_pos (hks T hT x hx)]
 have n2:CF (TA (Ts.map (ĕ b))) (-1)=some (.lst (zs (old.map b))):=by
  have:=EP (vs:=TA ((Ts.take (Ts.length-1)).map (ĕ b))) (v:=.lst (zs (old.map b)))
  rw[GS,show(Ts.take (Ts.length-1)).map (ĕ b)++[old.map b]=Ts.map (ĕ b)from by(conv=>rhs;rw[hTs,ù]);rfl]at this
  exact this
 have lo:old.length<=16:=hl old (Ò ho)
 have hn2:nw.length<=1000:=zP hn (by decide)
 refine UH n1 lo hm λbk=>?_
 rw[hd]
 refine Sd hc hn2 (QL n1 hn2 (TW (b':=b') (zP (Ė hk hn) (by decide)) hb λM=>Qs n1 ⟨lo,hn⟩ λds a bs hB hr=>?_))
 obtain⟨⟨q1,q2⟩,⟨q3,q4⟩,q5⟩:=hc2 bs hr
 have S:BO (.lst (zs old)) (.lst (zs nw)) (.lst (EU bs old.length nw.length)) (.glo a) .none (.dct ds):=⟨A5 old,A5 nw,Ae (Cq (λ_=>rfl) _),rfl,rfl,G1 hB⟩
 have lb:(Gj old nw bs).length<=70:=zP (Â zU) (zP (ý (zP Ma q1)) (by decide))
 refine⟨q1,?_⟩
 rw[show nw.flatMap (λ_=>[(Ts.length:Int)])=nw.map λ_=>(Ts.length:Int)from Fd _ _]
 refine Sz q2 lb (by rw[z6];exact hn) (by rw[z6];exact lo) n2 ?_
 rw[BE]
 refine Wb n1 ⟨lo,hn⟩ q3 q4 S.shut λM=>Xv e0 e1 ⟨hc,λT hT=>zP (hl T hT) (by decide),hn2⟩ S.shut λP la hP=>?_
 obtain⟨R,r1,r2,r3⟩:=q5 P la hP
 refine TU hn hc hl eW r1 r2 ⟨S,hB⟩ λW N la mb op hr0 hS2=>?_
 rw[r3 W N hr0]
 refine W6 hn ⟨hc,by rw[z6];exact hc⟩ (λx hx=>Gq.mpr (.inr (Á.mpr (.inr hx)))) λσ hσ=>h σ ?_
 rw[show(Ts++[nw]).map (ĕ b')=Ts.map (ĕ b)++[nw.map b']from by rw[ù,eW];rfl]
 exact hσ
end
end Mine
end
namespace Mine
structure C5(f:Nat->Option Nat)(b:Ab):Prop where
 pos:0<b.2.2
 all :∀t,t<b.2.2->f (b.1+t)=some (b.2.1+t)
 low :∀j i,b.1=j+1->b.2.1=i+1->f j≠some i
 high:f (b.1+b.2.2)≠some (b.2.1+b.2.2)
def GU{f:Nat->Option Nat}{a b:Ab}(ha:C5 f a)(hb:C5 f b){t:Nat}(h1:a.1<=t/\t<a.1+a.2.2)(h2:b.1<=t/\t<b.1+b.2.2):a=b:=by
 have at_ :∀{a:Ab},C5 f a->∀s,a.1<=s->s<a.1+a.2.2->f s=some (a.2.1+(s-a.1)):=λ{a} h s g1 g2=>by
  have:=h.all (s-a.1) (by exists[_,_,_],0x201b120a1181008,g1,g2)
  rwa[ř g1]at this
 have d:a.2.1+(t-a.1)=b.2.1+(t-b.1):=zR ((at_ ha t h1.1 h1.2).symm.trans (at_ hb t h2.1 h2.2))
 have low :∀{a b:Ab},C5 f a->C5 f b->(a.1<=t/\t<a.1+a.2.2)->(b.1<=t/\t<b.1+b.2.2)->a.2.1+(t-a.1)=b.2.1+(t-b.1)->b.1<=a.1:=λ{a b} ha hb h1 h2 d=>Ü λz=>by
  refine hb.low (b.1-1) (b.2.1-1) (by exists[_,_],0x18181ba121018,z) (by exists[_,_,_,_,_],0x18184ba42031801b4a31b2a281008,h2.1,d,z) ?_
  rw[at_ ha (b.1-1) (by exists[_,_],0x181b001018,z) (by exists[_,_,_,_],0x21a183b1030821a018,h1.2,h2.1)]
  congr 1;exists[_,_,_,_,_],0x184b3180bb2a2031801b4a31b2a281008,h2.1,d,z
 have e1:a.1=b.1:=Ĥ (low hb ha h2 h1 d.symm) (low ha hb h1 h2 d)
 have e2:a.2.1=b.2.1:=by exists[_,_,_,_,_],0x302422841b3a21b0a28,d,e1
 have high :∀{a b:Ab},C5 f a->C5 f b->a.1=b.1->a.2.1=b.2.1->b.2.2<=a.2.2:=λ{a b} ha hb e1 e2=>Ü λz=>ha.high (by rw[e1,e2];exact hb.all _ z)
 exact Ÿ e1 (Ÿ e2 (Ĥ (high hb ha e1.symm e2.symm) (high ha hb e1 e2)))
noncomputable def CG(w:Wd)(f:Nat->Option Nat)(t:Nat):Option Nat:=if w.1<=t/\t<w.2 then f t else none
def AG{w:Wd}{f:Nat->Option Nat}{t i:Nat}:CG w f t=some i↔(w.1<=t/\t<w.2)/\f t=some i:=by
 unfold CG
 split
 ·exact⟨λh=>⟨‹_›,h⟩,aM2⟩
 ·exact⟨λh=>(nomatch h),λh=>absurd h.1 ‹_›⟩
def C5.in_{w:Wd}{f:Nat->Option Nat}{b:Ab}(h:C5 (CG w f) b):w.1<=b.1/\b.1+b.2.2<=w.2:=by
 have h1:=(AG.mp (h.all 0 h.pos)).1
 have hp:=h.pos
 have h2:=(AG.mp (h.all (b.2.2-1) (by exists[_],0x180b100818,hp))).1
 exists[_,_,_,_],0x321a010063182b1a18081a008,h1.1,h2.2
def F9{lo hi:Nat}{f:Nat->Option Nat}{c b:Ab}(hc:C5 (CG (lo,hi) f) c):C5 (CG (lo,hi) f) b↔b=c\/(lo<c.1/\C5 (CG (lo,c.1) f) b)\/(c.1+c.2.2<hi/\C5 (CG (c.1+c.2.2,hi) f) b):=by
 have ic:=hc.in_
 have pc:=hc.pos
 constructor
 ·intro hb
  have ib:=hb.in_
  have pb:=hb.pos
  by_cases e:b=c
  ·exact .inl e
  ·have d:b.1+b.2.2<=c.1\/c.1+c.2.2<=b.1:=by
    by_cases z:b.1<=c.1
    ·exact .inl (Ü λy=>e (GU hb hc (t:=c.1) ⟨z,y⟩ ⟨zX _,Þ pc⟩))
    ·exact .inr (Ü λy=>e (GU hb hc (t:=b.1) ⟨zX _,Þ pb⟩ ⟨Û (aH2 z),y⟩))
   have sub :∀w:Wd,lo<=w.1->w.2<=hi->w.1<=b.1->b.1+b.2.2<=w.2->C5 (CG w f) b:=λw w1 w2 w3 w4=>
    have up :∀{t i},CG w f t=some i->CG (lo,hi) f t=some i:=λh=>AG.mpr ⟨⟨zP w1 (AG.mp h).1.1,zZ (AG.mp h).1.2 w2⟩,(AG.mp h).2⟩
    ⟨pb,λt ht=>AG.mpr ⟨⟨by(exists[_,_,_],0x21a001008,w3),by exists[_,_,_,_],0x230a11318210a08,w4,ht⟩,(AG.mp (hb.all t ht)).2⟩,λj i e1 e2 z=>hb.low j i e1 e2 (up z),λz=>hb.high (up z)⟩
   rcases d with d | d
   ·exact .inr (.inl ⟨by have:=ib.1;(exists[_,_,_,_],0x301321a08208181008,ib.1,pb,d),sub (lo,c.1) (zX _) (zP (Æ ..) ic.2) ib.1 d⟩)
   ·exact .inr (.inr ⟨by have:=ib.2;(exists[_,_,_,_,_],0x243a1043a0810818210a08,ib.2,pb,d),sub (c.1+c.2.2,hi) (zP ic.1 (Æ ..)) (zX _) d ib.2⟩)
 ·rintro (rfl | ⟨g,hb⟩ | ⟨g,hb⟩)
  ·exact hc
  ·have ib:=hb.in_
   have ib1:lo<=b.1:=ib.1
   have ib2:b.1+b.2.2<=c.1:=ib.2
   have ic2:c.1+c.2.2<=hi:=ic.2
   refine⟨hb.pos,λt ht=>AG.mpr ⟨⟨by show lo<=b.1+t;exact id (ql [_,_,_] 0x21a001008 (by rfl') ib.1),by show b.1+t<hi;exact id (ql [_,_,_,_,_,_] 0x253a14518043a08210a08 (by rfl') ic.2 ib.2 ht)⟩,(AG.mp (hb.all t ht)).2⟩,λj i e1 e2 z=>hb.low j i e1 e2 (AG.mpr ⟨⟨(AG.mp z).1.1,by show j<c.1;exact id (ql [_,_,_,_] 0x231183a028210a08 (by rfl') ib.2 e1)⟩,(AG.mp z).2⟩),λz=>?_⟩
   by_cases y:b.1+b.2.2<c.1
   ·exact hb.high (AG.mpr ⟨⟨(AG.mp z).1.1,y⟩,(AG.mp z).2⟩)
   ·have e:b.1+b.2.2=c.1:=by exists[_,_,_],0x210a2210a198210a08,ib.2,y
    have c0:=hc.all 0 pc
    rw[e]at z
    have ei:=zR (z.symm.trans c0)
    have pb:=hb.pos
    refine hc.low (b.1+(b.2.2-1)) (b.2.1+(b.2.2-1)) (by exists[_,_,_],0x18181b0aa2210818210a198210a08,ib.2,y,pb) (by exists[_,_,_],0x18181b0aa2210818082a10a28,ei,pb) (AG.mpr ⟨⟨by show lo<=_;exact id (ql [_,_,_] 0x182b1a001008 (by rfl') ib.1),by show _<hi;exact id (ql [_,_,_,_,_] 0x2184b3a1043a0810818210a08 (by rfl') ic.2 pc ib.2)⟩,(AG.mp (hb.all (b.2.2-1) (by exists[_],0x180b100818,pb))).2⟩)
  ·have ib:=hb.in_
   have ib1:c.1+c.2.2<=b.1:=ib.1
   have ib2:b.1+b.2.2<=hi:=ib.2
   have ic1:lo<=c.1:=ic.1
   refine⟨hb.pos,λt ht=>AG.mpr ⟨⟨by show lo<=b.1+t;exact id (ql [_,_,_,_,_] 0x43a00321a081008 (by rfl') ic.1 ib1),by show b.1+t<hi;exact id (ql [_,_,_,_] 0x230a11318210a08 (by rfl') ib.2 ht)⟩,(AG.mp (hb.all t ht)).2⟩,λj i e1 e2 z=>?_,λz=>hb.high (AG.mpr ⟨⟨by show c.1+c.2.2<=_;exact id (ql [_,_,_,_] 0x32a10a0210a08 (by rfl') ib1),(AG.mp z).1.2⟩,(AG.mp z).2⟩)⟩
   by_cases y:c.1+c.2.2<=j
   ·exact hb.low j i e1 e2 (AG.mpr ⟨⟨y,(AG.mp z).1.2⟩,(AG.mp z).2⟩)
   ·have e:c.1+c.2.2=b.1:=by exists[_,_,_,_],0x210a2310a098183a228210a08,ib1,e1,y
    have cl:=hc.all (c.2.2-1) (by exists[_],0x180b100818,pc)
    rw[show c.1+(c.2.2-1)=j from by exists[_,_,_,_],0x3180b1a2301a098183a228201a0800818,pc,ib1,e1,y]at cl
    have ei:=zR (z.symm.trans cl)
    refine hc.high (AG.mpr ⟨⟨by show lo<=_;exact id (ql [_,_,_] 0x21a001008 (by rfl') ic.1),by show _<hi;have:=hb.pos;exact id (ql [_,_,_] 0x210a1210a18 (by rfl') g)⟩,?_⟩)
    have b0:=(AG.mp (hb.all 0 hb.pos)).2
    rw[show b.1+0=c.1+c.2.2 from e.symm]at b0
    rw[b0];congr 1;exists[_,_,_,_],0x3a081a2180b3a228182a12800818,pc,e2,ei
def Kf(a b:Wd):Prop:=a.2<b.1\/b.2<a.1
structure zN(g:Nat->Option Nat)(st:List Wd)(fs:List Ab)(ls:List Wd):Prop where
 mem :∀b,b∈fs↔∃w∈st,C5 (CG w g) b
 nd:fs.Nodup
 lok :∀l∈ls,l.1<l.2/\∃w∈st,w.1<=l.1/\l.2<=w.2
 cov :∀t,J4 ls t↔J4 st t/\g t=none
 sep:ls.Pairwise Kf
section
variable{la lb:List Int}{g:Nat->Option Nat}{m:Nat}
def Ub{lo hi:Nat}(hg :∀i j,g j=some i↔GC la lb i j)(h:LM la lb 0 la.length lo hi 0 lo 0){t:Nat}(h1:lo<=t)(h2:t<hi):g t=none:=by
 cases e:g t with
 | none=>rfl
 | some i=>
  have c:=(hg i t).mp e
  have:=h.max i t 1 ⟨Õ _,h1,c.elim λx q=>(zT.mp q.1).1,h2,λd hd=>(aC3.mp hd)▸c⟩
  exact absurd this (by decide)
def XY{lo hi i j k:Nat}(hg :∀i j,g j=some i↔GC la lb i j)(h:LM la lb 0 la.length lo hi i j k)(hk:0<k):C5 (CG (lo,hi) g) (j,i,k):=by
 obtain⟨s1,s2,s3,s4,s5⟩:=h.str
 have sp :∀t x,CG (lo,hi) g t=some x->(lo<=t/\t<hi)/\GC la lb x t:=λt x e=>⟨(AG.mp e).1,(hg x t).mp (AG.mp e).2⟩
 have lt :∀{x t},GC la lb x t->x<la.length:=λc=>c.elim λx q=>(zT.mp q.1).1
 refine⟨hk,λt ht=>AG.mpr ⟨⟨zP s2 (Æ ..),zZ (aE8 ht j) s4⟩,(hg _ _).mpr (s5 t ht)⟩,λj' i' e1 e2 z=>?_,λz=>?_⟩
 ·obtain⟨z1,z2⟩:=sp _ _ z
  have e1:j=j'+1:=e1
  have e2:i=i'+1:=e2
  subst e1;subst e2
  have:=h.max i' j' (k+1) ⟨Õ _,z1.1,by(exists[_,_,_],0x2181a0a021180aa08,s3),by(exists[_,_,_],0x2181a0a021180aa08,s4),λd hd=>by
   cases d with
   | zero=>exact z2
   | succ d=>
    have:=s5 d (aB9 hd)
    rwa[ĥ i' 1 d,ĥ j' 1 d]at this⟩
  exact absurd this (Ŗ k)
 ·obtain⟨z1,z2⟩:=sp _ _ z
  have:=h.max i j (k+1) ⟨Õ _,s2,lt z2,z1.2,λd hd=>(ú (î hd)).elim (s5 d) λe=>e▸z2⟩
  exact absurd this (Ŗ k)
def Iw{a b:Nat}{st:List Wd}{w:Wd}:w∈psw a b st↔(a<b/\w=(a,b))\/w∈st:=by
 unfold psw
 split
 ·rw[È]
  exact or_congr_left ⟨λe=>⟨‹_›,e⟩,aM2⟩
 ·exact⟨.inr,λh=>h.elim (λq=>absurd q.1 ‹_›) id⟩
def M9{a b:Nat}{st:List Wd}(h:st.Pairwise Kf)(n :∀w∈st,Kf (a,b) w):(psw a b st).Pairwise Kf:=by
 unfold psw
 split
 ·exact ñ.mpr ⟨n,h⟩
 ·exact h
def WR(hg :∀i j,g j=some i↔GC la lb i j){st:List Wd}{fs:List Ab}{ls:List Wd}(h:Os la lb st fs ls):(∀w∈st,w.1<w.2)->st.Pairwise Kf->zN g st fs ls:=by
 induction h with
 | nil=>exact λ_ _=>⟨λb=>⟨λh=>(nomatch h),λ⟨w,hw,_⟩=>(nomatch hw)⟩,.nil,λl h=>(nomatch h),λt=>⟨λ⟨p,hp,_⟩=>(nomatch hp),λ⟨⟨p,hp,_⟩,_⟩=>(nomatch hp)⟩,.nil⟩
 | @left lo hi st ls fs h r ih=>
  intro h1 h2
  obtain⟨h3,h4⟩:=ñ.mp h2
  have ih:=ih (λw hw=>h1 w (À _ hw)) h4
  have none_:=λt (a:lo<=t) (b:t<hi)=>Ub hg h a b
  refine⟨λb=>(ih.mem b).trans ⟨λ⟨w,hw,q⟩=>⟨w,À _ hw,q⟩,λ⟨w,hw,q⟩=>?_⟩,ih.nd,λl hl=>?_,λt=>?_,ñ.mpr ⟨λl hl=>?_,ih.sep⟩⟩
  ·rcases È.mp hw with rfl | hw
   ·obtain⟨q1,q2⟩:=AG.mp (q.all 0 q.pos)
    rw[none_ _ q1.1 q1.2]at q2
    exact nomatch q2
   ·exact⟨w,hw,q⟩
  ·rcases È.mp hl with rfl | hl
   ·exact⟨h1 _ (z8 ..),_,z8 ..,zX _,zX _⟩
   ·obtain⟨q1,w,hw,q2⟩:=ih.lok l hl
    exact⟨q1,w,À _ hw,q2⟩
  ·rw[Dz,Dz,ih.cov]
   exact⟨λh=>h.elim (λq=>⟨.inl q,none_ t q.1 q.2⟩) λq=>⟨.inr q.1,q.2⟩,λ⟨q1,q2⟩=>q1.imp id λq=>⟨q,q2⟩⟩
  ·obtain⟨q1,w,hw,q2,q3⟩:=ih.lok l hl
   have:=h3 w hw
   exact this.imp (λz=>zZ z q2) λz=>Í q3 z
 | @run lo hi i j k st ls fs h hk r ih=>
  intro h1 h2
  obtain⟨h3,h4⟩:=ñ.mp h2
  obtain⟨s1,s2,s3,s4,s5⟩:=h.str
  have hr:=XY hg h hk
  have h1' :∀w∈st,w.1<w.2:=λw hw=>h1 w (À _ hw)
  have mem :∀w,w∈psw (j+k) hi (psw lo j st)↔(j+k<hi/\w=(j+k,hi))\/(lo<j/\w=(lo,j))\/w∈st:=λw=>Iw.trans (or_congr_right Iw)
  have nar :∀a b,lo<=a->b<=hi->∀w∈st,Kf (a,b) w:=λa b ha hb w hw=>(h3 w hw).imp (λz=>Í hb z) λz=>zZ z ha
  have ih:=ih (λw hw=>((mem w).mp hw).elim (λq=>q.2▸q.1) λq=>q.elim (λq=>q.2▸q.1) (h1' w)) (M9 (M9 h4 (nar lo j (zX _) (zP (Æ ..) s4))) λw hw=>by
   rcases Iw.mp hw with⟨_,rfl⟩ | hw
   ·exact .inr (Þ hk)
   ·exact nar (j+k) hi (zP s2 (Æ ..)) (zX _) w hw)
  have sub :∀w∈psw (j+k) hi (psw lo j st),∃w'∈(lo,hi)::st,w'.1<=w.1/\w.2<=w'.2:=λw hw=>by
   rcases(mem w).mp hw with⟨_,rfl⟩ | ⟨_,rfl⟩ | hw
   ·exact⟨_,z8 ..,zP s2 (Æ ..),zX _⟩
   ·exact⟨_,z8 ..,zX _,zP (Æ ..) s4⟩
   ·exact⟨w,À _ hw,zX _,zX _⟩
  refine⟨λb=>?_,aE4.mpr ⟨λhb=>?_,ih.nd⟩,λl hl=>?_,λt=>?_,ih.sep⟩
  ·rw[È,ih.mem]
   constructor
   ·rintro (rfl | ⟨w,hw,q⟩)
    ·exact⟨_,z8 ..,hr⟩
    ·rcases(mem w).mp hw with⟨g1,rfl⟩ | ⟨g1,rfl⟩ | hw
     ·exact⟨_,z8 ..,(F9 hr).mpr (.inr (.inr ⟨g1,q⟩))⟩
     ·exact⟨_,z8 ..,(F9 hr).mpr (.inr (.inl ⟨g1,q⟩))⟩
     ·exact⟨w,À _ hw,q⟩
   ·rintro ⟨w,hw,q⟩
    rcases È.mp hw with rfl | hw
    ·rcases(F9 hr).mp q with rfl | ⟨g1,q⟩ | ⟨g1,q⟩
     ·exact .inl rfl
     ·exact .inr ⟨_,(mem _).mpr (.inr (.inl ⟨g1,rfl⟩)),q⟩
     ·exact .inr ⟨_,(mem _).mpr (.inl ⟨g1,rfl⟩),q⟩
    ·exact .inr ⟨w,(mem _).mpr (.inr (.inr hw)),q⟩
  ·obtain⟨w,hw,q⟩:=(ih.mem _).mp hb
   have q1:w.1<=j:=q.in_.1
   have q2:j+k<=w.2:=q.in_.2
   rcases(mem w).mp hw with⟨_,rfl⟩ | ⟨_,rfl⟩ | hw
   ·exact absurd q1 (ŷ.mpr (Þ hk))
   ·exact absurd q2 (ŷ.mpr (Þ hk))
   ·rcases h3 w hw with z | z
    ·exact absurd (zZ z q1) (Đ.mpr (zP (Æ ..) s4))
    ·exact absurd (Í q2 z) (Đ.mpr (zP s2 (Æ ..)))
  ·obtain⟨q1,w,hw,q2,q3⟩:=ih.lok l hl
   obtain⟨w',hw',g1,g2⟩:=sub w hw
   exact⟨q1,w',hw',zP g1 q2,zP q3 g2⟩
  ·rw[ih.cov]
   have some_ :∀t,j<=t->t<j+k->g t≠none:=λt a b z=>by
    have:=(hg (i+(t-j)) (j+(t-j))).mpr (s5 (t-j) (by exists[_,_,_],0x21b102a11800818,hk,b))
    rw[ř a,z]at this
    exact nomatch this
   constructor
   ·rintro ⟨⟨w,hw,q⟩,e⟩
    obtain⟨w',hw',g1,g2⟩:=sub w hw
    exact⟨⟨w',hw',zP g1 q.1,zZ q.2 g2⟩,e⟩
   ·rintro ⟨⟨w,hw,q⟩,e⟩
    refine⟨?_,e⟩
    rcases È.mp hw with rfl | hw
    ·have qa:lo<=t:=q.1
     have qb:t<hi:=q.2
     by_cases z:t<j
     ·exact⟨(lo,j),(mem _).mpr (.inr (.inl ⟨Í qa z,rfl⟩)),qa,z⟩
     ·by_cases y:t<j+k
      ·exact absurd e (some_ t (Ü z) y)
      ·exact⟨(j+k,hi),(mem _).mpr (.inl ⟨Í (Ü y) qb,rfl⟩),Ü y,qb⟩
    ·exact⟨w,(mem _).mpr (.inr (.inr hw)),q⟩
end
abbrev dE(a b:Wd):Prop:=a.2<b.1
theorem VW{x:Wd}(hx:x.1<x.2) :∀{L:List Wd},(∀l∈L,l.1<l.2)->(∀l∈L,Kf x l)->L.Pairwise dE->∃L':List Wd,L'.Perm (x::L)/\L'.Pairwise dE
 | [],_,_,_=>⟨[x],.refl _,aB0 ..⟩
 | a::L,h1,h2,h3=>by
  obtain⟨h4,h5⟩:=ñ.mp h3
  rcases h2 a (z8 ..)with z | z
  ·refine⟨x::a::L,.refl _,ñ.mpr ⟨λb hb=>?_,h3⟩⟩
   rcases È.mp hb with rfl | hb
   ·exact z
   ·exact ő z (ő (h1 a (z8 ..)) (h4 b hb))
  ·obtain⟨L',p,q⟩:=VW hx (L:=L) (λl hl=>h1 l (À _ hl)) (λl hl=>h2 l (À _ hl)) h5
   refine⟨a::L',(p.cons a).trans (aK3.swap ..),ñ.mpr ⟨λb hb=>?_,q⟩⟩
   rcases È.mp (p.mem_iff.mp hb)with rfl | hb
   ·exact z
   ·exact h4 b hb
theorem QZ :∀{ls:List Wd},(∀l∈ls,l.1<l.2)->ls.Pairwise Kf->∃L:List Wd,L.Perm ls/\L.Pairwise dE
 | [],_,_=>⟨[],.refl _,.nil⟩
 | x::ls,h1,h2=>by
  obtain⟨h3,h4⟩:=ñ.mp h2
  obtain⟨L,p,q⟩:=QZ (λl hl=>h1 l (À _ hl)) h4
  obtain⟨L',p',q'⟩:=VW (h1 x (z8 ..)) (L:=L) (λl hl=>h1 l (À _ (p.mem_iff.mp hl))) (λl hl=>h3 l (p.mem_iff.mp hl)) q
  exact⟨L',p'.trans (p.cons x),q'⟩
theorem QY{m:Nat} :∀{L:List Wd} {lo:Nat},(∀l∈L,l.1<l.2/\l.2<=m)->(∀l∈L,lo<=l.1)->L.Pairwise dE->Hd m lo L
 | [],_,_,_,_=>trivial
 | a::L,lo,h1,h2,h3=>by
  obtain⟨h4,h5⟩:=ñ.mp h3
  exact⟨⟨h2 a (z8 ..),h1 a (z8 ..)⟩,QY (λl hl=>h1 l (À _ hl)) (λl hl=>Nat.succ_le_of_lt (h4 l hl)) h5⟩
theorem Hd.pw{m:Nat} :∀{W:List Wd} {lo:Nat},Hd m lo W->W.Pairwise dE
 | [],_,_=>.nil
 | a::W,lo,⟨h1,h2⟩=>ñ.mpr ⟨λb hb=>Nat.lt_of_succ_le (h2.mem b hb).1,h2.pw⟩
def Hd.srt{m lo:Nat}{W:List Wd}(h:Hd m lo W):UB W:=by
 unfold UB
 rw[ŕ]
 exact h.pw.imp_of_mem λ{a b} ha hb z=>Ç.mpr (ő (h.mem a ha).2.1 z)
theorem Hd.len{m:Nat} :∀{W:List Wd} {lo:Nat},lo<=m->Hd m lo W->W.length+lo<=m/\Fr W+lo<=m
 | [],lo,h,_=>⟨by rw[aJ0,ĩ];exact h,by show 0+lo<=m;rw[ĩ];exact h⟩
 | a::W,lo,_,⟨⟨h1,h2,h3⟩,h4⟩=>by
  have:=Hd.len (lo:=a.2) h3 (h4.le (ć _))
  rw[Ş]
  show W.length+1+lo<=m/\(a.2-a.1)+Fr W+lo<=m
  exact id (ql [_,_,_,_,_,_] 0x40512baa040183aa06425a08423a0821181008 (by rfl') h1 h2 this.1 this.2)
def Hd.out{m lo:Nat}{W:List Wd}(h:Hd m lo W){w:Wd}(hw:w∈W){t:Nat}(ht:t=w.2\/w.1=t+1):¬ J4 W t:=by
 rintro ⟨v,hv,v1,v2⟩
 have pw:=h.pw
 have hw1:=(h.mem w hw).2.1
 have hv1:=(h.mem v hv).2.1
 have cmp:v=w\/v.2<w.1\/w.2<v.1:=by
  clear h ht v1 v2
  induction W with
  | nil=>exact nomatch hw
  | cons a W ih=>
   obtain⟨p1,p2⟩:=ñ.mp pw
   rcases È.mp hw with e | hw'
   ·rcases È.mp hv with e' | hv'
    ·exact .inl (e'.trans e.symm)
    ·exact .inr (.inr (e▸p1 v hv'))
   ·rcases È.mp hv with e' | hv'
    ·exact .inr (.inl (e'▸p1 w hw'))
    ·exact ih hw' hv' p2
 rcases cmp with rfl | z | z
 ·exists[_,_,_],0xa181a022127821181008,v1,v2,ht
 ·exists[_,_,_,_],0xa180a2230278211832181018,v2,hw1,z,ht
 ·exists[_,_,_,_],0xa181a2231278031832181008,v1,hw1,z,ht
def UX{m lo:Nat}{W:List Wd}(h:Hd m lo W){f g:Nat->Option Nat}(hf :∀t i,f t=some i↔J4 W t/\g t=some i){b:Ab}:C5 f b↔∃w∈W,C5 (CG w g) b:=by
 constructor
 ·intro hb
  obtain⟨w,hw,w1,w2⟩:=((hf _ _).mp (hb.all 0 hb.pos)).1
  have all :∀t,t<b.2.2->b.1+t<w.2:=λt=>by
   induction t with
   | zero=>exact λ_=>w2
   | succ t ih=>
    intro ht
    have:=ih (aG3 ht)
    refine Nat.lt_of_le_of_ne this λe=>h.out hw (.inl e) ((hf _ _).mp (hb.all (t+1) ht)).1
  refine⟨w,hw,hb.pos,λt ht=>AG.mpr ⟨⟨zP w1 (Æ ..),all t ht⟩,((hf _ _).mp (hb.all t ht)).2⟩,λj i e1 e2 z=>hb.low j i e1 e2 ((hf _ _).mpr ⟨⟨w,hw,(AG.mp z).1⟩,(AG.mp z).2⟩),λz=>hb.high ((hf _ _).mpr ⟨⟨w,hw,(AG.mp z).1⟩,(AG.mp z).2⟩)⟩
 ·rintro ⟨w,hw,hb⟩
  have ib:=hb.in_
  have pb:=hb.pos
  refine⟨pb,λt ht=>(hf _ _).mpr ⟨⟨w,hw,(AG.mp (hb.all t ht)).1⟩,(AG.mp (hb.all t ht)).2⟩,λj i e1 e2 z=>?_,λz=>?_⟩
  ·obtain⟨z1,z2⟩:=(hf _ _).mp z
   by_cases y:w.1<=j
   ·exact hb.low j i e1 e2 (AG.mpr ⟨⟨y,by exists[_,_,_,_],0x231183a028210a08,ib.2,e1⟩,z2⟩)
   ·exact h.out hw (.inr (by exists[_,_,_],0x182a0220098182a1281008,ib.1,e1,y)) z1
  ·obtain⟨z1,z2⟩:=(hf _ _).mp z
   by_cases y:b.1+b.2.2<w.2
   ·exact hb.high (AG.mpr ⟨⟨zP ib.1 (Æ ..),y⟩,z2⟩)
   ·exact h.out hw (.inl (Ĥ ib.2 (Ü y))) z1
section
variable{Ts:List (List Int)}{nw fr:List Int}
def S5.uniq{x:Int}{u v i j:Nat}(a:S5 Ts x u i)(b:S5 Ts x v j):u=v/\i=j:=by
 obtain⟨T,a1,a2,a3,a4⟩:=a.at_
 obtain⟨T',b1,b2,b3,b4⟩:=b.at_
 have e:u=v:=Ĥ (Ü λz=>b.no u T z a1 a3) (Ü λz=>a.no v T' z b1 b3)
 subst e
 cases zR (a1.symm.trans b1)
 exact⟨rfl,a4.symm.trans b4⟩
open Classical in
def fY(Ts:List (List Int))(nw fr:List Int)(u t:Nat):Option Nat:=if h :∃i x,nw[t]?=some x/\x∈fr/\S5 Ts x u i then some h.choose else none
def Eg{u t i:Nat}:fY Ts nw fr u t=some i↔∃x,nw[t]?=some x/\x∈fr/\S5 Ts x u i:=by
 unfold fY
 by_cases h :∃i x,nw[t]?=some x/\x∈fr/\S5 Ts x u i
 ·rw[dif_pos h]
  obtain⟨x,h1,h2,h3⟩:=h.choose_spec
  refine⟨λe=>zR e▸⟨x,h1,h2,h3⟩,λ⟨y,g1,g2,g3⟩=>?_⟩
  cases zR (h1.symm.trans g1)
  exact congrArg some (h3.uniq g3).2
 ·rw[dif_neg h]
  exact⟨λe=>(nomatch e),λq=>absurd ⟨i,q⟩ h⟩
structure Ot(f:Nat->Option Nat)(j:Nat)(p:List Ab):Prop where
 mem :∀b,b∈p↔C5 (CG (0,j) f) b
 ord:p.Pairwise λa b=>a.1+a.2.2<=b.1
 cov :∀t i,t<j->f t=some i->∃b∈p,b.1<=t/\t<b.1+b.2.2
def Bz{f:Nat->Option Nat}{j t i:Nat}:CG (0,j) f t=some i↔t<j/\f t=some i:=AG.trans (and_congr_left λ_=>⟨aM2,λh=>⟨Õ _,h⟩⟩)
variable{f:Nat->Option Nat}{j i:Nat}{p:List Ab}{a b c:Nat}
theorem Ot.nil:Ot f 0 []:=⟨λb=>⟨λh=>(nomatch h),λh=>absurd (Bz.mp (h.all 0 h.pos)).1 (ø _)⟩,.nil,λt i h=>absurd h (ø t)⟩
def Ot.skip(h:Ot f j p)(n:f j=none):Ot f (j+1) p:=by
 have e:CG (0,j+1) f=CG (0,j) f:=funext λt=>by
  have q :∀i,CG (0,j+1) f t=some i↔CG (0,j) f t=some i:=λi=>by
   rw[Bz,Bz]
   refine and_congr_left λg=>⟨λz=>(ú (î z)).resolve_right λy=>?_,ã⟩
   rw[y,n]at g
   exact nomatch g
  cases x:CG (0,j) f t with
  | some i=>exact(q i).mpr x
  | none=>cases y:CG (0,j+1) f t with
   | none=>rfl
   | some i=>exact absurd ((q i).mp y) (by rw[x];exact λz=>nomatch z)
 refine⟨λb=>by rw[e];exact h.mem b,h.ord,λt i ht g=>(ú (î ht)).elim (λz=>h.cov t i z g) λy=>?_⟩
 rw[y,n]at g
 exact nomatch g
def VO{b:Ab}(hb:C5 (CG (0,j) f) b)(n:b.1+b.2.2<j\/f j≠some (b.2.1+b.2.2)):C5 (CG (0,j+1) f) b:=by
 have ib:=hb.in_.2
 have ib:b.1+b.2.2<=j:=ib
 have pb:=hb.pos
 refine⟨pb,λt ht=>Bz.mpr ⟨ã (Bz.mp (hb.all t ht)).1,(Bz.mp (hb.all t ht)).2⟩,λx y e1 e2 z=>hb.low x y e1 e2 (Bz.mpr ⟨by rename_i u0;(exists[_,_,_,_],0x231183a028210a08,u0,e1),(Bz.mp z).2⟩),λz=>?_⟩
 by_cases g:b.1+b.2.2<j
 ·exact hb.high (Bz.mpr ⟨g,(Bz.mp z).2⟩)
 ·have e:b.1+b.2.2=j:=by rename_i u0;exists[_,_,_],0x210a2210a198210a08,u0,g
  have:=(Bz.mp z).2
  rw[e]at this
  exact(n.resolve_left g) this
def VN{b:Ab}(hb:C5 (CG (0,j+1) f) b)(n:b.1+b.2.2<=j):C5 (CG (0,j) f) b:=
 ⟨hb.pos,λt ht=>Bz.mpr ⟨by(exists[_,_,_,_],0x230a11318210a08,n,ht),(Bz.mp (hb.all t ht)).2⟩,λx y e1 e2 z=>hb.low x y e1 e2 (Bz.mpr ⟨ã (Bz.mp z).1,(Bz.mp z).2⟩),λz=>hb.high (Bz.mpr ⟨ã (Bz.mp z).1,(Bz.mp z).2⟩)⟩
def Ot.ext(h:Ot f j (p++[(a,b,c)]))(e1:a+c=j)(e2:b+c=i)(g:f j=some i):Ot f (j+1) (p++[(a,b,c+1)]):=by
 subst e1;subst e2
 have hl:=(h.mem (a,b,c)).mp (Á.mpr (.inr (z9.mpr rfl)))
 obtain⟨o1,o2,o3⟩:=ź.mp h.ord
 have pc:0<c:=hl.pos
 have new:C5 (CG (0,a+c+1) f) (a,b,c+1):=by
  refine⟨Ň c,λt ht=>?_,λx y e1 e2 z=>hl.low x y e1 e2 (Bz.mpr ⟨by have:a=x+1:=e1;(exists[_,_,_],0x20a11181a028,e1),(Bz.mp z).2⟩),λz=>absurd (Bz.mp z).1 (by show ¬ a+(c+1)<a+c+1;exact id (ql [_,_] 0x1810aa181a0a19 (by rfl')))⟩
  rcases ú (î ht)with z | z
  ·exact Bz.mpr ⟨ã (Bz.mp (hl.all t z)).1,(Bz.mp (hl.all t z)).2⟩
  ·subst z
   exact Bz.mpr ⟨Ê _,g⟩
 refine⟨λx=>?_,ź.mpr ⟨o1,aB0 ..,λy hy z hz=>?_⟩,λt i ht g'=>?_⟩
 ·rw[Á,z9]
  constructor
  ·rintro (hx | rfl)
   ·have:=o3 x hx _ (z9.mpr rfl)
    exact VO ((h.mem x).mp (Á.mpr (.inl hx))) (.inl (by have:x.1+x.2.2<=a:=this;rename_i u0;exists[_,_,_,_],0x3a21a1321a0800818,pc,u0))
   ·exact new
  ·intro hx
   have ix:x.1+x.2.2<=a+c+1:=hx.in_.2
   have px:=hx.pos
   by_cases z:x.1+x.2.2<=a+c
   ·refine(Á.mp ((h.mem x).mpr (VN hx z))).imp id λy=>?_
    rw[z9.mp y]at hx
    exact absurd (Bz.mpr ⟨Ê _,g⟩) hx.high
   ·exact .inr (GU hx new (t:=a+c) ⟨by(exists[_,_,_,_],0x32a00108181832aa10a08,ix,px),by exists[_,_,_,_],0x10a32a132a10a098,z⟩ ⟨Æ ..,by show a+c<a+(c+1);exact id (ql [_,_] 0x181a0a10a1 (by rfl'))⟩)
 ·rw[z9.mp hz]
  exact o3 y hy (a,b,c) (z9.mpr rfl)
 ·rcases ú (î ht)with z | z
  ·obtain⟨x,hx,q⟩:=h.cov t i z g'
   rcases Á.mp hx with hx | hx
   ·exact⟨x,Á.mpr (.inl hx),q⟩
   ·rw[z9.mp hx]at q
    exact⟨(a,b,c+1),Á.mpr (.inr (z9.mpr rfl)),q.1,by have:t<a+c:=q.2;show t<a+(c+1);exact id (ql [_,_,_] 0x182a1a011821aa018 (by rfl') ht)⟩
  ·exact⟨(a,b,c+1),Á.mpr (.inr (z9.mpr rfl)),by show a<=t;exact id (ql [_,_,_] 0x1021a028 (by rfl') z),by show t<a+(c+1);exact id (ql [_,_,_] 0x182a1a011821aa018 (by rfl') ht)⟩
def Ot.new(h:Ot f j p)(g:f j=some i)(n :∀x y,j=x+1->i=y+1->f x≠some y):Ot f (j+1) (p++[(j,i,1)]):=by
 have nw:C5 (CG (0,j+1) f) (j,i,1):=⟨aD8,λt ht=>by obtain rfl:=aC3.mp ht;exact Bz.mpr ⟨Ê _,g⟩,λx y e1 e2 z=>n x y e1 e2 (Bz.mp z).2,λz=>absurd (Bz.mp z).1 (ò _)⟩
 refine⟨λx=>?_,ź.mpr ⟨h.ord,aB0 ..,λy hy z hz=>?_⟩,λt i' ht g'=>?_⟩
 ·rw[Á,z9]
  constructor
  ·rintro (hx | rfl)
   ·have hx:=(h.mem x).mp hx
    have ix:x.1+x.2.2<=j:=hx.in_.2
    have px:=hx.pos
    refine VO hx ((ú ix).imp id λe z=>?_)
    have:=(Bz.mp (hx.all (x.2.2-1) (by exists[_],0x180b100818,px))).2
    exact n (x.1+(x.2.2-1)) (x.2.1+(x.2.2-1)) (by exists[_,_,_],0x18180b1aa22201a2800818,px,e) (by have:=zR (g.symm.trans z);exists[_,_,_],0x18180b2aa1202a12800818,px,this) this
   ·exact nw
  ·intro hx
   have ix:x.1+x.2.2<=j+1:=hx.in_.2
   have px:=hx.pos
   by_cases z:x.1+x.2.2<=j
   ·exact .inl ((h.mem x).mpr (VN hx z))
   ·exact .inr (GU hx nw (t:=j) ⟨by(exists[_,_,_],0x20010818182a10a08,ix,px),by exists[_,_,_],0x10a21210a098,z⟩ ⟨zX _,Ê _⟩)
 ·rw[z9.mp hz]
  exact((h.mem y).mp hy).in_.2
 ·rcases ú (î ht)with z | z
  ·obtain⟨x,hx,q⟩:=h.cov t i' z g'
   exact⟨x,Á.mpr (.inl hx),q⟩
  ·exact⟨_,Á.mpr (.inr (z9.mpr rfl)),Â z.symm,by rw[z];exact Ê _⟩
end
section
variable{Ts:List (List Int)}{nw fr:List Int}
def GK{x:Int}{j u i v i':Nat}(e:nw[j]?=some x)(y:S5 Ts x u i)(h:fY Ts nw fr v j=some i'):v=u/\i'=i:=by
 obtain⟨z,h1,_,h3⟩:=Eg.mp h
 cases zR (e.symm.trans h1)
 exact h3.uniq y
def D9{α:Type}{o:Option α}(h :∀a,o≠some a):o=none:=by
 cases o with
 | none=>rfl
 | some a=>exact absurd rfl (h a)
def K8{P:List (List Ab)}{u v:Nat}{q p:List Ab}(e:(P.set u q)[v]?=some p):(v=u/\p=q)\/(v≠u/\P[v]?=some p):=by
 by_cases h:v=u
 ·subst h
  rw[List.getElem?_set_self']at e
  cases hp:P[v]? with
  | none=>rw[hp]at e;exact nomatch e
  | some _=>rw[hp]at e;exact .inl ⟨rfl,(zR e).symm⟩
 ·rw[List.getElem?_set_ne (aD6 h)]at e
  exact .inr ⟨h,e⟩
def WU{j:Nat}{P:List (List Ab)}{la:Option (Nat×Nat)}(h:Pl Ts nw fr j P la):(∀u p,P[u]?=some p->Ot (fY Ts nw fr u) j p)/\(∀u i,la=some (u,i)->∃bs a b c,P[u]?=some (bs++[(a,b,c)])/\a+c=j/\b+c=i+1)/\∀u i x,j=x+1->fY Ts nw fr u x=some i->la=some (u,i):=by
 induction h with
 | nil=>
  refine⟨λu p e=>?_,λu i e=>(nomatch e),λu i x e=>(nomatch e)⟩
  rw[Ð]at e
  cases h:Ts[u]? with
  | none=>rw[h]at e;exact nomatch e
  | some _=>rw[h]at e;cases e;exact .nil
 | @skip j P la x r h n ih=>
  have no :∀u,fY Ts nw fr u j=none:=λu=>D9 λi e=>by
   obtain⟨y,h1,h2,h3⟩:=Eg.mp e
   cases zR (h.symm.trans h1)
   obtain⟨T,t1,_,t3,_⟩:=h3.at_
   exact n.elim (λz=>z h2) λz=>z T (Ò t1) t3
  refine⟨λu p e=>(ih.1 u p e).skip (no u),λu i e=>(nomatch e),λu i x e g=>?_⟩
  cases Ņ e
  rw[no u]at g
  exact nomatch g
 | @ext j P u i x bs a b c r h f y e ih=>
  obtain⟨i1,i2,i3⟩:=ih
  obtain⟨bs',a',b',c',q1,q2,q3⟩:=i2 u i rfl
  have e2:=List.append_inj' (zR (e.symm.trans q1)) rfl
  cases List.singleton_inj.mp e2.2
  have g:fY Ts nw fr u j=some (i+1):=Eg.mpr ⟨x,h,f,y⟩
  refine⟨λv p e'=>?_,λv k e'=>?_,λv k t e' g'=>?_⟩
  ·rcases K8 e' with⟨rfl,rfl⟩ | ⟨z,e'⟩
   ·exact(i1 v _ e).ext q2 q3 g
   ·exact(i1 v p e').skip (D9 λk g'=>z (GK h y g').1)
  ·cases e'
   exact⟨bs,a,b,c+1,by rw[aC5 (zT.mp e).1],congrArg (· + 1) q2,congrArg (· + 1) q3⟩
  ·cases Ņ e'
   obtain⟨rfl,rfl⟩:=GK h y g'
   rfl
 | @new j P la u i x bs r h f y e n ih=>
  obtain⟨i1,i2,i3⟩:=ih
  have g:fY Ts nw fr u j=some i:=Eg.mpr ⟨x,h,f,y⟩
  refine⟨λv p e'=>?_,λv k e'=>?_,λv k t e' g'=>?_⟩
  ·rcases K8 e' with⟨rfl,rfl⟩ | ⟨z,e'⟩
   ·exact(i1 v _ e).new g λx y e1 e2 g'=>n y (i3 v y x e1 g') e2.symm
   ·exact(i1 v p e').skip (D9 λk g'=>z (GK h y g').1)
  ·cases e'
   exact⟨bs,j,i,1,by rw[aC5 (zT.mp e).1],rfl,rfl⟩
  ·cases Ņ e'
   obtain⟨rfl,rfl⟩:=GK h y g'
   rfl
def GR(Ts:List (List Int))(nw fr:List Int)(u t:Nat):Prop:=∃x,nw[t]?=some x/\x∈fr/\∀v T,u<=v->Ts[v]?=some T->x∉T
structure gZ(Ts:List (List Int))(nw fr:List Int)(b:Int->Int)(now:Int)(u:Nat)(W:List Wd)(N:List Int):Prop where
 sep:Hd nw.length 0 W
 win :∀t,J4 W t↔GR Ts nw fr u t
 len:N.length=nw.length
 new :∀t x,nw[t]?=some x->GR Ts nw fr u t->N[t]?=some now
 old :∀t x,nw[t]?=some x->¬ GR Ts nw fr u t->N[t]?=some (b x)
open Classical in
def gC(T nw:List Int)(t:Nat):Option Nat:=if h :∃i,GC T nw i t then some h.choose else none
def Gw{T:List Int}(hT:T.Nodup)(i t:Nat):gC T nw t=some i↔GC T nw i t:=by
 unfold gC
 by_cases h :∃i,GC T nw i t
 ·rw[dif_pos h]
  have c:=h.choose_spec
  refine⟨λe=>zR e▸c,λ⟨x,e1,e2⟩=>?_⟩
  obtain⟨y,f1,f2⟩:=c
  cases zR (e2.symm.trans f2)
  exact congrArg some (IW hT f1 e1)
 ·rw[dif_neg h]
  exact⟨λe=>(nomatch e),λq=>absurd ⟨i,q⟩ h⟩
end
section
variable{Ts:List (List Int)}{nw fr:List Int}{b:Int->Int}{now:Int}{u:Nat}{W:List Wd}{N T:List Int}{p:List Ab}
def FJ{l:List Int}{t:Nat}{x:Int}(e:l[t]?=some x):l.getD t 0=x:=by rw[Ø,e];rfl
def Y9{t:Nat}(h:GR Ts nw fr u t):t<nw.length:=h.elim λx q=>(zT.mp q.1).1
def GY(hT:T.Nodup)(e:Ts[u]?=some T)(hR:gZ Ts nw fr b now (u+1) W N)(t i:Nat):fY Ts nw fr u t=some i↔J4 W t/\gC T nw t=some i:=by
 rw[Eg,hR.win,Gw hT]
 constructor
 ·rintro ⟨x,h1,h2,h3⟩
  obtain⟨T',t1,t2,t3,t4⟩:=h3.at_
  cases zR (e.symm.trans t1)
  exact⟨⟨x,h1,h2,λv T' hv e'=>h3.no v T' hv e'⟩,x,t2,h1⟩
 ·rintro ⟨⟨x,h1,h2,h3⟩,y,t1,t2⟩
  cases zR (h1.symm.trans t2)
  have hx:=Ò t1
  refine⟨x,h1,h2,⟨⟨T,e,t1,hx,IW hT ?_ t1⟩,λv T' hv e'=>h3 v T' hv e'⟩⟩
  exact(zV (ı.mpr hx)).trans (congrArg some (aF7 (ı.mpr hx)))
def HS(e:Ts[u]?=some T)(hT:T.Nodup){t:Nat}:GR Ts nw fr u t↔GR Ts nw fr (u+1) t/\gC T nw t=none:=by
 constructor
 ·rintro ⟨x,h1,h2,h3⟩
  refine⟨⟨x,h1,h2,λv T' hv=>h3 v T' (õ hv)⟩,D9 λi g=>?_⟩
  obtain⟨y,g1,g2⟩:=(Gw hT i t).mp g
  cases zR (h1.symm.trans g2)
  exact h3 u T (zX u) e (Ò g1)
 ·rintro ⟨⟨x,h1,h2,h3⟩,g⟩
  refine⟨x,h1,h2,λv T' hv e' hx=>?_⟩
  rcases ú hv with z | z
  ·exact h3 v T' z e' hx
  ·subst z
   cases zR (e.symm.trans e')
   obtain⟨i,hi⟩:=Ĝ hx
   rw[(Gw hT i t).mpr ⟨x,hi,h1⟩]at g
   exact nomatch g
def YR{P:List (List Ab)}{la:Option (Nat×Nat)}(hT :∀T∈Ts,T.Nodup)(hm:nw.length<=16)(hP:Pl Ts nw fr nw.length P la):f9 Ts nw b P (gZ Ts nw fr b now):=by
 refine⟨λu W N h=>h.len▸zP hm (by decide),λu W N h=>⟨λq hq=>(h.sep.mem q hq).2,zP (h.sep.len (Õ _)).2 (zP hm (by decide))⟩,λu W N T hR e=>?_⟩
 have nT:=hT T (Ò e)
 have hu:u<P.length:=hP.len▸(zT.mp e).1
 have hp:=zV hu
 generalize P[u]=p at hp
 have pI:=(WU hP).1 u p hp
 have cut:CG (0,nw.length) (fY Ts nw fr u)=fY Ts nw fr u:=funext λt=>by
  unfold CG
  split
  ·rfl
  ·rename_i h
   exact(D9 λi g=>h ⟨Õ _,(Eg.mp g).elim λx q=>(zT.mp q.1).1⟩).symm
 have mem :∀c,c∈p↔C5 (fY Ts nw fr u) c:=λc=>by have:=pI.mem c;rwa[cut]at this
 have lp:p.length<=16:=zP (hP.short u p hp) hm
 have ord:p.Pairwise λa c=>a.1<c.1:=pI.ord.imp_of_mem λ{a c} ha _ z=>zZ (Þ ((mem a).mp ha).pos) z
 refine⟨p,hp,Í lp (by decide),by unfold Vf;rw[ŕ];exact ord.imp λz=>Ç.mpr z,λfs ls hz=>?_⟩
 have pz:=WR (Gw nT) hz (λw hw=>(hR.sep.mem w (Ō.mp hw)).2.1) (List.pairwise_reverse.mpr (hR.sep.pw.imp λz=>.inr z))
 have rev :∀t,J4 W.reverse t↔J4 W t:=λt=>⟨λ⟨q,hq,h⟩=>⟨q,Ō.mp hq,h⟩,λ⟨q,hq,h⟩=>⟨q,Ō.mpr hq,h⟩⟩
 have nd:p.Nodup:=ord.imp λ{a c} z e=>by subst e;exact ò _ z
 refine⟨(List.perm_ext_iff_of_nodup nd pz.nd).mpr λc=>(mem c).trans ((UX hR.sep (GY nT e hR)).trans (Iff.trans ⟨λ⟨w,hw,q⟩=>⟨w,Ō.mpr hw,q⟩,λ⟨w,hw,q⟩=>⟨w,Ō.mp hw,q⟩⟩ (pz.mem c).symm)),?_⟩
 obtain⟨L,Lp,Lo⟩:=QZ (λl hl=>(pz.lok l hl).1) pz.sep
 have sL:Hd nw.length 0 L:=QY (λl hl=>by
  obtain⟨q1,w,hw,_,q3⟩:=pz.lok l (Lp.mem_iff.mp hl)
  exact⟨q1,zP q3 (hR.sep.mem w (Ō.mp hw)).2.2⟩) (λ_ _=>Õ _) Lo
 have wL :∀t,J4 L t↔GR Ts nw fr u t:=λt=>by
  rw[HS e nT,<-hR.win,<-rev,<-pz.cov]
  exact⟨λ⟨q,hq,h⟩=>⟨q,Lp.mem_iff.mp hq,h⟩,λ⟨q,hq,h⟩=>⟨q,Lp.mem_iff.mpr hq,h⟩⟩
 refine⟨L,Lp,sL.srt,Í (zP (Ī (sL.len (Õ _)).1) hm) (by decide),?_⟩
 have blk :∀c∈p,∀d,d<c.2.2->∃x,nw[c.1+d]?=some x/\T[c.2.1+d]?=some x:=λc hc d hd=>by
  obtain⟨_,q⟩:=(GY nT e hR _ _).mp (((mem c).mp hc).all d hd)
  obtain⟨x,q1,q2⟩:=(Gw nT _ _).mp q
  exact⟨x,q2,q1⟩
 obtain⟨l1,l2⟩:=G6 (W:=T.map b) (g:=λt=>b (nw.getD t 0)) (m:=nw.length) (xs:=p.map λc=>(c.2.1,c.1,c.2.2)) (N:=N) (λc hc=>by
  obtain⟨c',hc',rfl⟩:=Ğ.mp hc
  have pos:=((mem c').mp hc').pos
  obtain⟨x,e1,e2⟩:=blk c' hc' (c'.2.2-1) (aK9 pos aD8)
  have e1:=(zT.mp e1).1
  have e2:=(zT.mp e2).1
  refine⟨⟨by rw[z6];show c'.2.1+c'.2.2<=_;exact id (ql [_,_,_] 0x210a02181b0a18 (by rfl') e2),by show c'.1+c'.2.2<=_;exact id (ql [_,_,_] 0x210a02181b0a18 (by rfl') e1)⟩,λd hd=>?_⟩
  obtain⟨x,e3,e4⟩:=blk c' hc' d hd
  rw[Ð]
  show(T[c'.2.1+d]?).map b=some (b (nw.getD (c'.1+d) 0))
  rw[e4,FJ e3];rfl) hR.len
 rw[<-SP]at l1 l2
 have cj :∀t,Ep (p.map λc=>(c.2.1,c.1,c.2.2)) t↔∃i,fY Ts nw fr u t=some i:=λt=>by
  constructor
  ·rintro ⟨c,hc,q1,q2⟩
   obtain⟨c',hc',rfl⟩:=Ğ.mp hc
   have q1:c'.1<=t:=q1
   have q2:t<c'.1+c'.2.2:=q2
   have:=((mem c').mp hc').all (t-c'.1) (by rename_i u0 u1;exists[_,_,_],0x201b120a1181008,u0,u1)
   rw[ř q1]at this
   exact⟨_,this⟩
  ·rintro ⟨i,g⟩
   obtain⟨c,hc,q⟩:=pI.cov t i ((Eg.mp g).elim λx q=>(zT.mp q.1).1) g
   exact⟨_,ś hc,q⟩
 refine⟨sL,wL,l1,λt x ex hs=>?_,λt x ex hs=>?_⟩
 ·obtain⟨s1,s2⟩:=(HS e nT).mp hs
  rw[(l2 t).2 λz=>((cj t).mp z).elim λi g=>by rw[((GY nT e hR t i).mp g).2]at s2;exact nomatch s2]
  exact hR.new t x ex s1
 ·by_cases c:Ep (p.map λc=>(c.2.1,c.1,c.2.2)) t
  ·rw[(l2 t).1 c,FJ ex]
  ·rw[(l2 t).2 c]
   refine hR.old t x ex λs1=>hs ((HS e nT).mpr ⟨s1,D9 λi g=>c ((cj t).mpr ⟨i,(GY nT e hR t i).mpr ⟨(hR.win t).mpr s1,g⟩⟩)⟩)
def UC(hR:gZ Ts nw fr b now 0 W N)(hb :∀x,(∀T∈Ts,x∉T)->b x=now):N=nw.map b:=by
 refine List.ext_getElem? λt=>?_
 rw[Ð]
 cases e:nw[t]? with
 | none=>exact Ā (by rw[hR.len];exact ſ.mp e)
 | some x=>
  by_cases s:GR Ts nw fr 0 t
  ·have s':=s
   obtain⟨y,h1,_,h3⟩:=s'
   cases zR (e.symm.trans h1)
   rw[hR.new t x e s]
   exact congrArg some (hb x λT hT hx=>(Ĝ hT).elim λv hv=>h3 v T (Õ v) hv hx).symm
  ·exact hR.old t x e s
end
section
variable{Ts:List (List Int)}{old nw dr:List Int}{b b':Int->Int}{bs:List Ab}
abbrev Hi(A B:List Int)(bs:List Ab):List Ab:=FR (0,0,0) bs++[(A.length,B.length,0)]
theorem RC{n m:Nat} :∀{bl:List Ab} {i j:Nat},NQ n m i j bl->(i<=n/\j<=m)/\∀c∈bl,c.1+c.2.2<=n/\c.2.1+c.2.2<=m
 | [],i,j,h=>⟨⟨Â h.1,Â h.2⟩,λc hc=>(nomatch hc)⟩
 | d::r,i,j,⟨h1,h2,h3⟩=>by
  obtain⟨⟨q1,q2⟩,q3⟩:=RC h3
  refine⟨⟨zP h1.1 (zP (Æ ..) q1),zP h1.2 (zP (Æ ..) q2)⟩,λc hc=>?_⟩
  rcases È.mp hc with rfl | hc
  ·exact⟨q1,q2⟩
  ·exact q3 c hc
def NN{x:Int}:x∈SJ old dr nw↔x∈nw/\(x∉old\/x∈dr):=by
 unfold SJ
 rw[List.mem_flatMap]
 have key :∀y,(x∈(bif !decide (y∈old)||decide (y∈dr)then [y]else []))↔x=y/\(y∉old\/y∈dr):=λy=>by
  by_cases h1:y∈old
  ·by_cases h2:y∈dr
   ·rw[decide_eq_true h1,decide_eq_true h2]
    exact z9.trans ⟨λe=>⟨e,.inr h2⟩,And.left⟩
   ·rw[decide_eq_true h1,decide_eq_false h2]
    exact⟨λz=>(nomatch z),λz=>z.2.elim (λq=>absurd h1 q) λq=>absurd q h2⟩
  ·rw[decide_eq_false h1]
   exact z9.trans ⟨λe=>⟨e,.inl h1⟩,And.left⟩
 constructor
 ·rintro ⟨y,hy,q⟩
  obtain⟨rfl,q⟩:=(key y).mp q
  exact⟨hy,q⟩
 ·rintro ⟨h1,h2⟩
  exact⟨x,h1,(key x).mpr ⟨rfl,h2⟩⟩
def SY{n m t:Nat}:Ep (FR (0,0,0) bs++[(n,m,0)]) t↔∃i,VC bs i t:=by
 have a:Ep (FR (0,0,0) bs++[(n,m,0)]) t↔∃i,VC (FR (0,0,0) bs) i t:=by
  constructor
  ·rintro ⟨c,hc,q1,q2⟩
   rcases Á.mp hc with hc | hc
   ·exact⟨c.1+(t-c.2.1),c,hc,t-c.2.1,by(exists[_,_,_],0x201b120a1181008,q1,q2),rfl,(ř q1).symm⟩
   ·rw[z9.mp hc]at q1 q2
    exact absurd (Í q1 q2) (ò _)
  ·rintro ⟨i,c,hc,d,h1,_,h3⟩
   exact⟨c,Á.mpr (.inl hc),h3▸Æ ..,h3▸aE8 h1 _⟩
 rw[a]
 exact exists_congr λi=>Eo.trans (CO.trans ⟨λh=>h.elim (λ⟨d,hd,_⟩=>absurd hd (ø d)) id,.inr⟩)
def WH(hT :∀T∈Ts,T.Nodup)(ho:old∈Ts)(lo:old.length<=16)(ln:nw.length<=16)(hs:V1 old nw dr)(hb :∀T∈Ts,∀x∈T,b' x=b x)(hb2 :∀x,(∀T∈Ts,x∉T)->b' x=(Ts.length:Int))(hr:Ej old nw 0 old.length 0 nw.length bs) :
  (bs.length<64/\NQ old.length nw.length 0 0 (Hi old nw bs))/\(((DC 0 (Hi old nw bs)).length<=1000/\∀p∈DC 0 (Hi old nw bs),p.1<=p.2/\p.2<=nw.length)/\(DC 0 (Hi old nw bs)).flatMap (FV nw)=SJ old dr nw)/\
  ∀P la,Pl Ts nw (SJ old dr nw) nw.length P la->∃R,f9 Ts nw b' P R/\R Ts.length (DC 0 (Hi old nw bs)) (Qr (old.map b) (nw.map λ_=>(Ts.length:Int)) (Hi old nw bs))/\∀W N,R 0 W N->N=nw.map b':=by
 have ris:=hr.ris
 have chn:NQ old.length nw.length 0 0 (Hi old nw bs):=G2 (zX 0) (zX 0) ris
 have lb:bs.length<=16:=zP (zP (Â (ĩ _).symm) (Mp ris)) ln
 have kept:=hr.kept (D:=OY old nw dr) (λ_ _ h=>h.cmn) hs.ch hs.ag
 have sep:=Mb chn
 have cj :∀t x,nw[t]?=some x->(Ep (Hi old nw bs) t↔x∉SJ old dr nw):=λt x e=>by
  rw[SY,NN]
  constructor
  ·rintro ⟨i,hi⟩ ⟨_,h2⟩
   obtain⟨y,y1,y2,y3⟩:=(kept i t).mp hi
   cases zR (e.symm.trans y2)
   exact h2.elim (λz=>z (Ò y1)) y3
  ·intro h
   have hx:x∈old:=ü λz=>h ⟨Ò e,.inl z⟩
   obtain⟨i,hi⟩:=Ĝ hx
   exact⟨i,(kept i t).mpr ⟨x,hi,e,λz=>h ⟨Ò e,.inr z⟩⟩⟩
 have win :∀t x,nw[t]?=some x->(J4 (DC 0 (Hi old nw bs)) t↔x∈SJ old dr nw):=λt x e=>by
  rw[LO chn,cj t x e]
  exact⟨λh=>Classical.not_not.mp h.2,λh=>⟨⟨Õ _,(zT.mp e).1⟩,λz=>z h⟩⟩
 refine⟨⟨Í lb (by decide),chn⟩,⟨⟨zP (Ī (sep.len (Õ _)).1) (zP ln (by decide)),λp hp=>⟨Û (sep.mem p hp).2.1,(sep.mem p hp).2.2⟩⟩,?_⟩,λP la hP=>?_⟩
 ·have e1:=M3 (S:=λt=>!decide (nw.getD t 0∈old)||decide (nw.getD t 0∈dr)) (nw:=nw) (Õ _) sep λt _ ht=>by
   have e:=zV ht
   rw[win t _ e,NN,show nw.getD t 0=nw[t]from FJ e,aI7,aC0,decide_eq_false_iff_not,decide_eq_true_iff]
   exact⟨λh=>⟨aH7 _,h⟩,aM2⟩
  rw[e1,aI4]
  exact(R5 (F:=λx=>!decide (x∈old)||decide (x∈dr)) nw.length 0 (ĩ _)).symm
 ·have sat :∀t x,nw[t]?=some x->(GR Ts nw (SJ old dr nw) Ts.length t↔x∈SJ old dr nw):=λt x e=>by
   constructor
   ·rintro ⟨y,h1,h2,_⟩
    cases zR (e.symm.trans h1)
    exact h2
   ·exact λh=>⟨x,e,h,λv T hv e'=>absurd (zT.mp e').1 (Đ.mpr hv)⟩
  obtain⟨l1,l2⟩:=G6 (W:=old.map b) (g:=λt=>b' (nw.getD t 0)) (m:=nw.length) (xs:=Hi old nw bs) (N:=nw.map λ_=>(Ts.length:Int)) (λc hc=>by
   have q:=(RC chn).2 c hc
   refine⟨⟨by rw[z6];exact q.1,q.2⟩,λd hd=>?_⟩
   rcases Á.mp hc with hc | hc
   ·have:=CO.mp (Eo.mp ⟨c,hc,d,hd,rfl,rfl⟩)
    obtain⟨x,x1,x2,_⟩:=(kept _ _).mp (this.resolve_left λ⟨d,hd,_⟩=>absurd hd (ø d))
    rw[Ð,x1,FJ x2,hb old ho x (Ò x1)];rfl
   ·rw[z9.mp hc]at hd
    exact absurd hd (ø d)) (z6 ..)
  refine⟨gZ Ts nw (SJ old dr nw) b' (Ts.length:Int),YR hT ln hP,⟨sep,λt=>?_,l1,λt x e h=>?_,λt x e h=>?_⟩,λW N h=>UC h hb2⟩
  ·constructor
   ·intro h
    have ht:=((LO chn t).mp h).1.2
    have e:=zV ht
    exact(sat t _ e).mpr ((win t _ e).mp h)
   ·intro h
    have e:=zV (Y9 h)
    exact(win t _ e).mpr ((sat t _ e).mp h)
  ·rw[(l2 t).2 λz=>((cj t x e).mp z) ((sat t x e).mp h),Ð,e];rfl
  ·rw[(l2 t).1 ((cj t x e).mpr λz=>h ((sat t x e).mpr z)),FJ e]
end
end Mine
section
open PySem PySem.W PyProof.Rows
namespace Mine
structure TI(k:Nat)(Ts:List (List Int))(ks:List Int)(made:Int):Prop where
 len:Ts.length=k+1
 hd :∃r,Ts=[0,1,2,3,4,5]::r
 txt :∀T∈Ts,T.Nodup/\T.length<=16/\∀x∈T,0<=x/\x<made
 mde:0<=made/\made<=6+4*(k:Int)
 ksn:ks.length<=6+16*k
 kst :∀x,x∈ks↔∃T∈Ts,x∈T
theorem Kq :∀{m ks:List Int},(Ez ks m).length<=ks.length+m.length
 | [],ks=>zX _
 | x::m,ks=>zP (Kq (m:=m) (ks:=Ge ks x)) (by have:=Ky (ks:=ks) (k:=x);rw[Ş];exists[_,_,_],0x182a1a20a0181a008,this)
section
variable{w:Ì}{sc ks:List Int}{made x:Int}{Ts:List (List Int)}{K:KS}{b:Int->Int}{k:Nat}
def U3(h:TI k Ts ks made)(hk:k<=68)(hK :∀σ Ts ks b made,TI (k+1) Ts ks made->A0 σ (lS sc made (TA Ts) (TA (Ts.map (ĕ b))) (bD ks b) [] [] 2)->K .next σ) :
  Yp w (.int x) (lS sc made (TA Ts) (TA (Ts.map (ĕ b))) (bD ks b) [] [] 2) K:=by
 have hlt:Ts.length-1<Ts.length:=by rw[h.len];exact Ê k
 have ho:=zV hlt
 generalize Ts[Ts.length-1]=old at ho
 have mo:=Ò ho
 obtain⟨o1,o2,o3⟩:=h.txt old mo
 have D:=Qb (x:=x) (made:=made) o1 o2 h.mde.1 o3
 obtain⟨r,er⟩:=h.hd
 generalize hd:Et x old made=nd at D
 obtain⟨nw,dr⟩:=nd
 have hm:made<=1000:=by have:=h.mde.2;exists[_],[_],0x3e890300f04c68a0380000449008,hk,this
 have inK :∀T∈Ts,∀y∈T,y∈ks:=λT hT y hy=>(h.kst y).mpr ⟨T,hT,hy⟩
 refine Ud (b':=λy=>if y∈ks then b y else(Ts.length:Int)) er rfl ho (by rw[h.len];exists[_],0x3e89180a00000449008,hk) (λT hT=>(h.txt T hT).2.1) ⟨h.mde.1,hm⟩ (by have:=h.ksn;exists[_,_],0x2710910010c68a1080000449008,hk,this) inK hd D.len (λ_=>rfl) (λbs hr=>WH (λT hT=>(h.txt T hT).1) mo o2 D.len D.shp (λT hT y hy=>if_pos (inK T hT y hy)) (λy hy=>if_neg λz=>((h.kst y).mp z).elim λT q=>hy T q.1 q.2) hr) λσ hσ=>hK σ _ _ _ _ ?_ hσ
 obtain⟨m1,m2,m3⟩:=IC (r:=nw.map (· + 1)) made
 have em:Ly (made::nw.map (· + 1))=(nw.map (· + 1)).foldl max made:=rfl
 rw[em]
 have up:(nw.map (· + 1)).foldl max made<=made+4:=by
  rcases m1 with e | e
  ·rw[e];exact qi [] [_] 0x480a03 (by rfl')
  ·obtain⟨y,hy,e⟩:=Ğ.mp e
   rw[<-e]
   have:=(D.bd y hy).2;exists[],[_,_],0x481a180a3481a048,this
 have kk:=h.mde
 refine⟨by rw[zU,h.len];rfl,⟨r++[nw],by rw[er];rfl⟩,λT hT=>?_,⟨ż kk.1 m2,by have:((k+1:Nat):Int)=(k:Int)+1:=rfl;exists[_],[_,_],0x180a0f04c68a0300f04c68a138481a038,up,kk.2⟩,zP Kq (by rw[aJ0,zU];have:=h.ksn;have:nw.length<=16:=D.len;rename_i u0;exists[_,_,_],0x181a10c68a20a08a00000109208110c68a008,u0,this),λy=>?_⟩
 ·rcases Á.mp hT with hT | hT
  ·obtain⟨t1,t2,t3⟩:=h.txt T hT
   exact⟨t1,t2,λy hy=>⟨(t3 y hy).1,aA6 (t3 y hy).2 m2⟩⟩
  ·rw[z9.mp hT]
   exact⟨D.nd,D.len,λy hy=>⟨(D.bd y hy).1,aA6 (Int.lt_succ y) (m3 _ (ś hy))⟩⟩
 ·rw[Gq,Á,h.kst]
  constructor
  ·rintro (z | ⟨T,hT,hy⟩ | hy)
   ·exact nomatch z
   ·exact⟨T,Á.mpr (.inl hT),hy⟩
   ·exact⟨nw,Á.mpr (.inr (z9.mpr rfl)),hy⟩
  ·rintro ⟨T,hT,hy⟩
   rcases Á.mp hT with hT | hT
   ·exact .inr (.inl ⟨T,hT,hy⟩)
   ·exact .inr (.inr (z9.mp hT▸hy))
noncomputable abbrev IV:List Int:=[0,0,0,0,0,0]
def UG{B:List (AE×AV)}(hB:(AV.dct B).sub nn=some (.dct B)):A0 (iS sc [("writers",.ref 2),("born",.ref 3)] [(1,.list (zs IV)),(2,.list [.ref 1]),(3,.dict B)] 4) (lS sc 6 [gB] [.lst (zs IV)] B [] [] 2):=
 .re [0,2] [(1,.lst (zs IV)),(3,.dct B)] rfl rfl rfl rfl (BQ rfl rfl rfl (A5 IV) (BQ rfl rfl rfl hB Br)) (Ay rfl (Bb _) (Ay rfl rfl (Ay rfl rfl (Ay rfl rfl (Ay rfl rfl BU))))) (E9 rfl rfl rfl (E9 rfl rfl rfl BS))
noncomputable abbrev Hr:List Int:=[0,1,2,3,4,5]
def Sc:TI 0 [Hr] (Ez [] Hr) 6:=⟨rfl,⟨[],rfl⟩,λT hT=>by
 rw[z9.mp hT]
 exact⟨by decide,by decide,by decide⟩,⟨by decide,by decide⟩,by decide,λx=>by
 rw[Gq]
 exact⟨λz=>z.elim (λz=>nomatch z) λz=>⟨Hr,z9.mpr rfl,z⟩,λ⟨T,hT,hx⟩=>.inr (z9.mp hT▸hx)⟩⟩
def Q6(hl:sc.length<=63)(h :∀σ,A0 σ (lS sc 6 (TA [Hr]) (TA ([Hr].map (ĕ λ_=>0))) (bD (Ez [] Hr) λ_=>0) [] [] 2)->D1 (zs [49,8,46,51,53]++zs sc) (Yp w) (wL (AF w) (AI w 29) []) σ (kx (AF w) (AI w 30) (FE.drop 3) K)) :
  wL (AF w) (AI w 30) FE (A4 ((["script"]:List Str).zip [.lst (zs sc)]) []) K:=by
 have i0:BH 0:=Jx (k:=0) (by decide)
 refine l0.mpr ⟨rfl,l1.mpr (yE.mpr ⟨i0,_,GG (i:=0) rfl,CJ Hr,?_⟩)⟩
 show Aj (.list []) (zs Hr) (Ce (AF w) 26 Ap cI 1) (Ah cI.2.2) (iS sc [] [] 1) _
 rw[pZ.1]
 refine Db (λ_=>[0]) (λρ=>ρ=([]:List (Str×AV))\/∃v,ρ=([("line",v)]:List (Str×AV))) (.inl rfl) (λ_ _ _ _=>trivial) (by decide) (λ_=>zX _) (λy _ ρ L K hI hL hK=>?_) ?_
 ·have go:=hK _ (.inr ⟨.int y,rfl⟩)
  exact hI.elim (λe=>e▸zE.mpr (CD hL go)) λq=>q.elim λu e=>e▸sE.mpr (CD hL go)
 ·show CU w 28 (vI.getD 1 DN) (iS sc [] [(1,.list (zs IV)),(2,.list [.ref 1])] 3) _
  refine rM.mpr ⟨i0,_,GG (i:=0) rfl,CJ Hr,?_⟩
  show Aj (.dict []) (zs Hr) (VX (AF w) 27 Ap dI 3) (Ah dI.2.2) (iS sc [] [(1,.list (zs IV)),(2,.list [.ref 1])] 3) _
  rw[pZ.2]
  refine Ks (λ_=>0) (λρ=>ρ=([]:List (Str×AV))\/∃v,ρ=([("line",v)]:List (Str×AV))) (.inl rfl) (λ_ _ _ _=>trivial) (by decide) (λy _ ρ D K hI hD hK=>?_) ?_
  ·have go:=hK _ (.inr ⟨.int y,rfl⟩)
   rcases hI with rfl | ⟨v,rfl⟩
   ·exact wW.mpr (Lg hD go)
   ·exact vM.mpr (Lg hD go)
  ·refine xW.mpr ⟨rfl,l2.mpr ⟨by rw[A7];exact zP (ė hl 5) (by decide),by rw[BM];exact CJ _,?_⟩⟩
   exact h _ (UG I6)
end
def Zb:Tr:=λas os Q=>∃sc:List Int,as=[.lst (zs sc)]/\os=[]/\sc.length<=63/\Q (.bool true) []
section
variable{w:Ì}{d:Nat}
def nK:O3 (lF w) (H1 w.params) (AF w) (d+6) aN Ou aM NM aI:=
 U2 (λf t e=>BL (b:=Ù f 251) (x:=some MY) e (λq e=>Å q▸zR e▸UP (d:=d+5)) λe=>BL (b:=Ù f 256) (x:=some MQ) e (λq e=>Å q▸zR e▸Oe (d:=d+2)) λe=>
  BL (b:=Ù f 261) (x:=some NH) e (λq e=>Å q▸zR e▸Ql (d:=d+4)) λe=>BL (b:=Ù f 174) (x:=some KW) e (λq e=>Å q▸zR e▸N1 (d:=d+5)) λe=>
  BL (b:=Ù f 181) (x:=some MN) e (λq e=>Å q▸zR e▸M4 (d:=d+4)) λe=>BL (b:=Ù f 210) (x:=some Mn) (y:=none) e (λq e=>Å q▸zR e▸Xj (d:=d)) AA)
  (λe=>nomatch e) (λe=>nomatch e) (λ_ e=>zR e▸Ul (d:=d+1))
def Y7:BW (lF w) (H1 w.params) (d+8) (.ref 266) Zb:=
 Ox (nK (d:=d)) (RQ _).2.2 (RQ _).1 (RQ _).2.1 (ps:=["script"]) (fuel:=30) (by decide) (by rfl') (NG λa=>by rfl') λas os Q hh=>by
  obtain⟨sc,ea,eo,hl,hq⟩:=hh
  subst ea;subst eo
  refine⟨⟨rfl,Bo⟩,Q6 hl λσ hσ=>⟨λk σ=>∃Ts ks b made,TI k Ts ks made/\σ=lS sc made (TA Ts) (TA (Ts.map (ĕ b))) (bD ks b) [] [] 2,⟨_,hσ,_,_,_,_,Sc,rfl⟩,λk σ v hv hI=>?_,λσ hI=>?_⟩⟩
  ·obtain⟨Ts,ks,b,made,hT,rfl⟩:=hI
   rw[BM]at hv
   have hk:=(zT.mp hv).1
   obtain⟨x,_,rfl⟩:=QM hv
   have:([49,8,46,51,53]++sc:List Int).length=5+sc.length:=by rw[zU];rfl
   refine U3 hT (by rw[A7]at hk;exists[_,_,_],0x44910058a228211800003f9008,hl,hk,this) λσ Ts ks b made hT' hw=>⟨_,hw,Ts,ks,b,made,hT',rfl⟩
  ·obtain⟨Ts,ks,b,made,hT,rfl⟩:=hI
   rw[CM,BE,l9]
   exact Mm (fl:=.ret _) rfl rfl hq
end
theorem IU{L:Cd}{G:Gh}{n:Nat}{P:Ó}{h:æ} :∀{ns:List Int} {vs:List Value},WellAll P h vs (ns.map aK4)->VAll L G h n (zs ns) vs
 | [],_,r=>by cases r;exact rfl
 | i::ns,_,r=>by
  cases r with
  | cons a b=>
   cases a with
   | int i t=>exact⟨_,_,rfl,beq_self_eq_true i,IU b⟩
def Qg{R:WRecords}(xs:List WData):aE5 R xs .int=true->∃ns:List Int,xs=ns.map aK4:=
 Ä (λ_=>⟨[],rfl⟩) (λx r ih h=>
  (ih (ê.mp (show(aL1 R x .int&&aE5 R r .int)=true from h)).2).elim λns e=>by
   have h1:aL1 R x .int=true:=(ê.mp (show(aL1 R x .int&&aE5 R r .int)=true from h)).1
   cases x with
   | int i=>exact⟨i::ns,congrArg _ e⟩
   | _=>exact ŝ (h1:false=true)) xs
def Jk{R:WRecords}{d:WData}(h:aL1 R d (.list .int)=true) :∃ns:List Int,d = .list (ns.map aK4):=by
 cases d with
 | list xs=>
  exact(Qg xs ((Bool.or_false _).symm.trans (h:(aE5 R xs .int||false)=true))).imp λns e=>congrArg _ e
 | _=>exact ŝ (h:false=true)
noncomputable def pV:Gh:=⟨λ_=>none,λ_=>0,λ_=>0⟩
def lY:WalkO qF looseF (XL qF []) YF gL.row.toRowW dF.1 dF.2 λf vs=>PySem.call f vs:=by
 intro w s₀ s₁ mg mb G Y a o pm cd doc dV kV ho hd hcd hD hmg hg args vals as hpre hlay hrd hwl hlo
 obtain⟨hsh,hcond⟩:=pre_splitW hpre
 obtain⟨d,r,rfl,h1,h2⟩:=hasAllW_cons (es:=[]) hsh
 obtain rfl:=hasAllW_nil h2
 obtain⟨ns,rfl⟩:=Jk h1
 have hlen:ns.length<=63:=by
  have hx:(ns.map aK4).length=ns.length:=z6 ..
  clear hpre hsh
  have hc:WTm.holds gL.row.records (.and (.not (.lt (.lit (.int 63)) (.len (.arg 0)))) (.lit (.bool true))) {args:=[.list (ns.map aK4)]}=true:=hcond
  w_cond hc
  rename_i u0 _;exists[_,_],0x3f91000f00003f94981028,hx,u0
 have hN:(H1 w.params).Ns mainGlobals ((H1 w.params).nsMap mainGlobals):=.of_isNs (g6 _)
 have e1:(H1 w.params).nsMap mainGlobals "law" = some (.ref 266):=by rfl'
 have e2:=(hN.keeps Y).agree G.T.g "law"
 have e3:dF.1.name=("law":Str):=by rfl'
 rw[e3]at hmg
 rw[e1,hmg]at e2
 cases e2
 cases hwl with
 | cons hv hn=>
 cases hn
 cases hv with
 | list hl hI=>
 rename_i l us
 have no :∀a,¬ pV.own a:=λa z=>z rfl
 refine enter_call (ņ (Y7 (w:=w) (d:=0) (A:=callerA) (s:=s₁) (G:=pV) (as:=[.lst (zs ns)]) (os:=[]) (Q:=λr _=>r = .bool true) (vas:=[.ref l]) ⟨rfl,by decide +kernel,by decide +kernel⟩ ⟨λa h=>(no a h).elim,λa h=>(no a h).elim,Y,?_⟩ (λ_ _=>AA) ?_ ⟨ns,rfl,rfl,hlen,rfl⟩).2 λres s' hr=>?_)
 ·have ho':(H1 w.params).get? 266=some ((HP w.params).getD 266 default):=by rfl'
  have:=ğ (Y _ _ ho')
  show(HP w.params).length<=_
  rw[dD]
  exact this
 ·exact⟨_,_,rfl,⟨l,us,rfl,⟨(0,none),hl⟩,no l,IU hI⟩,rfl⟩
 ·obtain⟨v,rfl,hb⟩:=hr
  cases hb with
  | mk r os' hq hrs hol hoc hk hsz hgs hos hO hv=>
  subst hq
  obtain rfl:v = .bool true:=hv
  refine GoodW.toG ⟨.inl ⟨_,.bool true,[],rfl,λcls=>rfl,.bool true,?_,λ_=>⟨aJ7,λa h=>absurd h (by simp)⟩⟩,λb o e=>hk b o e λz=>no b (Gh.mt_own z),hos,hgs.trans hg⟩
  wrow_post
def all_holds:PySem.Challenge.rw_dm0059_06.Holds:=hd lY
end Mine
end
end
set_option maxRecDepth 100000 in
set_option maxHeartbeats 8000000 in
theorem PySem.Challenge.cw_dm0059_06_holds : PySem.Challenge.rw_dm0059_06.Holds := by
 exact Mine.all_holds
