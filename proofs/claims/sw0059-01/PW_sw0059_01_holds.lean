import PyProof.Rows.All
import Wide.All
import OpenK.AllK
import Wide.FinOn
import Lean
import PySem.Challenge.RW_sw0059_01
set_option Elab.async false
set_option maxRecDepth 100000
set_option linter.all false
set_option genSizeOf false
set_option genInjectivity false
namespace Mine
noncomputable section
noncomputable def ub:Nat→Nat→List Nat
 | 0,_=>[]
 | k+1,n=>(n%256)::ub k (n / 256)
section
open PySem PySem.W PySem.W.X
noncomputable abbrev D:Code→Sem PySem.Fin:=PySem.W.Fast.tw11892475500146522536 PySem.W.Fast.tw14364793385576792824
theorem hH:denote table=D:=by
 rw[PySem.table_eq_tree,PySem.W.Fast.te14364793385576792824,PySem.W.Fast.te11892475500146522536]
inductive TT where
 | nil
 | node (v:Option Obj) (l r:TT)
namespace TT
noncomputable def get:TT→Nat→Option Obj
 | .nil,_=>none
 | .node v l r,i=>match Nat.beq i 0 with
  | true=>v
  | false=>match Nat.beq (i%2) 1 with
   | true=>l.get (i / 2)
   | false=>r.get (i / 2-1)
noncomputable def put:Nat→TT→Nat→Option Obj→TT
 | 0,t,_,_=>t
 | n+1,.nil,i,o=>match Nat.beq i 0 with
  | true=>.node o .nil .nil
  | false=>match Nat.beq (i%2) 1 with
   | true=>.node none (put n .nil (i / 2) o) .nil
   | false=>.node none .nil (put n .nil (i / 2-1) o)
 | n+1,.node v l r,i,o=>match Nat.beq i 0 with
  | true=>.node o l r
  | false=>match Nat.beq (i%2) 1 with
   | true=>.node v (put n l (i / 2) o) r
   | false=>.node v l (put n r (i / 2-1) o)
theorem mK(a b:Nat):Nat.beq a b=decide (a=b):=BT.beq_eq a b
theorem get_node(v:Option Obj)(l r:TT)(i:Nat):(node v l r).get i=if i=0 then v else if i%2=1 then l.get (i / 2)else r.get (i / 2-1):=by
 show(match Nat.beq i 0 with | true=>v | false=>match Nat.beq (i%2) 1 with | true=>l.get (i / 2) | false=>r.get (i / 2-1))=_
 rw[mK,mK]
 by_cases h:i=0
 ·simp[h]
 ·by_cases q:i%2=1<;>simp[h,q]
theorem lD(i:Nat):nil.get i=none:=rfl
theorem get_put:∀(n:Nat) (t:TT) (i:Nat) (o:Option Obj),i+1<2^n→∀j,(put n t i o).get j=if j=i then o else t.get j
 | 0,_,_,_,h,_=>by simp at h
 | n+1,.nil,i,o,h,j=>by
  unfold put
  rw[mK,mK]
  rw[Nat.pow_succ]at h
  by_cases h0:i=0
  ·subst h0
   simp only[decide_true]
   rw[get_node]
   by_cases hj:j=0
   ·simp[hj]
   ·rw[if_neg hj,if_neg hj];split<;>rfl
  ·rw[decide_eq_false h0]
   by_cases p:i%2=1
   ·rw[decide_eq_true p]
    rw[get_node]
    by_cases hj:j=0
    ·have:j≠i:=λe=>h0 (e▸hj)
     rw[if_pos hj,if_neg this,lD]
    ·rw[if_neg hj]
     by_cases pj:j%2=1
     ·rw[if_pos pj,get_put n .nil (i / 2) o (by lia)]
      by_cases e:j=i
      ·rw[if_pos (by lia),if_pos e]
      ·rw[if_neg (by lia),if_neg e];rfl
     ·rw[if_neg pj,if_neg (by lia)];rfl
   ·rw[decide_eq_false p]
    rw[get_node]
    by_cases hj:j=0
    ·have:j≠i:=λe=>h0 (e▸hj)
     rw[if_pos hj,if_neg this,lD]
    ·rw[if_neg hj]
     by_cases pj:j%2=1
     ·rw[if_pos pj,if_neg (by lia)];rfl
     ·rw[if_neg pj,get_put n .nil (i / 2-1) o (by lia)]
      by_cases e:j=i
      ·rw[if_pos (by lia),if_pos e]
      ·rw[if_neg (by lia),if_neg e];rfl
 | n+1,.node v l r,i,o,h,j=>by
  unfold put
  rw[mK,mK]
  rw[Nat.pow_succ]at h
  by_cases h0:i=0
  ·subst h0
   simp only[decide_true]
   rw[get_node,get_node]
   by_cases hj:j=0
   ·simp[hj]
   ·rw[if_neg hj,if_neg hj,if_neg hj]
  ·rw[decide_eq_false h0]
   by_cases p:i%2=1
   ·rw[decide_eq_true p]
    rw[get_node,get_node]
    by_cases hj:j=0
    ·have:j≠i:=λe=>h0 (e▸hj)
     rw[if_pos hj,if_neg this,if_pos hj]
    ·rw[if_neg hj,if_neg hj]
     by_cases pj:j%2=1
     ·rw[if_pos pj,if_pos pj,get_put n l (i / 2) o (by lia)]
      by_cases e:j=i
      ·rw[if_pos (by lia),if_pos e]
      ·rw[if_neg (by lia),if_neg e]
     ·rw[if_neg pj,if_neg pj,if_neg (by lia)]
   ·rw[decide_eq_false p]
    rw[get_node,get_node]
    by_cases hj:j=0
    ·have:j≠i:=λe=>h0 (e▸hj)
     rw[if_pos hj,if_neg this,if_pos hj]
    ·rw[if_neg hj,if_neg hj]
     by_cases pj:j%2=1
     ·rw[if_pos pj,if_pos pj,if_neg (by lia)]
     ·rw[if_neg pj,if_neg pj,get_put n r (i / 2-1) o (by lia)]
      by_cases e:j=i
      ·rw[if_pos (by lia),if_pos e]
      ·rw[if_neg (by lia),if_neg e]
end TT
noncomputable def look(Tb:KT)(T:TT)(j:Nat):Option Obj:=match Nat.blt j 164 with
 | true=>Tb.get j
 | false=>T.get (j-164)
noncomputable def adr(ρ:Nat→Addr)(j:Nat):Addr:=match Nat.blt j 164 with
 | true=>j
 | false=>ρ (j-164)
structure oZ where
 r:Result
 ups:List (Nat × Obj):=[]
 news:List (Option Obj):=[]
noncomputable abbrev GP:=Array GenState→Prop
noncomputable abbrev GQ:=(Nat→Addr)→GP
structure Nm where
 r:Nat→Addr
 t:Nat→Tok
 z:Nat→Value
noncomputable abbrev FT:=(Nat→Addr)→(Nat→Tok)→(Nat→Value)→oZ
inductive Orc where
 | id (j:Nat)
 | fn (foot:List Nat) (nn nt nz:Nat) (G':Nm→GQ) (F:Nm→FT)
 | tl
 | nat
structure ac where
 c:Code
 pre:List (Addr × Option Obj)
 G:GP
 G':GQ
 nn:Nat
 nt:Nat
 nz:Nat
 F:FT
inductive uI where
 | ret (r:Result)
 | tail (c:Code)
structure Out where
 e:uI
 T:TT
 m:Nat
 i:Nat
 z:Nat
 G:GP
 ad:List (Addr × Addr)
 sd:List ac
noncomputable def oAd(p:Addr × Addr):Option Out→Option Out
 | none=>none
 | some o=>some ⟨o.e,o.T,o.m,o.i,o.z,o.G,p::o.ad,o.sd⟩
noncomputable def oSd(s:ac):Option Out→Option Out
 | none=>none
 | some o=>some ⟨o.e,o.T,o.m,o.i,o.z,o.G,o.ad,s::o.sd⟩
noncomputable def nEq:List Nat→List Nat→Bool
 | [],[]=>true
 | [],_::_=>false
 | _::_,[]=>false
 | a::x,b::y=>match Nat.beq a b with
  | true=>nEq x y
  | false=>false
theorem i9:∀{x y:List Nat},nEq x y=true→x=y
 | [],[],_=>rfl
 | [],_::_,h=>by cases h
 | _::_,[],h=>by cases h
 | a::x,b::y,h=>by
  unfold nEq at h
  cases q:Nat.beq a b with
  | true=>rw[q]at h;rw[Nat.eq_of_beq_eq_true q,i9 h]
  | false=>rw[q]at h;cases h
noncomputable def okB(l:List UInt8):Bool:=match l with
 | a::b::c::d::_=>match Nat.beq a.toNat 108,Nat.beq b.toNat 105,Nat.beq c.toNat 102 with
  | true,true,true=>false
  | _,_,_=>match Nat.beq a.toNat 99,Nat.beq b.toNat 108,Nat.beq c.toNat 97,Nat.beq d.toNat 105 with
   | true,true,true,true=>false
   | _,_,_,_=>true
 | _=>true
noncomputable def gC(s:String):Bool:=okB s.toByteArray.data.toList
theorem jQ{s:String}(h:gC s=true):s≠"claim.caller":=by
 rintro rfl
 revert h
 decide+kernel
theorem kM{s:String}(h:gC s=true):s.startsWith "lifetime."=false:=by
 cases q:s.startsWith "lifetime." with
 | false=>rfl
 | true=>
  exfalso
  obtain⟨t,ht⟩:=String.startsWith_string_iff.mp q
  have e:s="lifetime."++String.ofList t:=by
   rw[←String.toList_inj,String.toList_append]
   refine ht.symm.trans ?_
   rw[show(String.ofList t).toList=t from String.toList_ofList]
  subst e
  have:("lifetime."++String.ofList t).toByteArray.data.toList=(108::105::102::101::[116,105,109,101,46])++(String.ofList t).toByteArray.data.toList:=by
   rw[String.toByteArray_append,ByteArray.data_append,Array.toList_append]
   rw[show("lifetime.".toByteArray.data.toList)=[108,105,102,101,116,105,109,101,46]by decide+kernel]
   try rfl
  unfold gC at h
  rw[this]at h
  cases h
noncomputable def qk:Code→Bool
 | .builtin id _=>gC id
 | _=>true
noncomputable def wc:Code→Nat
 | .builtin id _=>match gC id with
  | true=>5
  | false=>400
 | _=>1
noncomputable def wB:Kont→Nat
 | .ret c _ _ κ=>wc c+wB κ
 | _=>0
theorem gk{c:Code}(h:qk c=true):c.quiet=true:=by
 cases c with
 | builtin id args=>exact Code.quiet_builtin args (kM h)
 | _=>rfl
theorem ii(c:Code):c.frames≤3:=by
 unfold Code.frames
 split<;>first | lia | (split<;>lia)
theorem kU(c:Code):(if c.isFrame then 1 else 0)≤1:=by split<;>lia
theorem eL{c:Code}(h:∀id args,c≠.builtin id args):c.frames≤1:=by
 unfold Code.frames
 split<;>first | exact absurd rfl (h _ _) | exact kU c
theorem uT{id:String}(args:Args)(h:gC id=true):wc (.builtin id args)=5:=by
 show(match gC id with | true=>5 | false=>400)=5
 rw[h]
theorem uU{id:String}(args:Args)(h:gC id=false):wc (.builtin id args)=400:=by
 show(match gC id with | true=>5 | false=>400)=400
 rw[h]
theorem k5(b:Bool)(n:Nat):(if b then n else 0)≤n:=by cases b<;>simp
theorem ix{c:Code}(h:∀id args,c≠.builtin id args):c.weight≤1:=by
 have f:=eL h
 have h1:c.isCreation=false:=by
  unfold Code.isCreation
  split<;>first | exact absurd rfl (h _ _) | rfl
 have h2:c.isGuard=false:=by
  unfold Code.isGuard
  split<;>first | exact absurd rfl (h _ _) | rfl
 have h3:c.isCaller=false:=by
  unfold Code.isCaller
  split<;>first | exact absurd rfl (h _ _) | rfl
 unfold Code.weight
 rw[h1,h2,h3]
 simpa using f
theorem dC(c:Code):c.weight≤wc c:=by
 cases c with
 | builtin id args=>
  have hf:=ii (.builtin id args)
  have h1:=k5 (Code.builtin id args).isCreation 1
  have h2:=k5 (Code.builtin id args).isGuard 1
  unfold Code.weight
  cases q:gC id with
  | true=>
   have hc:(Code.builtin id args).isCaller=false:=by
    unfold Code.isCaller
    split
    ·rename_i e
     cases e
     exact absurd rfl (jQ q)
    ·rfl
   rw[uT args q,hc]
   simp only[Bool.false_eq_true,if_false]
   lia
  | false=>
   have h3:=k5 (Code.builtin id args).isCaller claimMargin
   rw[uU args q]
   have:claimMargin=300:=rfl
   lia
 | _=>exact ix (λ_ _ h=>Code.noConfusion h)
theorem ew(c:Code):c.cUnits≤10*wc c:=by
 cases c with
 | builtin id args=>
  have hf:=ii (.builtin id args)
  have e:(Code.builtin id args).cUnits=1+3*(Code.builtin id args).frames:=rfl
  rw[e]
  cases q:gC id with
  | true=>rw[uT args q];lia
  | false=>rw[uU args q];lia
 | call=>show 1≤10*1;lia
 | _=>exact Nat.le_trans (Nat.mul_le_mul_left 3 (eL (λ_ _ h=>Code.noConfusion h))) (show 3*1≤10*1 by lia)
end
section
open PySem PySem.W PySem.W.X
noncomputable def fR:List Nat:=[115,121,115,46,114,101,99,117,114,115,105,111,110,108,105,109,105,116]
noncomputable def i7(l:List DictEntry):Bool:=match l with
 | []=>true
 | e::l=>match e.key with
  | .str s _=>match nEq s.cps.toList fR with
   | true=>false
   | false=>i7 l
  | _=>false
noncomputable def gI(o:Obj):Bool:=match o.data with
 | .dict es _=>i7 es.toList
 | _=>false
theorem kO:(Str.ofString "sys.recursionlimit").cps.toList=fR:=by decide+kernel
theorem fx:∀{l:List DictEntry},i7 l=true→(∀e∈l,∃n t,e.key=.str n t)∧∀e∈l,e.key.isStr "sys.recursionlimit"=false
 | [],_=>⟨λ_ h=>(nomatch h),λ_ h=>(nomatch h)⟩
 | e::l,h=>by
  unfold i7 at h
  split at h
  ·rename_i s U hk
   split at h
   ·cases h
   ·rename_i hn
    obtain⟨a,b⟩:=fx h
    refine⟨λx hx=>?_,λx hx=>?_⟩
    ·rcases List.mem_cons.mp hx with rfl | hx
     ·exact⟨s,U,hk⟩
     ·exact a x hx
    ·rcases List.mem_cons.mp hx with rfl | hx
     ·rw[hk]
      show(s==(Str.ofString "sys.recursionlimit"))=false
      rw[beq_eq_false_iff_ne]
      rintro rfl
      rw[kO]at hn
      have:nEq fR fR=true:=by decide+kernel
      rw[this]at hn;cases hn
     ·exact b x hx
  ·cases h
theorem gG{h:Heap}{o:Obj}(ho:h.get? cStatics=some o)(hn:gI o=true):h.NoLimit:=by
 unfold gI at hn
 split at hn
 ·rename_i es ep hd
  obtain⟨a,b⟩:=fx hn
  refine⟨λx=>nsFind es x,⟨o,es,ep,ho,hd,λe he=>a e (Array.mem_toList_iff.mpr he),λ_=>rfl⟩,?_⟩
  show(es.find? _).map _=none
  rw[Option.map_eq_none_iff,Array.find?_eq_none]
  intro e he
  simpa using b e (Array.mem_toList_iff.mpr he)
 ·cases hn
noncomputable abbrev q9:FuncData→Args→Sem (List (Str × Value)):=PySem.W.Fast.tw9782568553167038054
noncomputable abbrev yE:Scope→Addr→List (Str × Addr)→List (Str × Value)→Str→Option Addr→Value→Option Env→Addr→Sem Env:=@PySem.W.Fast.tw11113344188204177931
theorem kr:@bindArgs=q9:=PySem.W.Fast.te9782568553167038054
theorem qe:@newFunctionEnv=yE:=PySem.W.Fast.te11113344188204177931
noncomputable def eH:Str:=⟨#[46,60,108,111,99,97,108,115,62,46]⟩
theorem gL:(Str.ofString ".<locals>.")=eH:=by decide+kernel
noncomputable def kY(fd:FuncData)(a:Addr)(args:Args)(b:List Stmt):Sem PySem.Fin:=
 (q9 fd args).bind λbinds=>(yE fd.scope fd.globals fd.closure binds (fd.qualname++eH) (some a) fd.code none fd.builtins).bind λenv=>
  .load cStatics none λo=>match gI o with
   | true=>.pure (.again (.func b env))
   | false=>.unsupported ""
noncomputable def fP(fd:FuncData):Option (List Stmt):=match fd.scope.isGenerator with
 | true=>none
 | false=>match fd.scope.isCoroutine with
  | true=>none
  | false=>match fd.body with
   | .stmts b=>some b
   | .expr _=>none
noncomputable def jt(fd:FuncData)(oc:Obj):Option Addr:=match fd.code with
 | .ref c=>match oc.data with
  | .fields vs=>match vs.toList with
   | _::v::_=>match v with
    | .str q _=>match nEq q.cps.toList fd.qualname.cps.toList with
     | true=>some c
     | false=>none
    | _=>none
   | _=>none
  | _=>none
 | _=>none
noncomputable def aF:List Nat→Bool
 | []=>true
 | a::l=>match l.any λb=>Nat.beq a b with
  | true=>false
  | false=>aF l
noncomputable def dh(foot:List Nat):List (Nat × Obj)→TT→Option TT
 | [],T=>some T
 | p::l,T=>match foot[p.1]? with
  | some j=>match T.get j with
   | some _=>match dh foot l T with
    | some T'=>some (T'.put 24 j (some p.2))
    | none=>none
   | none=>none
  | none=>none
noncomputable def aJ:List (Option Obj)→Nat→TT→TT
 | [],_,T=>T
 | v::l,m,T=>aJ l (m+1) (T.put 24 m v)
noncomputable def cut(n:Nat)(f:Nat→Nat)(q:Nat):Nat:=match Nat.blt q n with
 | true=>f q
 | false=>0
noncomputable def aq(n:Nat)(f:Nat→Value)(q:Nat):Value:=match Nat.blt q n with
 | true=>f q
 | false=>.none
noncomputable abbrev Rst:=TT→Nat→Nat→Nat→List Orc→GP→Option Out
noncomputable abbrev fB:=Code→Kont→Sem PySem.Fin→Rst
noncomputable def dS(Tb:KT)(ρ:Nat→Addr)(ih:fB)(c':Code)(κ:Kont):Rst:=match c' with
 | .call f args=>match f with
  | .ref a=>λT m i z ZC G=>match ZC with
   | x::orc1=>match x with
    | .id j=>match look Tb T j with
     | some o=>match o.data with
      | .func fd=>match fP fd with
       | some b=>match Nat.ble (wB κ) 50 with
        | true=>match orc1 with
         | y::orc2=>match y with
          | .id jc=>match look Tb T jc with
           | some oc=>match jt fd oc with
            | some cd=>oAd (a,adr ρ j) (oAd (cd,adr ρ jc) (ih c' κ (kY fd a args b) T m i z orc2 G))
            | none=>none
           | none=>none
          | _=>none
         | []=>none
        | false=>none
       | none=>none
      | _=>ih c' κ (D c') T m i z ZC G
     | none=>none
    | _=>none
   | []=>none
  | _=>ih c' κ (D c')
 | _=>ih c' κ (D c')
noncomputable def tm(ih:fB)(r:Result)(κ:Kont):Rst:=match κ with
 | .base=>λT m i z _ G=>some ⟨.ret r,T,m,i,z,G,[],[]⟩
 | .ret c _ k κ=>ih c κ (k r)
 | _=>λ_ _ _ _ _ _=>none
noncomputable def ey(Tb:KT)(g:Setting)(ρ:Nat→Addr)(τ:Nat→Tok)(ζ:Nat→Value)(ih:fB)(c:Code)(κ:Kont)(t:Sem PySem.Fin):Rst:=match t with
 | .pure fin=>match fin with
  | .done f=>tm ih (.ok f) κ
  | .again c'=>match qk c' with
   | true=>match κ with
    | .base=>λT m i z ZC G=>match ZC with
     | x::_=>match x with
      | .tl=>some ⟨.tail c',T,m,i,z,G,[],[]⟩
      | _=>dS Tb ρ ih c' κ T m i z ZC G
     | []=>dS Tb ρ ih c' κ T m i z ZC G
    | _=>dS Tb ρ ih c' κ
   | false=>λ_ _ _ _ _ _=>none
 | .raise e=>tm ih (.error e) κ
 | .rule _ k=>ih c κ (k ())
 | .at _ k=>ih c κ (k ())
 | .point _ k=>ih c κ (k ())
 | .ask k=>ih c κ (k g)
 | .load a _ k=>λT m i z ZC G=>match ZC with
  | x::ZC=>match x with
   | .id j=>match look Tb T j with
    | some o=>oAd (a,adr ρ j) (ih c κ (k o) T m i z ZC G)
    | none=>none
   | _=>none
  | []=>none
 | .loadIfAlive a k=>λT m i z ZC G=>match ZC with
  | x::ZC=>match x with
   | .id j=>match look Tb T j with
    | some o=>oAd (a,adr ρ j) (ih c κ (k (some o)) T m i z ZC G)
    | none=>none
   | _=>none
  | []=>none
 | .update a _ f k=>λT m i z ZC G=>match ZC with
  | x::ZC=>match x with
   | .id j=>match Nat.blt j 164 with
    | true=>none
    | false=>match T.get (j-164)with
     | some o=>match(f o).isFreed with
      | true=>none
      | false=>oAd (a,ρ (j-164)) (ih c κ (k ()) (T.put 24 (j-164) (some (f o))) m i z ZC G)
     | none=>none
   | _=>none
  | []=>none
 | .alloc o k=>λT m i z ZC G=>match Nat.blt m 1000000 with
  | true=>match o.isFreed with
   | true=>none
   | false=>ih c κ (k (ρ m)) (T.put 24 m (some o)) (m+1) i z ZC G
  | false=>none
 | .fresh k=>λT m i z ZC G=>ih c κ (k (τ i)) T m (i+1) z ZC G
 | .handled own k=>match own with
  | false=>ih c κ (k none)
  | true=>λ_ _ _ _ _ _=>none
 | .call c' hd _ _ k=>match hd with
  | some _=>λ_ _ _ _ _ _=>none
  | none=>λT m i z ZC G=>match ZC with
   | x::orc1=>match x with
    | .fn foot nn nt nz G' F=>match aF foot with
     | true=>match Nat.ble (wc c+wB κ) 55 with
      | true=>match Nat.blt (m+nn) 1000000 with
       | true=>
        let N:Nm:=⟨cut m ρ,cut i τ,aq z ζ⟩
        let out:=F N (cut nn λq=>ρ (m+q)) (cut nt λq=>τ (i+q)) (aq nz λq=>ζ (z+q))
        match Nat.ble out.news.length nn with
        | true=>match dh foot out.ups T with
         | some T'=>oSd ⟨c',foot.map λj=>(ρ j,T.get j),G,G' N,nn,nt,nz,F N⟩ (ih c κ (k out.r) (aJ out.news m T') (m+nn) (i+nt) (z+nz) orc1 (G' N (cut nn λq=>ρ (m+q))))
         | none=>none
        | false=>none
       | false=>none
      | false=>none
     | false=>none
    | .nat=>dS Tb ρ ih c' (.ret c none k κ) T m i z orc1 G
    | _=>dS Tb ρ ih c' (.ret c none k κ) T m i z ZC G
   | []=>dS Tb ρ ih c' (.ret c none k κ) T m i z ZC G
 | _=>λ_ _ _ _ _ _=>none
noncomputable def run(Tb:KT)(g:Setting)(ρ:Nat→Addr)(τ:Nat→Tok)(ζ:Nat→Value):Nat→fB
 | 0=>λ_ _ _ _ _ _ _ _ _=>none
 | n+1=>ey Tb g ρ τ ζ (run Tb g ρ τ ζ n)
noncomputable def iK(Tb:KT)(g:Setting)(ρ:Nat→Addr)(τ:Nat→Tok)(ζ:Nat→Value)(n:Nat)(c:Code):Rst:=dS Tb ρ (run Tb g ρ τ ζ n) c .base
noncomputable def cZ(ρ:Nat→Addr):List Orc→List (Addr × Addr)
 | []=>[]
 | .id j::l=>(adr ρ j,adr ρ j)::cZ ρ l
 | _::l=>cZ ρ l
theorem bq(ρ:Nat→Addr):∀l:List Orc,∀p∈cZ ρ l,p.1=p.2
 | [],p,h=>nomatch h
 | .id j::l,p,h=>by
  rcases List.mem_cons.mp h with rfl | h
  ·rfl
  ·exact bq ρ l p h
 | .fn .. ::l,p,h=>bq ρ l p h
 | .tl::l,p,h=>bq ρ l p h
 | .nat::l,p,h=>bq ρ l p h
end
section
open PySem PySem.W PySem.W.X PySem.Calls
structure Lv (A:Around) (lv:Nat):Prop where
 hd:A.handled=none
 dp:A.depth+60*lv≤999
 un:A.units+600*lv≤9899
noncomputable abbrev be(Tb:KT)(h:Heap):Prop:=∀j o,Tb.get j=some o→h.get? j=some o
structure cy (Tb:KT) (h:Heap) (pre:List (Addr × Option Obj)):Prop where
 get:∀p∈pre,∀o,p.2=some o→h.get? p.1=some o∧Tb.get p.1=none
 inj:∀(q q':Nat) (p p':Addr × Option Obj) (o o':Obj),pre[q]? =some p→pre[q']? =some p'→p.2=some o→p'.2=some o'→p.1=p'.1→q=q'
structure bE (Tb:KT) (h h':Heap) (pre:List (Addr × Option Obj)) (nn:Nat) (C:Nat→Addr) (out:oZ):Prop where
 base:be Tb h'
 ge:h.objs.size≤h'.objs.size
 ups:∀p∈out.ups,∀x,pre[p.1]? =some x→h'.get? x.1=some p.2
 keep:∀b o,h.get? b=some o→(∀p∈out.ups,∀x,pre[p.1]? =some x→x.1≠b)→h'.get? b=some o
 new:∀(q:Nat) (o:Obj),out.news[q]? =some (some o)→h'.get? (C q)=some o
 fresh:∀q,q<nn→h.objs.size≤C q
 ninj:∀q q',q<nn→q'<nn→C q=C q'→q=q'
noncomputable def eq(prog:Program)(w:World)(Tb:KT)(lv:Nat)(c:Code)(pre:List (Addr × Option Obj))(G:GP)(G':GQ)(nn nt nz:Nat)(F:FT):Prop:=
 ∀(A:Around) (R:Result→Shared→Prop) (h:Heap) (gs:Array GenState) (d:Drawn) (U:Nat) (os:OsState),
  Lv A lv→G gs→be Tb h→cy Tb h pre→
  (∀h' Zt ZM (C:Nat→Addr) (ZB:Nat→Tok) (O:Nat→Value),G' (cut nn C) Zt→bE Tb h h' pre nn C (F (cut nn C) (cut nt ZB) (aq nz O))→R (F (cut nn C) (cut nt ZB) (aq nz O)).r ⟨h',Zt,d,ZM,os⟩)→
  codeAny (model prog w) A c R ⟨h,gs,d,U,os⟩
structure Rp (Tb:KT) (m₀:Nat) (ρ:Nat→Addr) (h₀ h:Heap) (T:TT) (m:Nat):Prop where
 own:∀j o,T.get j=some o→j<m∧h.get? (ρ j)=some o
 inj:∀i j oi oj,T.get i=some oi→T.get j=some oj→ρ i=ρ j→i=j
 nb:∀j o,T.get j=some o→Tb.get (ρ j)=none
 base:be Tb h
 keep:∀b o,h₀.get? b=some o→(∀j o',T.get j=some o'→ρ j≠b)→h.get? b=some o
 ge:h₀.objs.size≤h.objs.size
 fr:∀j o,T.get j=some o→m₀≤j→h₀.objs.size≤ρ j
noncomputable def AgV(f f₀:Nat→Value)(m:Nat):Prop:=∀j,j<m→f j=f₀ j
noncomputable def Ag(f f₀:Nat→Nat)(m:Nat):Prop:=∀j,j<m→f j=f₀ j
section
variable{Tb:KT}{m₀:Nat}{ρ ρ₀:Nat→Addr}{h₀ h:Heap}{T:TT}{m:Nat}
theorem Rp.lt(D:Rp Tb m₀ ρ h₀ h T m){j:Nat}{o:Obj}(e:T.get j=some o):ρ j<h.objs.size:=Heap.lt_size (D.own j o e).2
theorem Rp.ag(D:Rp Tb m₀ ρ₀ h₀ h T m)(a:Ag ρ ρ₀ m):Rp Tb m₀ ρ h₀ h T m where
 own j o e:=⟨(D.own j o e).1,(a j (D.own j o e).1).symm▸(D.own j o e).2⟩
 inj i j oi oj e e' q:=D.inj i j oi oj e e' (by rw[←a i (D.own i oi e).1,←a j (D.own j oj e').1,q])
 nb j o e:=(a j (D.own j o e).1).symm▸D.nb j o e
 base:=D.base
 keep b o e q:=D.keep b o e λj o' e'=>a j (D.own j o' e').1▸q j o' e'
 ge:=D.ge
 fr j o e q:=(a j (D.own j o e).1).symm▸D.fr j o e q
theorem Rp.look(D:Rp Tb m₀ ρ h₀ h T m){j:Nat}{o:Obj}(e:look Tb T j=some o):h.get? (adr ρ j)=some o:=by
 unfold Mine.look at e
 unfold adr
 cases q:Nat.blt j 164 with
 | true=>rw[q]at e;exact D.base j o e
 | false=>rw[q]at e;exact(D.own _ _ e).2
theorem Rp.push(D:Rp Tb m₀ ρ h₀ h T m)(hm:m<1000000){o:Obj}(hf:o.isFreed=false)(e:ρ m=h.objs.size):Rp Tb m₀ ρ h₀ (h.push o) (T.put 24 m (some o)) (m+1):=by
 have hp:=TT.get_put 24 T m (some o) (by lia)
 have hno:T.get m=none:=by
  cases q:T.get m with
  | none=>rfl
  | some o'=>exact absurd (D.own m o' q).1 (Nat.lt_irrefl m)
 refine⟨λj o' q=>?_,λi j oi oj qi qj q=>?_,λj o' q=>?_,λj o' q=>Heap.get?_push_of_some _ (D.base j o' q),λb o' q k=>Heap.get?_push_of_some _ (D.keep b o' q λj o'' q'=>?_),by rw[Heap.size_push];have:=D.ge;lia,λj o' q k=>?_⟩
 ·rw[hp]at q
  by_cases hj:j=m
  ·subst hj
   rw[if_pos rfl]at q
   cases q
   exact⟨Nat.lt_succ_self _,e▸Heap.get?_push_size _ hf⟩
  ·rw[if_neg hj]at q
   exact⟨Nat.lt_succ_of_lt (D.own j o' q).1,Heap.get?_push_of_some _ (D.own j o' q).2⟩
 ·rw[hp]at qi qj
  by_cases hi:i=m
  ·by_cases hj:j=m
   ·exact hi.trans hj.symm
   ·rw[if_neg hj]at qj
    have:=D.lt qj
    rw[←q,hi,e]at this
    exact absurd this (Nat.lt_irrefl _)
  ·rw[if_neg hi]at qi
   by_cases hj:j=m
   ·have:=D.lt qi
    rw[q,hj,e]at this
    exact absurd this (Nat.lt_irrefl _)
   ·rw[if_neg hj]at qj
    exact D.inj i j oi oj qi qj q
 ·rw[hp]at q
  by_cases hj:j=m
  ·subst hj
   rw[e]
   cases z:Tb.get h.objs.size with
   | none=>rfl
   | some x=>exact absurd (Heap.lt_size (D.base _ x z)) (Nat.lt_irrefl _)
  ·rw[if_neg hj]at q
   exact D.nb j o' q
 ·refine k j o'' ?_
  rw[hp]
  have:j≠m:=λe=>by rw[e,hno]at q';cases q'
  rw[if_neg this];exact q'
 ·rw[hp]at q
  by_cases hj:j=m
  ·rw[hj,e];exact D.ge
  ·rw[if_neg hj]at q;exact D.fr j o' q k
theorem Rp.update(D:Rp Tb m₀ ρ h₀ h T m)(hm:m<1000001){j:Nat}{o:Obj}{f:Obj→Obj}(e:T.get j=some o)(hf:(f o).isFreed=false):Rp Tb m₀ ρ h₀ (h.update (ρ j) f) (T.put 24 j (some (f o))) m:=by
 have hj:=D.own j o e
 have hp:=TT.get_put 24 T j (some (f o)) (by have:=hj.1;lia)
 refine⟨λi o' q=>?_,λi i' oi oi' qi qi' q=>?_,λi o' q=>?_,λi o' q=>?_,λb o' q k=>?_,by rw[Heap.size_after_update];exact D.ge,λi o' q k=>?_⟩
 ·rw[hp]at q
  by_cases hi:i=j
  ·subst hi
   rw[if_pos rfl]at q
   cases q
   exact⟨hj.1,Heap.get?_update_self f hj.2 hf⟩
  ·rw[if_neg hi]at q
   have z:=D.own i o' q
   exact⟨z.1,(Heap.get?_update_other h f λx=>hi (D.inj i j o' o q e x.symm)).trans z.2⟩
 ·have sup:∀i o',(T.put 24 j (some (f o))).get i=some o'→∃o'',T.get i=some o'':=λi o' q=>by
   rw[hp]at q
   by_cases hi:i=j
   ·exact⟨o,hi▸e⟩
   ·rw[if_neg hi]at q;exact⟨o',q⟩
  obtain⟨_,a⟩:=sup i oi qi
  obtain⟨_,b⟩:=sup i' oi' qi'
  exact D.inj i i' _ _ a b q
 ·rw[hp]at q
  by_cases hi:i=j
  ·exact hi▸D.nb j o e
  ·rw[if_neg hi]at q;exact D.nb i o' q
 ·have:ρ j≠i:=λx=>by have:=D.nb j o e;rw[x,q]at this;cases this
  exact(Heap.get?_update_other h f this).trans (D.base i o' q)
 ·have h1:∀i o'',T.get i=some o''→ρ i≠b:=λi o'' q'=>by
   by_cases hi:i=j
   ·exact k i (f o) (by rw[hp,if_pos hi])
   ·exact k i o'' (by rw[hp,if_neg hi];exact q')
  exact(Heap.get?_update_other h f (h1 j o e)).trans (D.keep b o' q h1)
 ·rw[hp]at q
  by_cases hi:i=j
  ·exact hi▸D.fr j o e (hi▸k)
  ·rw[if_neg hi]at q;exact D.fr i o' q k
end
theorem fw{foot:List Nat}{m:Nat}(hm:m<1000001):∀{l:List (Nat × Obj)} {T T':TT},(∀j o,T.get j=some o→j<m)→dh foot l T=some T'→
  (∀j,((∃p∈l,foot[p.1]? =some j∧T'.get j=some p.2∧∃o,T.get j=some o)∨((∀p∈l,foot[p.1]? ≠some j)∧T'.get j=T.get j)))∧∀p∈l,∃j o,foot[p.1]? =some j∧T.get j=some o
 | [],T,T',_,e=>by
  cases e
  exact⟨λj=>.inr ⟨λp h=>(nomatch h),rfl⟩,λp h=>(nomatch h)⟩
 | p::l,T,T',hT,e=>by
  unfold dh at e
  split at e
  ·rename_i j hj
   split at e
   ·rename_i o ho
    split at e
    ·rename_i T₁ h₁
     cases e
     obtain⟨a,b⟩:=fw hm hT h₁
     have hp:=TT.get_put 24 T₁ j (some p.2) (by have:=hT j o ho;lia)
     refine⟨λi=>?_,λq hq=>?_⟩
     ·by_cases hi:i=j
      ·exact .inl ⟨p,.head _,hi▸hj,by rw[hp,if_pos hi],o,hi▸ho⟩
      ·rcases a i with⟨q,hq,h1,h2,h3⟩ | ⟨h1,h2⟩
       ·exact .inl ⟨q,.tail _ hq,h1,by rw[hp,if_neg hi];exact h2,h3⟩
       ·refine .inr ⟨λq hq=>?_,by rw[hp,if_neg hi];exact h2⟩
        rcases List.mem_cons.mp hq with rfl | hq
        ·rw[hj];exact λx=>hi (Option.some.inj x).symm
        ·exact h1 q hq
     ·rcases List.mem_cons.mp hq with rfl | hq
      ·exact⟨j,o,hj,ho⟩
      ·exact b q hq
    ·cases e
   ·cases e
  ·cases e
theorem cH:∀(l:List (Option Obj)) (m:Nat) (T:TT),m+l.length<1000001→∀j,(aJ l m T).get j=if j<m then T.get j else match l[j-m]? with
   | some v=>v
   | none=>T.get j
 | [],m,T,_,j=>by
  unfold aJ
  split
  ·rfl
  ·simp
 | v::l,m,T,hm,j=>by
  unfold aJ
  rw[List.length_cons]at hm
  rw[cH l (m+1) _ (by lia) j,TT.get_put 24 T m v (by lia)]
  by_cases h1:j<m
  ·rw[if_pos (by lia),if_neg (by lia),if_pos h1]
  ·rw[if_neg h1]
   by_cases h2:j=m
   ·subst h2
    rw[if_pos (by lia),if_pos rfl,Nat.sub_self];rfl
   ·rw[if_neg (by lia),if_neg h2]
    have:j-m=(j-(m+1))+1:=by lia
    rw[this,List.getElem?_cons_succ]
noncomputable def ext(ρ₀ C:Nat→Addr)(m:Nat):Nat→Addr:=λj=>if j<m then ρ₀ j else C (j-m)
variable{ρ₀ C:Nat→Addr}{m m₀:Nat}{h₀ h:Heap}{T:TT}{foot:List Nat}
theorem bA{j:Nat}(h:j<m):ext ρ₀ C m j=ρ₀ j:=if_pos h
theorem bn{q:Nat}:ext ρ₀ C m (m+q)=C q:=by
 unfold ext
 rw[if_neg (by lia),Nat.add_sub_cancel_left]
theorem Rp.post{Tb:KT}{h':Heap}{T₁:TT}{nn:Nat}{out:oZ}(D:Rp Tb m₀ ρ₀ h₀ h T m)(hm:m+nn<1000000)
  (hl:out.news.length≤nn) (hu:dh foot out.ups T=some T₁) (P:bE Tb h h' (foot.map λj=>(ρ₀ j,T.get j)) nn C out):
  Rp Tb m₀ (ext ρ₀ C m) h₀ h' (aJ out.news m T₁) (m+nn):=by
 obtain⟨ua,ub⟩:=fw (m:=m) (by lia) (λj o e=>(D.own j o e).1) hu
 have un:=cH out.news m T₁ (by lia)
 have pre_at:∀(q j:Nat),foot[q]? =some j→(foot.map λj=>(ρ₀ j,T.get j))[q]? =some (ρ₀ j,T.get j):=λq j e=>by rw[List.getElem?_map,e];rfl
 have sup1:∀j o,T₁.get j=some o→∃o',T.get j=some o':=λj o e=>by
  rcases ua j with⟨p,hp,h1,h2,h3⟩ | ⟨h1,h2⟩
  ·exact h3
  ·exact⟨o,h2▸e⟩
 have sup1':∀j o,T.get j=some o→∃o',T₁.get j=some o':=λj o e=>by
  rcases ua j with⟨p,hp,h1,h2,h3⟩ | ⟨h1,h2⟩
  ·exact⟨_,h2⟩
  ·exact⟨o,h2.trans e⟩
 have cases':∀j o,(aJ out.news m T₁).get j=some o→(j<m∧T₁.get j=some o)∨∃q,q<nn∧j=m+q∧out.news[q]? =some (some o):=λj o e=>by
  rw[un]at e
  by_cases hj:j<m
  ·rw[if_pos hj]at e;exact .inl ⟨hj,e⟩
  ·rw[if_neg hj]at e
   split at e
   ·rename_i v hv
    subst e
    have:j-m<out.news.length:=(List.getElem?_eq_some_iff.mp hv).1
    exact .inr ⟨j-m,by lia,by lia,hv⟩
   ·obtain⟨o',e'⟩:=sup1 j o e
    exact absurd (D.own j o' e').1 hj
 have oldget:∀j o,T₁.get j=some o→h'.get? (ρ₀ j)=some o:=λj o e=>by
  rcases ua j with⟨p,hp,h1,h2,h3⟩ | ⟨h1,h2⟩
  ·rw[h2]at e
   cases e
   exact P.ups p hp _ (pre_at _ _ h1)
  ·rw[h2]at e
   refine P.keep _ _ (D.own j o e).2 λp hp x hx q=>?_
   obtain⟨j',o',hj',ho'⟩:=ub p hp
   rw[pre_at _ _ hj']at hx
   cases hx
   have:=D.inj j' j o' o ho' e q
   subst this
   exact h1 p hp hj'
 refine⟨λj o e=>?_,λi j oi oj ei ej q=>?_,λj o e=>?_,P.base,λb o e k=>?_,Nat.le_trans D.ge P.ge,λj o e k=>?_⟩
 ·rcases cases' j o e with⟨hj,e1⟩ | ⟨q,hq,rfl,e1⟩
  ·exact⟨by lia,by rw[bA hj];exact oldget j o e1⟩
  ·exact⟨by lia,by rw[bn];exact P.new q o e1⟩
 ·rcases cases' i oi ei with⟨hi,ei⟩ | ⟨qi,hqi,rfl,ei⟩
  ·obtain⟨oi',ei'⟩:=sup1 i oi ei
   rcases cases' j oj ej with⟨hj,ej⟩ | ⟨qj,hqj,rfl,ej⟩
   ·obtain⟨oj',ej'⟩:=sup1 j oj ej
    rw[bA hi,bA hj]at q
    exact D.inj i j oi' oj' ei' ej' q
   ·rw[bA hi,bn]at q
    exact absurd (q▸D.lt ei') (Nat.not_lt.mpr (P.fresh qj hqj))
  ·rcases cases' j oj ej with⟨hj,ej⟩ | ⟨qj,hqj,rfl,ej⟩
   ·obtain⟨oj',ej'⟩:=sup1 j oj ej
    rw[bA hj,bn]at q
    exact absurd (q▸D.lt ej') (Nat.not_lt.mpr (P.fresh qi hqi))
   ·rw[bn,bn]at q
    rw[P.ninj qi qj hqi hqj q]
 ·rcases cases' j o e with⟨hj,e⟩ | ⟨q,hq,rfl,e⟩
  ·obtain⟨o',e'⟩:=sup1 j o e
   rw[bA hj];exact D.nb j o' e'
  ·rw[bn]
   cases z:Tb.get (C q)with
   | none=>rfl
   | some x=>
    exact absurd (Heap.lt_size (D.base _ x z)) (Nat.not_lt.mpr (P.fresh q hq))
 ·have kT:∀j o',T.get j=some o'→ρ₀ j≠b:=λj o' e'=>by
   have hj:=(D.own j o' e').1
   obtain⟨o₁,e₁⟩:=sup1' j o' e'
   have:=k j o₁ (by rw[un,if_pos hj];exact e₁)
   rwa[bA hj]at this
  refine P.keep _ _ (D.keep b o e kT) λp hp x hx=>?_
  obtain⟨j',o',hj',ho'⟩:=ub p hp
  rw[pre_at _ _ hj']at hx
  cases hx
  exact kT j' o' ho'
 ·rcases cases' j o e with⟨hj,e⟩ | ⟨q,hq,rfl,e⟩
  ·obtain⟨o',e'⟩:=sup1 j o e
   rw[bA hj];exact D.fr j o' e' k
  ·rw[bn];exact Nat.le_trans D.ge (P.fresh q hq)
theorem nm{Tb:KT}(D:Rp Tb m₀ ρ₀ h₀ h T m)(hd:aF foot=true):cy Tb h (foot.map λj=>(ρ₀ j,T.get j)):=by
 have dn:∀{l:List Nat},aF l=true→l.Nodup:=by
  intro l
  induction l with
  | nil=>exact λ_=>.nil
  | cons a l ih=>
   intro h
   unfold aF at h
   split at h
   ·cases h
   ·rename_i q
    refine List.nodup_cons.mpr ⟨λhm=>?_,ih h⟩
    have:(l.any λb=>Nat.beq a b)=true:=List.any_eq_true.mpr ⟨a,hm,Nat.beq_refl a⟩
    rw[q]at this;cases this
 refine⟨λp hp o e=>?_,λq q' p p' o o' hq Zp e e' x=>?_⟩
 ·obtain⟨j,hj,rfl⟩:=List.mem_map.mp hp
  exact⟨(D.own j o e).2,D.nb j o e⟩
 ·rw[List.getElem?_map]at hq Zp
  obtain⟨j,hj,rfl⟩:=Option.map_eq_some_iff.mp hq
  obtain⟨j',hj',rfl⟩:=Option.map_eq_some_iff.mp Zp
  have:=D.inj j j' o o' e e' x
  subst this
  obtain⟨hl,h1⟩:=List.getElem?_eq_some_iff.mp hj
  obtain⟨hl',h2⟩:=List.getElem?_eq_some_iff.mp hj'
  have a1:=List.Nodup.idxOf_getElem (dn hd) q hl
  have a2:=List.Nodup.idxOf_getElem (dn hd) q' hl'
  rw[h1]at a1
  rw[h2]at a2
  exact a1.symm.trans a2
noncomputable def KOk:Kont→Prop
 | .base=>True
 | .ret _ hd _ κ=>hd=none∧KOk κ
 | _=>False
section
variable(prog:Program)(w:World)(A₀:Around)(R:Result→Shared→Prop)
noncomputable abbrev V0:XV:={prog:=prog,w:=w,h₀:={},n₁:=0,kt:=.nil,tabs:=[],A₀:=A₀,R₀:=R,d:={},t₀:=0,os:={}}
noncomputable abbrev Ar(κ:Kont):Around:=aroundOf (V0 prog w A₀ R) true κ
noncomputable abbrev En(κ:Kont):Result→Shared→Prop:=endOf (V0 prog w A₀ R) κ
noncomputable abbrev Mn(c:Code)(κ:Kont)(t:Sem PySem.Fin)(s:Shared):Prop:=
 wpOwn (model prog w) (Ar prog w A₀ R κ) c t (postC prog w (Ar prog w A₀ R κ) (En prog w A₀ R κ)) (postE (En prog w A₀ R κ)) s
end
theorem cq(A:Around):A.mark none=A:=by
 obtain⟨a,b,c,d,e⟩:=A
 rfl
theorem lL{prog:Program}{w:World}{A₀:Around}{R:Result→Shared→Prop}(h0:A₀.handled=none):∀(κ:Kont),KOk κ→
  (Ar prog w A₀ R κ).handled=none∧(Ar prog w A₀ R κ).depth≤A₀.depth+wB κ∧(Ar prog w A₀ R κ).units≤A₀.units+10*wB κ
 | .base,_=>⟨h0,Nat.le_refl _,Nat.le_refl _⟩
 | .ret c hd k κ,h=>by
  obtain⟨rfl,h⟩:=h
  obtain⟨a,b,d⟩:=lL (prog:=prog) (w:=w) (R:=R) h0 κ h
  have e:Ar prog w A₀ R (.ret c none k κ)=((Ar prog w A₀ R κ).under c).mark none:=rfl
  rw[e,cq]
  have h1:((Ar prog w A₀ R κ).under c).depth=(Ar prog w A₀ R κ).depth+c.weight:=rfl
  have h2:((Ar prog w A₀ R κ).under c).units=(Ar prog w A₀ R κ).units+c.cUnits:=rfl
  have h3:wB (.ret c none k κ)=wc c+wB κ:=rfl
  have h4:=dC c
  have h5:=ew c
  exact⟨a,by lia,by lia⟩
 | .gen .., h=>h.elim
 | .genS .., h=>h.elim
section
variable{prog:Program}{w:World}
theorem ki{A:Around}{R:Result→Shared→Prop}{a:Addr}{args:Args}{h:Heap}{gs:Array GenState}{d:Drawn}{U:Nat}{os:OsState}{o oc:Obj}{fd:FuncData}{b:List Stmt}{cd:Addr}
  (hroom:A.depth<recursionLimit) (ho:h.get? a=some o) (hd:o.data=.func fd) (hp:fP fd=some b) (hoc:h.get? cd=some oc) (hcd:jt fd oc=some cd)
  (H:wpOwn (model prog w) A (.call (.ref a) args) (kY fd a args b) (postC prog w A R) (postE R) ⟨h,gs,d,U,os⟩):codeAny (model prog w) A (.call (.ref a) args) R ⟨h,gs,d,U,os⟩:=by
 obtain⟨hg,hco,hb⟩:fd.scope.isGenerator=false∧fd.scope.isCoroutine=false∧fd.body=.stmts b:=by
  unfold fP at hp
  split at hp
  ·cases hp
  ·split at hp
   ·cases hp
   ·split at hp
    ·rename_i e;cases hp;exact⟨‹_›,‹_›,e⟩
    ·cases hp
 obtain⟨hfc,vs,tq,hvs,hv1⟩:fd.code=.ref cd∧∃vs tq,oc.data=.fields vs∧vs[1]? =some (.str fd.qualname tq):=by
  unfold jt at hcd
  split at hcd
  ·rename_i c hc
   split at hcd
   ·rename_i vs hvs
    split at hcd
    ·rename_i v1 v2 l hl
     split at hcd
     ·rename_i q tq
      split at hcd
      ·rename_i hq
       cases hcd
       refine⟨hc,vs,tq,hvs,?_⟩
       have e1:q=fd.qualname:=by
        have:=i9 hq
        cases q;cases hfd:fd.qualname
        rw[hfd]at this
        simp only[PySem.Str.mk.injEq]
        exact Array.toList_inj.mp this
       rw[←Array.getElem?_toList,hl,←e1];rfl
      ·cases hcd
     ·cases hcd
    ·cases hcd
   ·cases hcd
  ·cases hcd
 refine y_code prog w A R _ _ ?_
 show wpOwn _ _ _ (callAny (.ref a) args) _ _ _
 simp only[callAny]
 refine wpOwn_bind (m:=load a) (wpOwn_of_wpAny (wpAny_load (s:=⟨h,gs,d,U,os⟩) ho ?_))
 simp only[hd,callFunction,hco,hg,hb,hfc]
 refine wpOwn_bind (wpOwn_of_wpAny (wpAny_field (s:=⟨h,gs,d,U,os⟩) hoc hvs hv1 ?_))
 refine wpOwn_bind (m:=Pure.pure fd.qualname) (wpOwn_of_wpAny (wpAny_pure ?_))
 intro Γ p hc hΓ
 have H:=H Γ p hc hΓ
 have hin:Γ.In (A.under (.call (.ref a) args)):=hc▸hΓ.in
 have hroom':(A.under (.call (.ref a) args)).depth<recursionLimit:=hroom
 unfold kY at H
 rw[←kr,←qe,hfc,←gL]at H
 rw[Sem.wp_bind]at H
 rw[Sem.wp_bind']
 refine Sem.wp_mono _ _ _ (λbinds p₁ s₁ H=>?_) (λ_ _ _ h=>h) _ _ H
 rw[Sem.wp_bind]at H
 rw[Sem.wp_bind']
 refine Sem.wp_mono _ _ _ (λenv p₂ s₂ H=>?_) (λ_ _ _ h=>h) _ _ H
 obtain⟨o₂,ho₂,H⟩:=H
 dsimp only at H
 cases hn:gI o₂ with
 | false=>rw[hn]at H;exact H.elim
 | true=>
  rw[hn]at H
  have H:postC prog w A R (.again (.func b env)) s₂:=H
  have z:wpAny (model prog w) (A.under (.call (.ref a) args)) (enterFrame >>= λ_=>again (.func b env)) (λa s'=>postC prog w A R a s') (λe s'=>postE R e s') s₂:=
   wpAny_bind (wpAny_enterFrame (gG ho₂ hn) hroom' (wpAny_pure H))
  exact z Γ p₂ hin
end
section
variable(prog:Program)(w:World)(Tb:KT)(lv m₀:Nat)(A₀:Around)(R:Result→Shared→Prop)(h₀:Heap)(d:Drawn)(os:OsState)
noncomputable def B4:uI→Shared→Prop
 | .ret r,s=>R r s
 | .tail c,s=>codeAny (model prog w) A₀ c R s
noncomputable def Good(ρ:Nat→Addr)(x:Option Out):Prop:=
 ∃out,x=some out∧(∀p∈out.ad,p.1=p.2)∧(∀s∈out.sd,eq prog w Tb lv s.c s.pre s.G s.G' s.nn s.nt s.nz s.F)∧
  ∀h' Zt ZM,Rp Tb m₀ ρ h₀ h' out.T out.m→out.G Zt→B4 prog w A₀ R out.e ⟨h',Zt,d,ZM,os⟩
end
section
variable{prog:Program}{w:World}{Tb:KT}{lv m₀:Nat}{A₀:Around}{R:Result→Shared→Prop}{h₀:Heap}{d:Drawn}{os:OsState}
theorem Good.no{ρ:Nat→Addr}(h:Good prog w Tb lv m₀ A₀ R h₀ d os ρ none):False:=by
 obtain⟨_,h,_⟩:=h;cases h
theorem Good.ad{ρ:Nat→Addr}{p:Addr × Addr}{x:Option Out}(h:Good prog w Tb lv m₀ A₀ R h₀ d os ρ (oAd p x)):p.1=p.2∧Good prog w Tb lv m₀ A₀ R h₀ d os ρ x:=by
 obtain⟨out,e,a,b,c⟩:=h
 cases x with
 | none=>cases e
 | some o=>
  cases e
  exact⟨a p (.head _),o,rfl,λq hq=>a q (.tail _ hq),b,c⟩
theorem Good.sd{ρ:Nat→Addr}{p:ac}{x:Option Out}(h:Good prog w Tb lv m₀ A₀ R h₀ d os ρ (oSd p x)):eq prog w Tb lv p.c p.pre p.G p.G' p.nn p.nt p.nz p.F∧Good prog w Tb lv m₀ A₀ R h₀ d os ρ x:=by
 obtain⟨out,e,a,b,c⟩:=h
 cases x with
 | none=>cases e
 | some o=>
  cases e
  exact⟨b p (.head _),o,rfl,a,λq hq=>b q (.tail _ hq),c⟩
noncomputable def oY(prog:Program)(w:World)(Tb:KT)(lv m₀:Nat)(A₀:Around)(R:Result→Shared→Prop)(h₀:Heap)(d:Drawn)(os:OsState)(ih:(Nat→Addr)→(Nat→Tok)→(Nat→Value)→fB):Prop:=
 ∀(c:Code) (κ:Kont) (t:Sem PySem.Fin) (T:TT) (m i z:Nat) (ZC:List Orc) (G:GP) (ρ₀:Nat→Addr) (τ₀:Nat→Tok) (ζ₀:Nat→Value) (h:Heap) (gs:Array GenState) (U:Nat),
  m≤1000000→KOk κ→Rp Tb m₀ ρ₀ h₀ h T m→G gs→(∀ρ τ ζ,Ag ρ ρ₀ m→Ag τ τ₀ i→AgV ζ ζ₀ z→Good prog w Tb lv m₀ A₀ R h₀ d os ρ (ih ρ τ ζ c κ t T m i z ZC G))→
  Mn prog w A₀ R c κ t ⟨h,gs,d,U,os⟩
theorem AgV.refl(f:Nat→Value)(m:Nat):AgV f f m:=λ_ _=>rfl
theorem Ag.refl(f:Nat→Nat)(m:Nat):Ag f f m:=λ_ _=>rfl
noncomputable def gR(ζ₀ O:Nat→Value)(m:Nat):Nat→Value:=λj=>if j<m then ζ₀ j else O (j-m)
theorem lF{ζ₀ O:Nat→Value}{m q:Nat}:gR ζ₀ O m (m+q)=O q:=by
 unfold gR
 rw[if_neg (by lia),Nat.add_sub_cancel_left]
theorem AgV.ext(ζ₀ O:Nat→Value)(m:Nat):AgV (gR ζ₀ O m) ζ₀ m:=λ_ hj=>if_pos hj
theorem AgV.trans{f g k:Nat→Value}{m n:Nat}(a:AgV f g n)(b:AgV g k m)(h:m≤n):AgV f k m:=λj hj=>(a j (Nat.lt_of_lt_of_le hj h)).trans (b j hj)
theorem Ag.ext(ρ₀ C:Nat→Nat)(m:Nat):Ag (ext ρ₀ C m) ρ₀ m:=λ_ hj=>bA hj
theorem Ag.trans{f g k:Nat→Nat}{m n:Nat}(a:Ag f g n)(b:Ag g k m)(h:m≤n):Ag f k m:=λj hj=>(a j (Nat.lt_of_lt_of_le hj h)).trans (b j hj)
theorem bd{ih:(Nat→Addr)→(Nat→Tok)→(Nat→Value)→fB}(hA:Lv A₀ (lv+1))(IH:oY prog w Tb lv m₀ A₀ R h₀ d os ih){c':Code}{κ:Kont}{T:TT}{m i z:Nat}{ZC:List Orc}{G:GP}{ρ₀:Nat→Addr}{τ₀:Nat→Tok}{ζ₀:Nat→Value}{h:Heap}{gs:Array GenState}{U:Nat}
  (hm:m≤1000000) (hκ:KOk κ) (D₀:Rp Tb m₀ ρ₀ h₀ h T m) (hG:G gs) (H:∀ρ τ ζ,Ag ρ ρ₀ m→Ag τ τ₀ i→AgV ζ ζ₀ z→Good prog w Tb lv m₀ A₀ R h₀ d os ρ (dS Tb ρ (ih ρ τ ζ) c' κ T m i z ZC G)):
  codeAny (model prog w) (Ar prog w A₀ R κ) c' (En prog w A₀ R κ) ⟨h,gs,d,U,os⟩:=by
 have plain:(∀ρ τ ζ,Ag ρ ρ₀ m→Ag τ τ₀ i→AgV ζ ζ₀ z→Good prog w Tb lv m₀ A₀ R h₀ d os ρ (ih ρ τ ζ c' κ (D c') T m i z ZC G))→codeAny (model prog w) (Ar prog w A₀ R κ) c' (En prog w A₀ R κ) ⟨h,gs,d,U,os⟩:=λH=>by
  refine y_code prog w _ _ _ _ ?_
  rw[hH]
  exact IH _ _ _ _ _ _ _ _ _ _ _ _ _ _ _ hm hκ D₀ hG H
 cases c' with
 | call f args=>
  cases f with
  | ref a=>
   have H0:=H ρ₀ τ₀ ζ₀ (Ag.refl _ _) (Ag.refl _ _) (AgV.refl _ _)
   cases ZC with
   | nil=>exact H0.no.elim
   | cons x orc1=>
    cases x with
    | fn=>exact H0.no.elim
    | tl=>exact H0.no.elim
    | nat=>exact H0.no.elim
    | id j=>
     dsimp only[dS]at H H0
     cases lo:look Tb T j with
     | none=>rw[lo]at H0;exact H0.no.elim
     | some o=>
      simp only[lo]at H H0
      split at H0
      ·rename_i fd hd
       simp only[hd]at H
       cases hp:fP fd with
       | none=>rw[hp]at H0;exact H0.no.elim
       | some b=>
        simp only[hp]at H H0
        cases hw:Nat.ble (wB κ) 50 with
        | false=>rw[hw]at H0;exact H0.no.elim
        | true=>
         simp only[hw]at H H0
         cases orc1 with
         | nil=>exact H0.no.elim
         | cons y orc2=>
          cases y with
          | fn=>exact H0.no.elim
          | tl=>exact H0.no.elim
          | nat=>exact H0.no.elim
          | id jc=>
           dsimp only at H H0
           cases lc:look Tb T jc with
           | none=>rw[lc]at H0;exact H0.no.elim
           | some oc=>
            simp only[lc]at H H0
            cases hc:jt fd oc with
            | none=>rw[hc]at H0;exact H0.no.elim
            | some cd=>
             simp only[hc]at H H0
             obtain⟨ea,H0⟩:=H0.ad
             obtain⟨ec,H0⟩:=H0.ad
             obtain⟨k1,k2,k3⟩:=lL (prog:=prog) (w:=w) (R:=R) hA.hd κ hκ
             have hwk:=Nat.le_of_ble_eq_true hw
             refine ki (o:=o) (oc:=oc) (cd:=cd) (fd:=fd) (b:=b) ?_ ?_ hd hp ?_ hc ?_
             ·have:=hA.dp
              show _<1000
              lia
             ·dsimp only at ea;rw[ea];exact D₀.look lo
             ·dsimp only at ec;rw[ec];exact D₀.look lc
             ·exact IH _ _ _ _ _ _ _ _ _ _ _ _ _ _ _ hm hκ D₀ hG λρ τ ζ a b v=>(H ρ τ ζ a b v).ad.2.ad.2
      ·rename_i hd
       refine plain λρ τ ζ a b v=>?_
       have z:=H ρ τ ζ a b v
       split at z
       ·rename_i e;exact absurd e (hd _)
       ·exact z
  | _=>exact plain H
 | _=>exact plain H
theorem gM{ih:(Nat→Addr)→(Nat→Tok)→(Nat→Value)→fB}(IH:oY prog w Tb lv m₀ A₀ R h₀ d os ih){r:Result}{κ:Kont}{T:TT}{m i z:Nat}{ZC:List Orc}{G:GP}{ρ₀:Nat→Addr}{τ₀:Nat→Tok}{ζ₀:Nat→Value}{h:Heap}{gs:Array GenState}{U:Nat}
  (hm:m≤1000000) (hκ:KOk κ) (D₀:Rp Tb m₀ ρ₀ h₀ h T m) (hG:G gs) (H:∀ρ τ ζ,Ag ρ ρ₀ m→Ag τ τ₀ i→AgV ζ ζ₀ z→Good prog w Tb lv m₀ A₀ R h₀ d os ρ (tm (ih ρ τ ζ) r κ T m i z ZC G)):
  En prog w A₀ R κ r ⟨h,gs,d,U,os⟩:=by
 cases κ with
 | base=>
  obtain⟨out,e,_,_,y⟩:=H ρ₀ τ₀ ζ₀ (Ag.refl _ _) (Ag.refl _ _) (AgV.refl _ _)
  cases e
  exact y h gs U D₀ hG
 | ret c hd k κ=>
  obtain⟨rfl,hκ⟩:=hκ
  exact IH _ _ _ _ _ _ _ _ _ _ _ _ _ _ _ hm hκ D₀ hG H
 | gen=>exact hκ.elim
 | genS=>exact hκ.elim
theorem ky{ih:(Nat→Addr)→(Nat→Tok)→(Nat→Value)→fB}(hA:Lv A₀ (lv+1))(IH:oY prog w Tb lv m₀ A₀ R h₀ d os ih):oY prog w Tb lv m₀ A₀ R h₀ d os (λρ τ ζ=>ey Tb ⟨prog,w.params⟩ ρ τ ζ (ih ρ τ ζ)):=by
 intro c κ t T m i z ZC G ρ₀ τ₀ ζ₀ h gs U hm hκ D₀ hG H
 have H0:=H ρ₀ τ₀ ζ₀ (Ag.refl _ _) (Ag.refl _ _) (AgV.refl _ _)
 cases t with
 | pure fin=>
  cases fin with
  | done f=>exact y_pure _ _ _ _ _ _ _ _ _ (y_done _ _ _ _ _ _ (gM IH hm hκ D₀ hG H))
  | again c'=>
   dsimp only[ey]at H H0
   cases hq:qk c' with
   | false=>rw[hq]at H0;exact H0.no.elim
   | true=>
    simp only[hq]at H H0
    refine y_pure _ _ _ _ _ _ _ _ _ (y_again _ _ _ _ _ _ (gk hq) ?_)
    cases κ with
    | base=>
     cases ZC with
     | nil=>exact bd hA IH hm hκ D₀ hG H
     | cons x orc1=>
      cases x with
      | tl=>
       obtain⟨out,e,_,_,y⟩:=H0
       cases e
       exact y h gs U D₀ hG
      | id=>exact bd hA IH hm hκ D₀ hG H
      | nat=>exact bd hA IH hm hκ D₀ hG H
      | fn=>exact bd hA IH hm hκ D₀ hG H
    | ret=>exact bd hA IH hm hκ D₀ hG H
    | gen=>exact hκ.elim
    | genS=>exact hκ.elim
 | raise e=>exact y_raise _ _ _ _ _ _ _ _ _ (y_err _ _ _ (gM IH hm hκ D₀ hG H))
 | rule tag k=>exact y_skim _ _ _ _ _ _ _ _ _ 1 (IH _ _ _ _ _ _ _ _ _ _ _ _ _ _ _ hm hκ D₀ hG H)
 | «at» q k=>exact y_skim _ _ _ _ _ _ _ _ _ 1 (IH _ _ _ _ _ _ _ _ _ _ _ _ _ _ _ hm hκ D₀ hG H)
 | point l k=>exact y_skim _ _ _ _ _ _ _ _ _ 1 (IH _ _ _ _ _ _ _ _ _ _ _ _ _ _ _ hm hκ D₀ hG H)
 | ask k=>exact y_skim _ _ _ _ _ _ _ _ _ 1 (IH _ _ _ _ _ _ _ _ _ _ _ _ _ _ _ hm hκ D₀ hG H)
 | load a q k=>
  dsimp only[ey]at H H0
  cases ZC with
  | nil=>exact H0.no.elim
  | cons x orc1=>
   cases x with
   | fn=>exact H0.no.elim
   | tl=>exact H0.no.elim
   | nat=>exact H0.no.elim
   | id j=>
    dsimp only at H H0
    cases lo:look Tb T j with
    | none=>rw[lo]at H0;exact H0.no.elim
    | some o=>
     simp only[lo]at H H0
     obtain⟨ea,H0⟩:=H0.ad
     dsimp only at ea
     refine y_load _ _ _ _ _ _ _ _ _ _ _ _ _ _ _ o (ea▸D₀.look lo) ?_
     exact IH _ _ _ _ _ _ _ _ _ _ _ _ _ _ _ hm hκ D₀ hG λρ τ ζ a b v=>(H ρ τ ζ a b v).ad.2
 | loadIfAlive a k=>
  dsimp only[ey]at H H0
  cases ZC with
  | nil=>exact H0.no.elim
  | cons x orc1=>
   cases x with
   | fn=>exact H0.no.elim
   | tl=>exact H0.no.elim
   | nat=>exact H0.no.elim
   | id j=>
    dsimp only at H H0
    cases lo:look Tb T j with
    | none=>rw[lo]at H0;exact H0.no.elim
    | some o=>
     simp only[lo]at H H0
     obtain⟨ea,H0⟩:=H0.ad
     dsimp only at ea
     refine y_alive _ _ _ _ _ _ _ _ _ _ _ _ _ _ o (ea▸D₀.look lo) ?_
     exact IH _ _ _ _ _ _ _ _ _ _ _ _ _ _ _ hm hκ D₀ hG λρ τ ζ a b v=>(H ρ τ ζ a b v).ad.2
 | update a q f k=>
  dsimp only[ey]at H H0
  cases ZC with
  | nil=>exact H0.no.elim
  | cons x orc1=>
   cases x with
   | fn=>exact H0.no.elim
   | tl=>exact H0.no.elim
   | nat=>exact H0.no.elim
   | id j=>
    dsimp only at H H0
    cases hb:Nat.blt j 164 with
    | true=>rw[hb]at H0;exact H0.no.elim
    | false=>
     simp only[hb]at H H0
     cases ho:T.get (j-164)with
     | none=>rw[ho]at H0;exact H0.no.elim
     | some o=>
      simp only[ho]at H H0
      cases hf:(f o).isFreed with
      | true=>rw[hf]at H0;exact H0.no.elim
      | false=>
       simp only[hf]at H H0
       obtain⟨ea,H0⟩:=H0.ad
       dsimp only at ea
       have hown:=D₀.own _ _ ho
       refine wpOwn_bind (m:=updatePart a q f) (f:=k) (wpOwn_of_wpAny (wpAny_updatePart (o:=o) (ea▸hown.2) ?_))
       subst ea
       exact IH _ _ _ _ _ _ _ _ _ _ _ _ _ _ _ hm hκ (D₀.update (by lia) ho hf) hG λρ τ ζ a b v=>(H ρ τ ζ a b v).ad.2
 | alloc o k=>
  dsimp only[ey]at H H0
  cases hmb:Nat.blt m 1000000 with
  | false=>rw[hmb]at H0;exact H0.no.elim
  | true=>
   cases hf:o.isFreed with
   | true=>rw[hmb,hf]at H0;exact H0.no.elim
   | false=>
    simp only[hmb,hf]at H H0
    refine wpOwn_bind (m:=alloc o) (f:=k) (wpOwn_of_wpAny (wpAny_alloc ?_))
    have e:ext ρ₀ (λ_=>h.objs.size) m m=h.objs.size:=by have:=bn (ρ₀:=ρ₀) (C:=λ_=>h.objs.size) (m:=m) (q:=0);simpa using this
    have D₁:=(D₀.ag (Ag.ext ρ₀ (λ_=>h.objs.size) m)).push (Nat.le_of_ble_eq_true hmb) hf e
    refine IH c κ (k h.objs.size) _ (m+1) i z ZC G (ext ρ₀ (λ_=>h.objs.size) m) τ₀ ζ₀ _ _ _ (Nat.le_of_ble_eq_true hmb) hκ D₁ hG λρ τ ζ a b v=>?_
    have y:=H ρ τ ζ (a.trans (Ag.ext _ _ _) (Nat.le_succ m)) b v
    rw[a m (Nat.lt_succ_self m),e]at y
    exact y
 | fresh k=>
  dsimp only[ey]at H H0
  refine y_fresh _ _ _ _ _ _ _ _ _ _ _ _ _ ?_
  have e:ext τ₀ (λ_=>U) i i=U:=by have:=bn (ρ₀:=τ₀) (C:=λ_=>U) (m:=i) (q:=0);simpa using this
  refine IH c κ (k U) T m (i+1) z ZC G ρ₀ (ext τ₀ (λ_=>U) i) ζ₀ _ _ _ hm hκ D₀ hG λρ τ ζ a b v=>?_
  have y:=H ρ τ ζ a (b.trans (Ag.ext _ _ _) (Nat.le_succ i)) v
  rw[b i (Nat.lt_succ_self i),e]at y
  exact y
 | handled own k=>
  cases own with
  | true=>exact H0.no.elim
  | false=>
   refine y_handled _ _ _ _ _ _ _ _ _ ?_
   rw[(lL (prog:=prog) (w:=w) (R:=R) hA.hd κ hκ).1]
   exact IH _ _ _ _ _ _ _ _ _ _ _ _ _ _ _ hm hκ D₀ hG H
 | call c' hd gd l k=>
  cases hd with
  | some v=>exact H0.no.elim
  | none=>
   refine y_call _ _ _ _ _ _ _ _ _ _ _ _ _ (by intro e;cases e) ?_
   have go:(∀ρ τ ζ,Ag ρ ρ₀ m→Ag τ τ₀ i→AgV ζ ζ₀ z→Good prog w Tb lv m₀ A₀ R h₀ d os ρ (dS Tb ρ (ih ρ τ ζ) c' (.ret c none k κ) T m i z ZC G))→codeAny (model prog w) (Ar prog w A₀ R (.ret c none k κ)) c' (En prog w A₀ R (.ret c none k κ)) ⟨h,gs,d,U,os⟩:=λH=>bd (κ:=.ret c none k κ) hA IH hm ⟨rfl,hκ⟩ D₀ hG H
   dsimp only[ey]at H H0
   cases ZC with
   | nil=>exact go H
   | cons x orc1=>
    cases x with
    | id j=>exact go H
    | tl=>exact go H
    | nat=>exact bd (κ:=.ret c none k κ) hA IH hm ⟨rfl,hκ⟩ D₀ hG H
    | fn foot nn nt nz G' F=>
     dsimp only at H H0
     cases h1:aF foot with
     | false=>rw[h1]at H0;exact H0.no.elim
     | true=>
      cases h2:Nat.ble (wc c+wB κ) 55 with
      | false=>rw[h1,h2]at H0;exact H0.no.elim
      | true=>
       cases h3:Nat.blt (m+nn) 1000000 with
       | false=>rw[h1,h2,h3]at H0;exact H0.no.elim
       | true=>
        simp only[h1,h2,h3]at H H0
        obtain⟨k1,k2,k3⟩:=lL (prog:=prog) (w:=w) (R:=R) hA.hd κ hκ
        have w1:=dC c
        have w2:=ew c
        have w3:=Nat.le_of_ble_eq_true h2
        have w4:=hA.dp
        have w5:=hA.un
        have sd:eq prog w Tb lv c' (foot.map λj=>(ρ₀ j,T.get j)) G (G' ⟨cut m ρ₀,cut i τ₀,aq z ζ₀⟩) nn nt nz (F ⟨cut m ρ₀,cut i τ₀,aq z ζ₀⟩):=by
         split at H0
         ·split at H0
          ·exact H0.sd.1
          ·exact H0.no.elim
         ·exact H0.no.elim
        refine sd _ _ _ _ _ _ _ ⟨?_,?_,?_⟩ hG D₀.base (nm D₀ h1) ?_
        ·rw[cq];exact k1
        ·rw[cq]
         show(Ar prog w A₀ R κ).depth+c.weight+60*lv≤999
         lia
        ·rw[cq]
         show(Ar prog w A₀ R κ).units+c.cUnits+600*lv≤9899
         lia
        ·intro h' Zt ZM C ZB O Zq P
         have c1:∀ρ,Ag ρ (ext ρ₀ C m) (m+nn)→cut m ρ=cut m ρ₀:=λρ a=>by
          funext q
          unfold cut
          cases hq:Nat.blt q m with
          | false=>rfl
          | true=>
           have hq:q<m:=Nat.le_of_ble_eq_true hq
           exact(a q (by lia)).trans (bA hq)
         have c2:∀τ,Ag τ (ext τ₀ ZB i) (i+nt)→cut i τ=cut i τ₀:=λτ a=>by
          funext q
          unfold cut
          cases hq:Nat.blt q i with
          | false=>rfl
          | true=>
           have hq:q<i:=Nat.le_of_ble_eq_true hq
           exact(a q (by lia)).trans (bA hq)
         have c3:∀ζ,AgV ζ (gR ζ₀ O z) (z+nz)→aq z ζ=aq z ζ₀:=λζ a=>by
          funext q
          unfold aq
          cases hq:Nat.blt q z with
          | false=>rfl
          | true=>
           have hq:q<z:=Nat.le_of_ble_eq_true hq
           exact(a q (by lia)).trans (if_pos hq)
         have e1:∀ρ,Ag ρ (ext ρ₀ C m) (m+nn)→(cut nn λq=>ρ (m+q))=cut nn C:=λρ a=>by
          funext q
          unfold cut
          cases hq:Nat.blt q nn with
          | false=>rfl
          | true=>exact(a (m+q) (Nat.add_lt_add_left (Nat.le_of_ble_eq_true hq) m)).trans bn
         have e2:∀τ,Ag τ (ext τ₀ ZB i) (i+nt)→(cut nt λq=>τ (i+q))=cut nt ZB:=λτ a=>by
          funext q
          unfold cut
          cases hq:Nat.blt q nt with
          | false=>rfl
          | true=>exact(a (i+q) (Nat.add_lt_add_left (Nat.le_of_ble_eq_true hq) i)).trans bn
         have e3:∀ζ,AgV ζ (gR ζ₀ O z) (z+nz)→(aq nz λq=>ζ (z+q))=aq nz O:=λζ a=>by
          funext q
          unfold aq
          cases hq:Nat.blt q nz with
          | false=>rfl
          | true=>exact(a (z+q) (Nat.add_lt_add_left (Nat.le_of_ble_eq_true hq) z)).trans lF
         have b3:m+nn<1000000:=Nat.le_of_ble_eq_true h3
         have z₁:=H (ext ρ₀ C m) (ext τ₀ ZB i) (gR ζ₀ O z) (Ag.ext _ _ _) (Ag.ext _ _ _) (AgV.ext _ _ _)
         rw[c1 _ (Ag.refl _ _),c2 _ (Ag.refl _ _),c3 _ (AgV.refl _ _),e1 _ (Ag.refl _ _),e2 _ (Ag.refl _ _),e3 _ (AgV.refl _ _)]at z₁
         cases h4:Nat.ble (F ⟨cut m ρ₀,cut i τ₀,aq z ζ₀⟩ (cut nn C) (cut nt ZB) (aq nz O)).news.length nn with
         | false=>rw[h4]at z₁;exact z₁.no.elim
         | true=>
          cases h5:dh foot (F ⟨cut m ρ₀,cut i τ₀,aq z ζ₀⟩ (cut nn C) (cut nt ZB) (aq nz O)).ups T with
          | none=>simp only[h4,h5]at z₁;exact z₁.no.elim
          | some T₁=>
           have D₁:=D₀.post b3 (Nat.le_of_ble_eq_true h4) h5 P
           refine IH c κ (k (F ⟨cut m ρ₀,cut i τ₀,aq z ζ₀⟩ (cut nn C) (cut nt ZB) (aq nz O)).r) _ (m+nn) (i+nt) (z+nz) orc1 (G' ⟨cut m ρ₀,cut i τ₀,aq z ζ₀⟩ (cut nn C)) (ext ρ₀ C m) (ext τ₀ ZB i) (gR ζ₀ O z) _ _ _ (by lia) hκ D₁ Zq λρ τ ζ a b v=>?_
           have y:=H ρ τ ζ (a.trans (Ag.ext _ _ _) (Nat.le_add_right ..)) (b.trans (Ag.ext _ _ _) (Nat.le_add_right ..)) (v.trans (AgV.ext _ _ _) (Nat.le_add_right ..))
           rw[c1 ρ a,c2 τ b,c3 ζ v,e1 ρ a,e2 τ b,e3 ζ v]at y
           simp only[h4,h5]at y
           exact y.sd.2
 | unsupported=>exact H0.no.elim
 | finish=>exact H0.no.elim
 | register=>exact H0.no.elim
 | choose=>exact H0.no.elim
 | os=>exact H0.no.elim
 | newGen=>exact H0.no.elim
 | genState=>exact H0.no.elim
 | resume=>exact H0.no.elim
 | yield=>exact H0.no.elim
 | stack=>exact H0.no.elim
 | fork=>exact H0.no.elim
 | thread=>exact H0.no.elim
 | await=>exact H0.no.elim
theorem dF(hA:Lv A₀ (lv+1)):∀n,oY prog w Tb lv m₀ A₀ R h₀ d os λρ τ ζ=>run Tb ⟨prog,w.params⟩ ρ τ ζ n
 | 0=>λ_ _ _ _ _ _ _ _ _ ρ₀ τ₀ ζ₀ _ _ _ _ _ _ _ H=>(H ρ₀ τ₀ ζ₀ (Ag.refl _ _) (Ag.refl _ _) (AgV.refl _ _)).no.elim
 | n+1=>ky hA (dF hA n)
theorem cR(hA:Lv A₀ (lv+1))(n:Nat){c:Code}{T:TT}{m i z:Nat}{ZC:List Orc}{G:GP}{ρ₀:Nat→Addr}{τ₀:Nat→Tok}{ζ₀:Nat→Value}{h:Heap}{gs:Array GenState}{U:Nat}
  (hm:m≤1000000) (D₀:Rp Tb m₀ ρ₀ h₀ h T m) (hG:G gs) (H:∀ρ τ ζ,Ag ρ ρ₀ m→Ag τ τ₀ i→AgV ζ ζ₀ z→Good prog w Tb lv m₀ A₀ R h₀ d os ρ (iK Tb ⟨prog,w.params⟩ ρ τ ζ n c T m i z ZC G)):
  codeAny (model prog w) A₀ c R ⟨h,gs,d,U,os⟩:=
 bd (κ:=.base) hA (dF hA n) hm trivial D₀ hG H
end
end
section
open PySem PySem.W PySem.W.X
abbrev pw:Program:=PySem.Challenge.pw_sw0059_01
noncomputable abbrev mA{α:Type}(l:List α):Array α:=⟨l⟩
noncomputable abbrev mS(l:List Nat):PySem.Str:=⟨⟨l⟩⟩
noncomputable abbrev en(P:Params)(l:List Nat)(t:Nat)(v:Value):DictEntry:=⟨PyData.keyHash P ⟨⟨l⟩⟩,.str ⟨⟨l⟩⟩ t,v⟩
noncomputable def b4:List Stmt→Nat→Stmt
 | [],_=>.Pass ⟨0,0,0,0⟩
 | a::l,i=>match Nat.beq i 0 with
  | true=>a
  | false=>b4 l (i-1)
noncomputable def stA(i:Nat):Stmt:=b4 pw.main.body i
noncomputable def stM(i j:Nat):Stmt:=match stA i with
 | .ClassDef _ _ _ b _ _ _ _ _ _ _=>b4 b j
 | _=>.Pass ⟨0,0,0,0⟩
noncomputable def Bg:FuncData:={name:=mS [],qualname:=mS [],params:={posonlyargs:=[],args:=[],vararg:=none,kwonlyargs:=[],kw_defaults:=[],kwarg:=none,defaults:=[]},body:=.stmts [],scope:={kind:=.function,names:=[],isGenerator:=false,isCoroutine:=false,more:=[]},globals:=0,closure:=[],defaults:=.none,kwdefaults:=.none}
noncomputable def fdS(st:Stmt)(q:PySem.Str)(g:Addr)(md code:Value)(blt:Addr):FuncData:=match st with
 | .FunctionDef n a b _ _ _ sc _ _ _=>{name:=n,qualname:=q,params:=a,body:=.stmts b,scope:=sc,globals:=g,closure:=[],defaults:=.none,kwdefaults:=.none,pyModule:=md,code:=code,builtins:=blt}
 | _=>Bg
noncomputable def exI:PySem.Expr→Int
 | .Constant (.int i) _ _=>i
 | _=>0
noncomputable def exS:PySem.Expr→PySem.Str
 | .Constant (.str s) _ _=>s
 | _=>mS []
noncomputable def b3K:List (Option PySem.Expr):=match stA 8 with
 | .Assign _ (.Dict ks _ _) _=>ks
 | _=>[]
noncomputable def b3V:List PySem.Expr:=match stA 8 with
 | .Assign _ (.Dict _ vs _) _=>vs
 | _=>[]
noncomputable def yH:List (Option PySem.Expr)→List PySem.Expr→Nat→List DictEntry
 | some k::ks,v::vs,i=>(match Nat.blt i 646 with
   | true=>⟨exI k,.int (exI k) (329+3*i),.str (exS v) (330+3*i)⟩
   | false=>⟨exI k,.int (exI k) (2267+2*(i-646)),.str (exS v) (2268+2*(i-646))⟩)::yH ks vs (i+1)
 | _,_,_=>[]
noncomputable def b3E(i n:Nat):List DictEntry:=((yH b3K b3V 0).drop i).take n
noncomputable def sN(s:String):List Nat:=s.toByteArray.data.toList.map UInt8.toNat
theorem lm:∀{a b:List UInt8},a.map UInt8.toNat=b.map UInt8.toNat→a=b
 | [],[],_=>rfl
 | [],_::_,h=>by cases h
 | _::_,[],h=>by cases h
 | x::a,y::b,h=>by
  rw[List.map_cons,List.map_cons,List.cons.injEq]at h
  rw[UInt8.toNat_inj.mp h.1,lm h.2]
theorem m7{a b:String}(h:sN a=sN b):a=b:=by
 unfold sN at h
 have h':=lm h
 have:=Array.toList_inj.mp h'
 rw[←String.toByteArray_inj]
 exact ByteArray.ext this
noncomputable def sA:List Nat:=[115,112,101,99,105,97,108,45,103,101,116,45,114,97,105,115,101,115]
noncomputable def sy:List Nat:=[99,111,109,112,114,101,104,101,110,115,105,111,110,45,105,116,101,114,45,116,119,105,99,101]
theorem rowA_eq:sN "special-get-raises"=sA:=by decide+kernel
theorem rowB_eq:sN "comprehension-iter-twice"=sy:=by decide+kernel
noncomputable def P2(P:Params)(Z V:Bool):Params:={P with followText:=λr=>match nEq (sN r) sA with
 | true=>Z
 | false=>match nEq (sN r) sy with
  | true=>V
  | false=>P.followText r}
noncomputable def W2(w:World)(Z V:Bool):World:={w with params:=P2 w.params Z V}
noncomputable abbrev Pw(w:World)(Z V:Bool):Params:=(W2 w Z V).params
theorem qq(w:World):W2 w (w.params.followText "special-get-raises") (w.params.followText "comprehension-iter-twice")=w:=by
 obtain⟨dr,P⟩:=w
 have:(λr=>match nEq (sN r) sA with
   | true=>P.followText "special-get-raises"
   | false=>match nEq (sN r) sy with
    | true=>P.followText "comprehension-iter-twice"
    | false=>P.followText r)=P.followText:=by
  funext r
  split
  ·rename_i e
   have:=m7 ((i9 e).trans rowA_eq.symm)
   rw[this]
  ·split
   ·rename_i e
    have:=m7 ((i9 e).trans rowB_eq.symm)
    rw[this]
   ·rfl
 unfold W2 P2
 dsimp only
 rw[this]
noncomputable def fpy:List Nat:=[47,99,108,97,105,109,47,99,117,116,46,112,121]
noncomputable abbrev iz:Value:=.type PySem.W.SL.s14018661285674007319x4
noncomputable abbrev bb:Value:=.type PySem.W.SL.s2766695959194262286x5
noncomputable abbrev dN:Value:=.type PySem.W.SL.s5856160107412720595x4
noncomputable abbrev eO:Value:=.type PySem.W.SL.s7174869446012820540x8
noncomputable abbrev o8:Value:=.type PySem.W.SL.s9222952809800978799x4
noncomputable abbrev ro:Value:=.type PySem.W.SL.s2742458400755230247x6
noncomputable abbrev rn:Value:=.type PySem.W.SL.s17162191345867700912x4
noncomputable abbrev rm:Value:=.type PySem.W.SL.s10852414792293593619x7
noncomputable abbrev rl:Value:=.type PySem.W.SL.s5991306692159431302x13
noncomputable abbrev rk:Value:=.type PySem.W.SL.s658472552662922059x5
noncomputable def ob0(P:Params):Obj:=⟨iz,none,(.dict (mA [en P [95,95,110,97,109,101,95,95] 1 (.str (mS [98,117,105,108,116,105,110,115]) 160),en P [95,95,100,111,99,95,95] 2 (.builtin "builtins.__doc__:str#opaque"),en P [95,95,112,97,99,107,97,103,101,95,95] 3 (.builtin "builtins.__package__:str#opaque"),en P [95,95,108,111,97,100,101,114,95,95] 4 (.builtin "builtins.__loader__:shared#opaque"),en P [95,95,115,112,101,99,95,95] 5 (.builtin PySem.W.SL.s11665532747177232413x24),en P [95,95,98,117,105,108,100,95,99,108,97,115,115,95,95] 6 (.builtin PySem.W.SL.s15183661809925369436x15),en P [95,95,105,109,112,111,114,116,95,95] 7 (.builtin PySem.W.SL.s13915890719876406383x10),en P [97,98,115] 8 (.builtin PySem.W.SL.s13459172003223722735x3),en P [97,108,108] 9 (.builtin PySem.W.SL.s10557405761357834076x3),en P [97,110,121] 10 (.builtin PySem.W.SL.s4233737765568776869x3),en P [97,115,99,105,105] 11 (.builtin PySem.W.SL.s2508922471967985374x5),en P [98,105,110] 12 (.builtin PySem.W.SL.s15574269061696679450x3),en P [98,114,101,97,107,112,111,105,110,116] 13 (.builtin PySem.W.SL.s6016482663378992977x10),en P [99,97,108,108,97,98,108,101] 14 (.builtin PySem.W.SL.s5596568736180474577x8),en P [99,104,114] 15 (.builtin PySem.W.SL.s2839554839881490554x3),en P [99,111,109,112,105,108,101] 16 (.builtin PySem.W.SL.s725004073602090463x7),en P [100,101,108,97,116,116,114] 17 (.builtin PySem.W.SL.s9436932552931045734x7),en P [100,105,114] 18 (.builtin PySem.W.SL.s2754603736356183583x3),en P [100,105,118,109,111,100] 19 (.builtin PySem.W.SL.s15185746759980889043x6),en P [101,118,97,108] 20 (.builtin PySem.W.SL.s8192189862530294059x4),en P [101,120,101,99] 21 (.builtin PySem.W.SL.s7038307821325472102x4),en P [102,111,114,109,97,116] 22 (.builtin PySem.W.SL.s5662562618415449548x6),en P [103,101,116,97,116,116,114] 23 (.builtin PySem.W.SL.s15281542589158584767x7),en P [103,108,111,98,97,108,115] 24 (.builtin PySem.W.SL.s17651547275483570877x7),en P [104,97,115,97,116,116,114] 25 (.builtin PySem.W.SL.s4036449017235975746x7),en P [104,97,115,104] 26 (.builtin PySem.W.SL.s8879979712987360175x4),en P [104,101,120] 27 (.builtin PySem.W.SL.s1801250619170735830x3),en P [105,100] 28 (.builtin PySem.W.SL.s17659931425627118568x2),en P [105,110,112,117,116] 29 (.builtin PySem.W.SL.s6063217899685152688x5),en P [105,115,105,110,115,116,97,110,99,101] 30 (.builtin PySem.W.SL.s8008927332132565319x10),en P [105,115,115,117,98,99,108,97,115,115] 31 (.builtin PySem.W.SL.s3544116645089599534x10),en P [105,116,101,114] 32 (.builtin PySem.W.SL.s13761710972054866084x4),en P [97,105,116,101,114] 33 (.builtin PySem.W.SL.s12896375587409280029x5),en P [108,101,110] 34 (.builtin PySem.W.SL.s13014049009108672802x3),en P [108,111,99,97,108,115] 35 (.builtin PySem.W.SL.s13935586738268321596x6),en P [109,97,120] 36 (.builtin PySem.W.SL.s8200498257699607233x3),en P [109,105,110] 37 (.builtin PySem.W.SL.s14114244577727609259x3),en P [110,101,120,116] 38 (.builtin PySem.W.SL.s1499430450269397089x4),en P [97,110,101,120,116] 39 (.builtin PySem.W.SL.s8755793994789770505x5),en P [111,99,116] 40 (.builtin PySem.W.SL.s15725212667919936108x3),en P [111,114,100] 41 (.builtin PySem.W.SL.s15791221867095933363x3),en P [112,111,119] 42 (.builtin PySem.W.SL.s81309575031448614x3),en P [112,114,105,110,116] 43 (.builtin PySem.W.SL.s8069831620301644142x5),en P [114,101,112,114] 44 (.builtin PySem.W.SL.s10061844253413749634x4),en P [114,111,117,110,100] 45 (.builtin PySem.W.SL.s9496514870978017513x5),en P [115,101,116,97,116,116,114] 46 (.builtin PySem.W.SL.s8899691144933366716x7),en P [115,111,114,116,101,100] 47 (.builtin PySem.W.SL.s15201008993051130160x6),en P [115,117,109] 48 (.builtin PySem.W.SL.s741896355592496720x3),en P [118,97,114,115] 49 (.builtin PySem.W.SL.s17925004256654032244x4),en P [78,111,110,101] 50 .none,en P [69,108,108,105,112,115,105,115] 51 .ellipsis,en P [78,111,116,73,109,112,108,101,109,101,110,116,101,100] 52 .notImplemented,en P [70,97,108,115,101] 53 (.bool false),en P [84,114,117,101] 54 (.bool true),en P [98,111,111,108] 55 (.type PySem.W.SL.s11695548795398191787x4),en P [109,101,109,111,114,121,118,105,101,119] 56 (.type PySem.W.SL.s4156966113859768872x10),en P [98,121,116,101,97,114,114,97,121] 57 (.type PySem.W.SL.s9501651726347032510x9),en P [98,121,116,101,115] 58 (.type PySem.W.SL.s15722918466584999320x5),en P [99,108,97,115,115,109,101,116,104,111,100] 59 (.type PySem.W.SL.s591115383303110208x11),en P [99,111,109,112,108,101,120] 60 (.type PySem.W.SL.s15721156781594690315x7),en P [100,105,99,116] 61 iz,en P [101,110,117,109,101,114,97,116,101] 62 (.type PySem.W.SL.s14340494229221121180x9),en P [102,105,108,116,101,114] 63 (.type PySem.W.SL.s13429844117177748173x6),en P [102,108,111,97,116] 64 (.type PySem.W.SL.s16463266125957815391x5),en P [102,114,111,122,101,110,115,101,116] 65 (.type PySem.W.SL.s4922535414793169389x9),en P [112,114,111,112,101,114,116,121] 66 (.type PySem.W.SL.s8101838861749082086x8),en P [105,110,116] 67 (.type PySem.W.SL.s7066276694103001551x3),en P [108,105,115,116] 68 o8,en P [109,97,112] 69 (.type PySem.W.SL.s462964344163437139x3),en P [111,98,106,101,99,116] 70 ro,en P [114,97,110,103,101] 71 (.type PySem.W.SL.s1438033511350832697x5),en P [114,101,118,101,114,115,101,100] 72 (.type PySem.W.SL.s14365286008749172514x8),en P [115,101,116] 73 (.type PySem.W.SL.s3642769012341782148x3),en P [115,108,105,99,101] 74 (.type PySem.W.SL.s4674234679698826739x5),en P [115,116,97,116,105,99,109,101,116,104,111,100] 75 (.type PySem.W.SL.s16656946322747308186x12),en P [115,116,114] 76 (.type PySem.W.SL.s10796804682411823810x3),en P [115,117,112,101,114] 77 (.type PySem.W.SL.s4290257624100764138x5),en P [116,117,112,108,101] 78 bb,en P [116,121,112,101] 79 rn,en P [122,105,112] 80 (.type PySem.W.SL.s14339709457334898076x3),en P [95,95,100,101,98,117,103,95,95] 81 (.bool true),en P [66,97,115,101,69,120,99,101,112,116,105,111,110] 82 (.type PySem.W.SL.s4278001404047624695x13),en P [66,97,115,101,69,120,99,101,112,116,105,111,110,71,114,111,117,112] 83 (.type PySem.W.SL.s6585700554429387442x18),en P [69,120,99,101,112,116,105,111,110] 84 (.type PySem.W.SL.s5946037652744460706x9),en P [71,101,110,101,114,97,116,111,114,69,120,105,116] 85 (.type PySem.W.SL.s7410770068591931388x13),en P [75,101,121,98,111,97,114,100,73,110,116,101,114,114,117,112,116] 86 (.type PySem.W.SL.s11817881795495490833x17),en P [83,121,115,116,101,109,69,120,105,116] 87 (.type PySem.W.SL.s15679963881808890155x10),en P [65,114,105,116,104,109,101,116,105,99,69,114,114,111,114] 88 (.type PySem.W.SL.s3871700062485845797x15),en P [65,115,115,101,114,116,105,111,110,69,114,114,111,114] 89 (.type PySem.W.SL.s7689518266570723881x14),en P [65,116,116,114,105,98,117,116,101,69,114,114,111,114] 90 (.type PySem.W.SL.s9001593270443806431x14),en P [66,117,102,102,101,114,69,114,114,111,114] 91 (.type PySem.W.SL.s6882542574934516792x11),en P [69,79,70,69,114,114,111,114] 92 (.type PySem.W.SL.s14403400214490484960x8),en P [73,109,112,111,114,116,69,114,114,111,114] 93 (.type PySem.W.SL.s14457978657717015782x11),en P [76,111,111,107,117,112,69,114,114,111,114] 94 (.type PySem.W.SL.s1753610191782819921x11),en P [77,101,109,111,114,121,69,114,114,111,114] 95 (.type PySem.W.SL.s14119380538032626715x11),en P [78,97,109,101,69,114,114,111,114] 96 (.type PySem.W.SL.s11437920000406562045x9),en P [79,83,69,114,114,111,114] 97 rm,en P [82,101,102,101,114,101,110,99,101,69,114,114,111,114] 98 (.type PySem.W.SL.s14816307405966870543x14),en P [82,117,110,116,105,109,101,69,114,114,111,114] 99 (.type PySem.W.SL.s8682627914449686677x12),en P [83,116,111,112,65,115,121,110,99,73,116,101,114,97,116,105,111,110] 100 (.type PySem.W.SL.s4428170145600203450x18),en P [83,116,111,112,73,116,101,114,97,116,105,111,110] 101 rl,en P [83,121,110,116,97,120,69,114,114,111,114] 102 (.type PySem.W.SL.s16067994140765818257x11),en P [83,121,115,116,101,109,69,114,114,111,114] 103 (.type PySem.W.SL.s2327743974964600596x11),en P [84,121,112,101,69,114,114,111,114] 104 (.type PySem.W.SL.s2804747833354056582x9),en P [86,97,108,117,101,69,114,114,111,114] 105 (.type PySem.W.SL.s6070975301684473832x10),en P [87,97,114,110,105,110,103] 106 (.type PySem.W.SL.s14270485950484850486x7),en P [70,108,111,97,116,105,110,103,80,111,105,110,116,69,114,114,111,114] 107 (.type PySem.W.SL.s12041534306414923332x18),en P [79,118,101,114,102,108,111,119,69,114,114,111,114] 108 (.type PySem.W.SL.s2531307568338490285x13),en P [90,101,114,111,68,105,118,105,115,105,111,110,69,114,114,111,114] 109 (.type PySem.W.SL.s631175304937289666x17),en P [66,121,116,101,115,87,97,114,110,105,110,103] 110 (.type PySem.W.SL.s5144983644357021410x12),en P [68,101,112,114,101,99,97,116,105,111,110,87,97,114,110,105,110,103] 111 (.type PySem.W.SL.s18039099521571816885x18),en P [69,110,99,111,100,105,110,103,87,97,114,110,105,110,103] 112 (.type PySem.W.SL.s6011586214260557989x15),en P [70,117,116,117,114,101,87,97,114,110,105,110,103] 113 (.type PySem.W.SL.s5430567037509283100x13),en P [73,109,112,111,114,116,87,97,114,110,105,110,103] 114 (.type PySem.W.SL.s8117915138073963741x13),en P [80,101,110,100,105,110,103,68,101,112,114,101,99,97,116,105,111,110,87,97,114,110,105,110,103] 115 (.type PySem.W.SL.s3423317712779056401x25),en P [82,101,115,111,117,114,99,101,87,97,114,110,105,110,103] 116 (.type PySem.W.SL.s2007317383269046180x15),en P [82,117,110,116,105,109,101,87,97,114,110,105,110,103] 117 (.type PySem.W.SL.s17481586968713580700x14),en P [83,121,110,116,97,120,87,97,114,110,105,110,103] 118 (.type PySem.W.SL.s2450899226349176912x13),en P [85,110,105,99,111,100,101,87,97,114,110,105,110,103] 119 (.type PySem.W.SL.s16626165730633575011x14),en P [85,115,101,114,87,97,114,110,105,110,103] 120 (.type PySem.W.SL.s14288496050688921416x11),en P [66,108,111,99,107,105,110,103,73,79,69,114,114,111,114] 121 (.type PySem.W.SL.s5735081916595925998x15),en P [67,104,105,108,100,80,114,111,99,101,115,115,69,114,114,111,114] 122 (.type PySem.W.SL.s3865607918536308442x17),en P [67,111,110,110,101,99,116,105,111,110,69,114,114,111,114] 123 (.type PySem.W.SL.s13337502604062700212x15),en P [70,105,108,101,69,120,105,115,116,115,69,114,114,111,114] 124 (.type PySem.W.SL.s13114017843053701147x15),en P [70,105,108,101,78,111,116,70,111,117,110,100,69,114,114,111,114] 125 (.type PySem.W.SL.s17467278006356818441x17),en P [73,110,116,101,114,114,117,112,116,101,100,69,114,114,111,114] 126 (.type PySem.W.SL.s17722149559621369488x16),en P [73,115,65,68,105,114,101,99,116,111,114,121,69,114,114,111,114] 127 (.type PySem.W.SL.s7855274175708717672x17),en P [78,111,116,65,68,105,114,101,99,116,111,114,121,69,114,114,111,114] 128 (.type PySem.W.SL.s13351283678309829046x18),en P [80,101,114,109,105,115,115,105,111,110,69,114,114,111,114] 129 (.type PySem.W.SL.s6668348653404991179x15),en P [80,114,111,99,101,115,115,76,111,111,107,117,112,69,114,114,111,114] 130 (.type PySem.W.SL.s12913350958174193794x18),en P [84,105,109,101,111,117,116,69,114,114,111,114] 131 (.type PySem.W.SL.s16115879512475548326x12),en P [73,110,100,101,110,116,97,116,105,111,110,69,114,114,111,114] 132 (.type PySem.W.SL.s15920661018069861047x16),en P [95,73,110,99,111,109,112,108,101,116,101,73,110,112,117,116,69,114,114,111,114] 133 (.type PySem.W.SL.s10779130036587390575x21),en P [73,110,100,101,120,69,114,114,111,114] 134 (.type PySem.W.SL.s7801419657504700863x10),en P [75,101,121,69,114,114,111,114] 135 (.type PySem.W.SL.s1688129525768580628x8),en P [77,111,100,117,108,101,78,111,116,70,111,117,110,100,69,114,114,111,114] 136 (.type PySem.W.SL.s1031832959479892071x19),en P [78,111,116,73,109,112,108,101,109,101,110,116,101,100,69,114,114,111,114] 137 (.type PySem.W.SL.s8991790508128307865x19),en P [80,121,116,104,111,110,70,105,110,97,108,105,122,97,116,105,111,110,69,114,114,111,114] 138 (.type PySem.W.SL.s14539662485746970245x23),en P [82,101,99,117,114,115,105,111,110,69,114,114,111,114] 139 (.type PySem.W.SL.s11643622729373238714x14),en P [85,110,98,111,117,110,100,76,111,99,97,108,69,114,114,111,114] 140 (.type PySem.W.SL.s3386828779285465597x17),en P [85,110,105,99,111,100,101,69,114,114,111,114] 141 (.type PySem.W.SL.s13042696260734638735x12),en P [66,114,111,107,101,110,80,105,112,101,69,114,114,111,114] 142 (.type PySem.W.SL.s18239426817015966623x15),en P [67,111,110,110,101,99,116,105,111,110,65,98,111,114,116,101,100,69,114,114,111,114] 143 (.type PySem.W.SL.s1270395311379034370x22),en P [67,111,110,110,101,99,116,105,111,110,82,101,102,117,115,101,100,69,114,114,111,114] 144 (.type PySem.W.SL.s10696252587037064777x22),en P [67,111,110,110,101,99,116,105,111,110,82,101,115,101,116,69,114,114,111,114] 145 (.type PySem.W.SL.s7852717498200857586x20),en P [84,97,98,69,114,114,111,114] 146 (.type PySem.W.SL.s6377248116197321094x8),en P [85,110,105,99,111,100,101,68,101,99,111,100,101,69,114,114,111,114] 147 (.type PySem.W.SL.s3834378056692298002x18),en P [85,110,105,99,111,100,101,69,110,99,111,100,101,69,114,114,111,114] 148 (.type PySem.W.SL.s17586630440231065808x18),en P [85,110,105,99,111,100,101,84,114,97,110,115,108,97,116,101,69,114,114,111,114] 149 (.type PySem.W.SL.s15234114252648025395x21),en P [69,120,99,101,112,116,105,111,110,71,114,111,117,112] 150 (.type PySem.W.SL.s8496462677383758984x14),en P [69,110,118,105,114,111,110,109,101,110,116,69,114,114,111,114] 151 rm,en P [73,79,69,114,114,111,114] 152 rm,en P [111,112,101,110] 153 (.builtin PySem.W.SL.s16789243406116112673x4),en P [113,117,105,116] 154 (.builtin PySem.W.SL.s14400166428656793546x20),en P [101,120,105,116] 155 (.builtin PySem.W.SL.s5857708277339239366x20),en P [99,111,112,121,114,105,103,104,116] 156 (.builtin "builtins.copyright#opaque"),en P [99,114,101,100,105,116,115] 157 (.builtin "builtins.credits#opaque"),en P [108,105,99,101,110,115,101] 158 (.builtin "builtins.license#opaque"),en P [104,101,108,112] 159 (.builtin PySem.W.SL.s7804999707787243718x20)]) 159),mA []⟩
noncomputable def ob1(P:Params):Obj:=⟨iz,none,(.dict (mA [en P [98,117,105,108,116,105,110,115] 162 (.ref 4),en P [95,95,109,97,105,110,95,95] 163 (.ref 5)]) 2),mA []⟩
noncomputable def ob2(P:Params):Obj:=⟨.none,none,(.dict (mA []) 0),mA []⟩
noncomputable def ob3(P:Params):Obj:=⟨iz,none,(.dict (mA [en P [95,95,110,97,109,101,95,95] 165 (.str (mS [108,97,119,95,115,119,48,48,53,57,95,48,49]) 2288),en P [95,95,100,111,99,95,95] 166 .none,en P [95,95,112,97,99,107,97,103,101,95,95] 167 .none,en P [95,95,108,111,97,100,101,114,95,95] 168 (.builtin PySem.W.SL.s7097527257260152453x26),en P [95,95,115,112,101,99,95,95] 169 .none,en P [95,95,97,110,110,111,116,97,116,105,111,110,115,95,95] 170 (.ref 6),en P [95,95,98,117,105,108,116,105,110,115,95,95] 171 (.ref 4),en P [95,95,102,105,108,101,95,95] 173 (.str (mS fpy) 172),en P [95,95,99,97,99,104,101,100,95,95] 174 .none,en P [67,72,65,82,95,77,65,88] 190 (.int 127 189),en P [95,103,114,111,117,112,105,110,103,95,105,110,116,101,114,118,97,108,115] 199 (.ref 21),en P [95,110,101,116,114,99,108,101,120] 259 (.ref 59),en P [98,49,95,115,101,116] 321 (.ref 71),en P [105,110,95,116,97,98,108,101,95,98,49] 328 (.ref 81),en P [98,51,95,101,120,99,101,112,116,105,111,110,115] 2279 (.ref 82),en P [109,97,112,95,116,97,98,108,101,95,98,51] 2287 (.ref 127),en P [95,108,97,119,95,116,111,116,97,108,115] 2298 (.ref 134),en P [95,108,97,119,95,114,117,108,101,114,115] 2304 (.ref 139),en P [95,108,97,119,95,119,111,114,100] 2310 (.ref 144),en P [95,108,97,119,95,108,101,120,101,114] 2321 (.ref 151),en P [95,108,97,119,95,109,97,114,107,115] 2332 (.ref 158),en P [108,97,119] 2338 (.ref 163)]) 22),mA []⟩
noncomputable def ob4(P:Params):Obj:=⟨(.type PySem.W.SL.s6658869562736209489x6),(some 0),.plain,mA []⟩
noncomputable def ob5(P:Params):Obj:=⟨(.type PySem.W.SL.s6658869562736209489x6),(some 3),.plain,mA []⟩
noncomputable def ob6(P:Params):Obj:=⟨iz,none,(.dict (mA []) 0),mA []⟩
noncomputable def ob7(P:Params):Obj:=⟨bb,none,(.seq (mA []) 0),mA []⟩
noncomputable def ob8(P:Params):Obj:=⟨.none,none,(.fields (mA [])),mA []⟩
noncomputable def ob9(P:Params):Obj:=⟨dN,none,(.fields (mA [(.str (mS [60,109,111,100,117,108,101,62]) 176),(.str (mS [60,109,111,100,117,108,101,62]) 177),(.str (mS fpy) 178),(.int 1 0),(.int 0 0),(.int 0 0),(.int 0 0),(.int 0 0),(.ref 7),(.bool false),(.int 175 0),(.ref 8),.none,.none,.none,.none,(.int 179 0),(.int 1 0),(.str (mS fpy) 180)])),mA []⟩
noncomputable def Bf(P:Params):Obj:=⟨rk,none,.plain,mA [(some (.ref 9)),(some (.ref 3)),(some (.ref 3)),none,(some (.str (mS [95,95,109,97,105,110,95,95]) 164)),none,(some (.ref 0))]⟩
noncomputable def xi(P:Params):Obj:=⟨bb,none,(.seq (mA []) 0),mA []⟩
noncomputable def sW(P:Params):Obj:=⟨.none,none,(.fields (mA [(.int 3 0),(.int 0 0),(.ref 20),(.int 16 0),(.int 0 0),(.ref 27),(.int 61 0),(.int 0 0),(.ref 80),(.int 64 0),(.int 0 0),(.ref 126),(.int 70 0),(.int 0 0),(.ref 133),(.int 76 0),(.int 0 0),(.ref 138),(.int 89 0),(.int 0 0),(.ref 143),(.int 105 0),(.int 0 0),(.ref 150),(.int 114 0),(.int 0 0),(.ref 157),(.int 123 0),(.int 0 0),(.ref 162)])),mA []⟩
noncomputable def wY(P:Params):Obj:=⟨dN,none,(.fields (mA [(.str (mS [60,109,111,100,117,108,101,62]) 182),(.str (mS [60,109,111,100,117,108,101,62]) 183),(.str (mS fpy) 184),(.int 1 0),(.int 0 0),(.int 0 0),(.int 0 0),(.int 0 0),(.ref 11),(.bool false),(.int 181 0),(.ref 12),.none,.none,.none,.none,(.int 185 0),(.int 1 0),(.str (mS fpy) 186)])),mA []⟩
noncomputable def wN(P:Params):Obj:=⟨rk,none,.plain,mA [(some (.ref 13)),(some (.ref 3)),(some (.ref 3)),none,(some (.str (mS [95,95,109,97,105,110,95,95]) 164)),none,(some (.ref 0))]⟩
noncomputable def Be(P:Params):Obj:=⟨bb,none,(.seq (mA []) 0),mA []⟩
noncomputable def Bd(P:Params):Obj:=⟨.none,none,(.fields (mA [])),mA []⟩
noncomputable def Bc(P:Params):Obj:=⟨bb,none,(.seq (mA [(.str (mS [103,114,111,117,112,105,110,103]) 194),(.str (mS [108,97,115,116,95,105,110,116,101,114,118,97,108]) 195),(.str (mS [105,110,116,101,114,118,97,108]) 196)]) 0),mA []⟩
noncomputable def Bb(P:Params):Obj:=⟨bb,none,(.seq (mA []) 0),mA []⟩
noncomputable def Ba(P:Params):Obj:=⟨.none,none,(.func (fdS (stA 2) (mS [95,103,114,111,117,112,105,110,103,95,105,110,116,101,114,118,97,108,115]) 0 .none .none 0)),mA []⟩
noncomputable def A9(P:Params):Obj:=⟨dN,none,(.fields (mA [(.str (mS [95,103,114,111,117,112,105,110,103,95,105,110,116,101,114,118,97,108,115]) 191),(.str (mS [95,103,114,111,117,112,105,110,103,95,105,110,116,101,114,118,97,108,115]) 192),(.str (mS fpy) 193),(.int 3 0),(.int 1 0),(.int 0 0),(.int 0 0),(.int 35 0),(.ref 15),(.bool true),(.int 181 0),(.ref 16),.none,(.ref 17),(.ref 18),(.ref 19),(.int 197 0),(.int 3 0),(.str (mS fpy) 198)])),mA []⟩
noncomputable def A8(P:Params):Obj:=⟨eO,none,(.func (fdS (stA 2) (mS [95,103,114,111,117,112,105,110,103,95,105,110,116,101,114,118,97,108,115]) 3 (.str (mS [99,112,121,51,49,51,46,108,111,99,97,108,101]) 187) (.ref 20) 0)),mA []⟩
noncomputable def A7(P:Params):Obj:=⟨bb,none,(.seq (mA []) 0),mA []⟩
noncomputable def A6(P:Params):Obj:=⟨(.type PySem.W.SL.s11030030927630378310x26),none,(.fields (mA [(.builtin PySem.W.SL.s10062305145149207511x16),rn])),mA []⟩
noncomputable def A5(P:Params):Obj:=⟨iz,none,(.dict (mA [en P [95,95,109,111,100,117,108,101,95,95] 209 (.str (mS [99,112,121,51,49,51,46,110,101,116,114,99]) 200),en P [95,95,113,117,97,108,110,97,109,101,95,95] 211 (.str (mS [95,110,101,116,114,99,108,101,120]) 210),en P [95,95,102,105,114,115,116,108,105,110,101,110,111,95,95] 213 (.int 16 212),en P [95,95,105,110,105,116,95,95] 221 (.ref 35),en P [95,114,101,97,100,95,99,104,97,114] 229 (.ref 42),en P [103,101,116,95,116,111,107,101,110] 239 (.ref 49),en P [112,117,115,104,95,116,111,107,101,110] 247 (.ref 56),en P [95,95,115,116,97,116,105,99,95,97,116,116,114,105,98,117,116,101,115,95,95] 252 (.ref 57)]) 8),mA []⟩
noncomputable def A4(P:Params):Obj:=⟨bb,none,(.seq (mA []) 0),mA []⟩
noncomputable def A3(P:Params):Obj:=⟨.none,none,(.fields (mA [(.int 18 0),(.int 4 0),(.ref 34),(.int 24 0),(.int 4 0),(.ref 41),(.int 30 0),(.int 4 0),(.ref 48),(.int 57 0),(.int 4 0),(.ref 55)])),mA []⟩
noncomputable def A0(P:Params):Obj:=⟨dN,none,(.fields (mA [(.str (mS [95,110,101,116,114,99,108,101,120]) 204),(.str (mS [95,110,101,116,114,99,108,101,120]) 205),(.str (mS fpy) 206),(.int 16 0),(.int 0 0),(.int 0 0),(.int 0 0),(.int 0 0),(.ref 25),(.bool false),(.int 181 0),(.ref 26),.none,.none,.none,.none,(.int 207 0),(.int 16 0),(.str (mS fpy) 208)])),mA []⟩
noncomputable def AZ(P:Params):Obj:=⟨rk,none,.plain,mA [(some (.ref 27)),(some (.ref 3)),(some (.ref 24)),none,(some (.str (mS [99,112,121,51,49,51,46,110,101,116,114,99]) 200)),none,(some (.ref 0))]⟩
noncomputable def AY(P:Params):Obj:=⟨bb,none,(.seq (mA []) 0),mA []⟩
noncomputable def AX(P:Params):Obj:=⟨.none,none,(.fields (mA [])),mA []⟩
noncomputable def AW(P:Params):Obj:=⟨bb,none,(.seq (mA [(.str (mS [115,101,108,102]) 217),(.str (mS [102,112]) 218)]) 0),mA []⟩
noncomputable def AV(P:Params):Obj:=⟨bb,none,(.seq (mA []) 0),mA []⟩
noncomputable def AU(P:Params):Obj:=⟨.none,none,(.func (fdS (stM 4 0) (mS [95,110,101,116,114,99,108,101,120,46,95,95,105,110,105,116,95,95]) 0 .none .none 0)),mA []⟩
noncomputable def AT(P:Params):Obj:=⟨dN,none,(.fields (mA [(.str (mS [95,95,105,110,105,116,95,95]) 214),(.str (mS [95,110,101,116,114,99,108,101,120,46,95,95,105,110,105,116,95,95]) 215),(.str (mS fpy) 216),(.int 18 0),(.int 2 0),(.int 0 0),(.int 0 0),(.int 3 0),(.ref 29),(.bool true),(.int 181 0),(.ref 30),.none,(.ref 31),(.ref 32),(.ref 33),(.int 219 0),(.int 18 0),(.str (mS fpy) 220)])),mA []⟩
noncomputable def AS(P:Params):Obj:=⟨eO,none,(.func (fdS (stM 4 0) (mS [95,110,101,116,114,99,108,101,120,46,95,95,105,110,105,116,95,95]) 3 (.str (mS [99,112,121,51,49,51,46,110,101,116,114,99]) 200) (.ref 34) 0)),mA []⟩
noncomputable def AR(P:Params):Obj:=⟨bb,none,(.seq (mA []) 0),mA []⟩
noncomputable def AQ(P:Params):Obj:=⟨.none,none,(.fields (mA [])),mA []⟩
noncomputable def AP(P:Params):Obj:=⟨bb,none,(.seq (mA [(.str (mS [115,101,108,102]) 225),(.str (mS [99,104]) 226)]) 0),mA []⟩
noncomputable def AO(P:Params):Obj:=⟨bb,none,(.seq (mA []) 0),mA []⟩
noncomputable def AN(P:Params):Obj:=⟨.none,none,(.func (fdS (stM 4 1) (mS [95,110,101,116,114,99,108,101,120,46,95,114,101,97,100,95,99,104,97,114]) 0 .none .none 0)),mA []⟩
noncomputable def AM(P:Params):Obj:=⟨dN,none,(.fields (mA [(.str (mS [95,114,101,97,100,95,99,104,97,114]) 222),(.str (mS [95,110,101,116,114,99,108,101,120,46,95,114,101,97,100,95,99,104,97,114]) 223),(.str (mS fpy) 224),(.int 24 0),(.int 1 0),(.int 0 0),(.int 0 0),(.int 3 0),(.ref 36),(.bool true),(.int 181 0),(.ref 37),.none,(.ref 38),(.ref 39),(.ref 40),(.int 227 0),(.int 24 0),(.str (mS fpy) 228)])),mA []⟩
noncomputable def wm(P:Params):Obj:=⟨eO,none,(.func (fdS (stM 4 1) (mS [95,110,101,116,114,99,108,101,120,46,95,114,101,97,100,95,99,104,97,114]) 3 (.str (mS [99,112,121,51,49,51,46,110,101,116,114,99]) 200) (.ref 41) 0)),mA []⟩
noncomputable def AL(P:Params):Obj:=⟨bb,none,(.seq (mA []) 0),mA []⟩
noncomputable def AK(P:Params):Obj:=⟨.none,none,(.fields (mA [])),mA []⟩
noncomputable def AJ(P:Params):Obj:=⟨bb,none,(.seq (mA [(.str (mS [115,101,108,102]) 233),(.str (mS [116,111,107,101,110]) 234),(.str (mS [102,105,116,101,114]) 235),(.str (mS [99,104]) 236)]) 0),mA []⟩
noncomputable def AI(P:Params):Obj:=⟨bb,none,(.seq (mA []) 0),mA []⟩
noncomputable def AH(P:Params):Obj:=⟨.none,none,(.func (fdS (stM 4 2) (mS [95,110,101,116,114,99,108,101,120,46,103,101,116,95,116,111,107,101,110]) 0 .none .none 0)),mA []⟩
noncomputable def AG(P:Params):Obj:=⟨dN,none,(.fields (mA [(.str (mS [103,101,116,95,116,111,107,101,110]) 230),(.str (mS [95,110,101,116,114,99,108,101,120,46,103,101,116,95,116,111,107,101,110]) 231),(.str (mS fpy) 232),(.int 30 0),(.int 1 0),(.int 0 0),(.int 0 0),(.int 3 0),(.ref 43),(.bool true),(.int 181 0),(.ref 44),.none,(.ref 45),(.ref 46),(.ref 47),(.int 237 0),(.int 30 0),(.str (mS fpy) 238)])),mA []⟩
noncomputable def AF(P:Params):Obj:=⟨eO,none,(.func (fdS (stM 4 2) (mS [95,110,101,116,114,99,108,101,120,46,103,101,116,95,116,111,107,101,110]) 3 (.str (mS [99,112,121,51,49,51,46,110,101,116,114,99]) 200) (.ref 48) 0)),mA []⟩
noncomputable def AE(P:Params):Obj:=⟨bb,none,(.seq (mA []) 0),mA []⟩
noncomputable def AD(P:Params):Obj:=⟨.none,none,(.fields (mA [])),mA []⟩
noncomputable def AC(P:Params):Obj:=⟨bb,none,(.seq (mA [(.str (mS [115,101,108,102]) 243),(.str (mS [116,111,107,101,110]) 244)]) 0),mA []⟩
noncomputable def AB(P:Params):Obj:=⟨bb,none,(.seq (mA []) 0),mA []⟩
noncomputable def AA(P:Params):Obj:=⟨.none,none,(.func (fdS (stM 4 3) (mS [95,110,101,116,114,99,108,101,120,46,112,117,115,104,95,116,111,107,101,110]) 0 .none .none 0)),mA []⟩
noncomputable def Az(P:Params):Obj:=⟨dN,none,(.fields (mA [(.str (mS [112,117,115,104,95,116,111,107,101,110]) 240),(.str (mS [95,110,101,116,114,99,108,101,120,46,112,117,115,104,95,116,111,107,101,110]) 241),(.str (mS fpy) 242),(.int 57 0),(.int 2 0),(.int 0 0),(.int 0 0),(.int 3 0),(.ref 50),(.bool true),(.int 181 0),(.ref 51),.none,(.ref 52),(.ref 53),(.ref 54),(.int 245 0),(.int 57 0),(.str (mS fpy) 246)])),mA []⟩
noncomputable def Ay(P:Params):Obj:=⟨eO,none,(.func (fdS (stM 4 3) (mS [95,110,101,116,114,99,108,101,120,46,112,117,115,104,95,116,111,107,101,110]) 3 (.str (mS [99,112,121,51,49,51,46,110,101,116,114,99]) 200) (.ref 55) 0)),mA []⟩
noncomputable def Ax(P:Params):Obj:=⟨bb,none,(.seq (mA [(.str (mS [105,110,115,116,114,101,97,109]) 248),(.str (mS [108,105,110,101,110,111]) 249),(.str (mS [112,117,115,104,98,97,99,107]) 250),(.str (mS [119,104,105,116,101,115,112,97,99,101]) 251)]) 0),mA []⟩
noncomputable def Aw(P:Params):Obj:=⟨iz,none,(.dict (mA [en P [95,95,109,111,100,117,108,101,95,95] 209 (.str (mS [99,112,121,51,49,51,46,110,101,116,114,99]) 200),en P [95,95,102,105,114,115,116,108,105,110,101,110,111,95,95] 213 (.int 16 212),en P [95,95,105,110,105,116,95,95] 221 (.ref 35),en P [95,114,101,97,100,95,99,104,97,114] 229 (.ref 42),en P [103,101,116,95,116,111,107,101,110] 239 (.ref 49),en P [112,117,115,104,95,116,111,107,101,110] 247 (.ref 56),en P [95,95,115,116,97,116,105,99,95,97,116,116,114,105,98,117,116,101,115,95,95] 252 (.ref 57),en P [95,95,100,105,99,116,95,95] 254 (.ref 60),en P [95,95,119,101,97,107,114,101,102,95,95] 256 (.ref 61),en P [95,95,100,111,99,95,95] 257 .none]) 4),mA []⟩
noncomputable def Av(P:Params):Obj:=⟨rn,none,(.cls (⟨(mS [95,110,101,116,114,99,108,101,120]),[ro],[(.ref 59),ro],58,(mS [95,110,101,116,114,99,108,101,120]),true,[],[],false,none,false⟩)),mA [none,none,(some (.str (mS [95,110,101,116,114,99,108,101,120]) 202)),(some (.str (mS [95,110,101,116,114,99,108,101,120]) 210)),(some (.builtin PySem.W.SL.s11443829558043349243x14)),(some (.bool true))]⟩
noncomputable def Au(P:Params):Obj:=⟨(.type PySem.W.SL.s14755015743595814543x17),none,(.fields (mA [(.str (mS [95,95,100,105,99,116,95,95]) 253),(.ref 59),(.builtin PySem.W.SL.s6511155373996960695x17),(.builtin PySem.W.SL.s12411053484034534018x21)])),mA []⟩
noncomputable def At(P:Params):Obj:=⟨(.type PySem.W.SL.s14755015743595814543x17),none,(.fields (mA [(.str (mS [95,95,119,101,97,107,114,101,102,95,95]) 255),(.ref 59),(.builtin PySem.W.SL.s10220274742760427390x26),.none])),mA []⟩
noncomputable def As(P:Params):Obj:=⟨(.type PySem.W.SL.s4290257624100764138x5),none,(.fields (mA [(.ref 59),(.ref 59),(.ref 59)])),mA []⟩
noncomputable def Aq(P:Params):Obj:=⟨(.type PySem.W.SL.s11030030927630378310x26),none,(.fields (mA [(.builtin PySem.W.SL.s4860613602091757760x24),(.ref 59)])),mA []⟩
noncomputable def Ap(P:Params):Obj:=⟨o8,none,(.seq (mA [(.int 173 262),(.int 847 263),(.int 6150 264),(.int 6155 265),(.int 6156 266),(.int 6157 267),(.int 8203 268),(.int 8204 269),(.int 8205 270),(.int 8288 271),(.int 65279 272)]) 0),mA []⟩
noncomputable def Ao(P:Params):Obj:=⟨(.type PySem.W.SL.s1438033511350832697x5),none,(.fields (mA [(.int 65024 273),(.int 65040 274),(.int 1 275)])),mA []⟩
noncomputable def An(P:Params):Obj:=⟨o8,none,(.seq (mA [(.int 65024 278),(.int 65025 279),(.int 65026 280),(.int 65027 281),(.int 65028 282),(.int 65029 283),(.int 65030 284),(.int 65031 285),(.int 65032 286),(.int 65033 287),(.int 65034 288),(.int 65035 289),(.int 65036 290),(.int 65037 291),(.int 65038 292),(.int 65039 293)]) 18),mA []⟩
noncomputable def Am(P:Params):Obj:=⟨(.type PySem.W.SL.s15992201931430999065x14),none,(.fields (mA [(.int 65040 0),(.int 0 0),(.int 1 0)])),mA []⟩
noncomputable def Al(P:Params):Obj:=⟨bb,none,(.seq (mA []) 0),mA []⟩
noncomputable def Ak(P:Params):Obj:=⟨rl,none,(.fields (mA [(.ref 68),.none,.none,.none,(.bool false),.none])),mA []⟩
noncomputable def Aj(P:Params):Obj:=⟨o8,none,(.seq (mA [(.int 173 262),(.int 847 263),(.int 6150 264),(.int 6155 265),(.int 6156 266),(.int 6157 267),(.int 8203 268),(.int 8204 269),(.int 8205 270),(.int 8288 271),(.int 65279 272),(.int 65024 278),(.int 65025 279),(.int 65026 280),(.int 65027 281),(.int 65028 282),(.int 65029 283),(.int 65030 284),(.int 65031 285),(.int 65032 286),(.int 65033 287),(.int 65034 288),(.int 65035 289),(.int 65036 290),(.int 65037 291),(.int 65038 292),(.int 65039 293)]) 0),mA []⟩
noncomputable def pC(P:Params):Obj:=⟨(.type PySem.W.SL.s3642769012341782148x3),none,(.set (mA [(65024,(.int 65024 278)),(65025,(.int 65025 279)),(65026,(.int 65026 280)),(65027,(.int 65027 281)),(65028,(.int 65028 282)),(65029,(.int 65029 283)),(6150,(.int 6150 264)),(65030,(.int 65030 284)),(65031,(.int 65031 285)),(65032,(.int 65032 286)),(65033,(.int 65033 287)),(6155,(.int 6155 265)),(6156,(.int 6156 266)),(6157,(.int 6157 267)),(8203,(.int 8203 268)),(8204,(.int 8204 269)),(8205,(.int 8205 270)),(65034,(.int 65034 288)),(65035,(.int 65035 289)),(65036,(.int 65036 290)),(65037,(.int 65037 291)),(65038,(.int 65038 292)),(65039,(.int 65039 293)),(173,(.int 173 262)),(847,(.int 847 263)),(8288,(.int 8288 271)),(65279,(.int 65279 272))]) 29 ⟨127,mA [0,1,2,3,4,5,6,7,8,9,10,11,12,13,14,15,16,17,18,19,20,21,22,45,79,96,127],mA [],0,!(P.followText "set-order"),2,true⟩),mA []⟩
noncomputable def Ai(P:Params):Obj:=⟨(.type PySem.W.SL.s3492446563574874994x13),none,(.fields (mA [.none,(.int 27 0)])),mA []⟩
noncomputable def Ah(P:Params):Obj:=⟨bb,none,(.seq (mA []) 0),mA []⟩
noncomputable def Af(P:Params):Obj:=⟨rl,none,(.fields (mA [(.ref 73),.none,.none,.none,(.bool false),.none])),mA []⟩
noncomputable def Ae(P:Params):Obj:=⟨bb,none,(.seq (mA []) 0),mA []⟩
noncomputable def Ad(P:Params):Obj:=⟨.none,none,(.fields (mA [])),mA []⟩
noncomputable def Ac(P:Params):Obj:=⟨bb,none,(.seq (mA [(.str (mS [99,111,100,101]) 325)]) 0),mA []⟩
noncomputable def Ab(P:Params):Obj:=⟨bb,none,(.seq (mA []) 0),mA []⟩
noncomputable def Aa(P:Params):Obj:=⟨.none,none,(.func (fdS (stA 7) (mS [105,110,95,116,97,98,108,101,95,98,49]) 0 .none .none 0)),mA []⟩
noncomputable def z0(P:Params):Obj:=⟨dN,none,(.fields (mA [(.str (mS [105,110,95,116,97,98,108,101,95,98,49]) 322),(.str (mS [105,110,95,116,97,98,108,101,95,98,49]) 323),(.str (mS fpy) 324),(.int 61 0),(.int 1 0),(.int 0 0),(.int 0 0),(.int 3 0),(.ref 75),(.bool true),(.int 181 0),(.ref 76),.none,(.ref 77),(.ref 78),(.ref 79),(.int 326 0),(.int 61 0),(.str (mS fpy) 327)])),mA []⟩
noncomputable def zZ(P:Params):Obj:=⟨eO,none,(.func (fdS (stA 7) (mS [105,110,95,116,97,98,108,101,95,98,49]) 3 (.str (mS [99,112,121,51,49,51,46,115,116,114,105,110,103,112,114,101,112]) 260) (.ref 80) 0)),mA []⟩
noncomputable def pB(P:Params):Obj:=⟨iz,none,(.dict (mA (b3E 0 650)) 650),mA []⟩
noncomputable def xh(P:Params):Obj:=⟨bb,none,(.seq (mA []) 0),mA []⟩
noncomputable def xg(P:Params):Obj:=⟨.none,none,(.fields (mA [])),mA []⟩
noncomputable def xf(P:Params):Obj:=⟨bb,none,(.seq (mA [(.str (mS [99,111,100,101]) 2283),(.str (mS [114]) 2284)]) 0),mA []⟩
noncomputable def xe(P:Params):Obj:=⟨bb,none,(.seq (mA []) 0),mA []⟩
noncomputable def xd(P:Params):Obj:=⟨.none,none,(.func (fdS (stA 9) (mS [109,97,112,95,116,97,98,108,101,95,98,51]) 0 .none .none 0)),mA []⟩
noncomputable def xc(P:Params):Obj:=⟨dN,none,(.fields (mA [(.str (mS [109,97,112,95,116,97,98,108,101,95,98,51]) 2280),(.str (mS [109,97,112,95,116,97,98,108,101,95,98,51]) 2281),(.str (mS fpy) 2282),(.int 64 0),(.int 1 0),(.int 0 0),(.int 0 0),(.int 3 0),(.ref 121),(.bool true),(.int 181 0),(.ref 122),.none,(.ref 123),(.ref 124),(.ref 125),(.int 2285 0),(.int 64 0),(.str (mS fpy) 2286)])),mA []⟩
noncomputable def xb(P:Params):Obj:=⟨eO,none,(.func (fdS (stA 9) (mS [109,97,112,95,116,97,98,108,101,95,98,51]) 3 (.str (mS [99,112,121,51,49,51,46,115,116,114,105,110,103,112,114,101,112]) 260) (.ref 126) 0)),mA []⟩
noncomputable def xa(P:Params):Obj:=⟨bb,none,(.seq (mA []) 0),mA []⟩
noncomputable def wZ(P:Params):Obj:=⟨.none,none,(.fields (mA [])),mA []⟩
noncomputable def wX(P:Params):Obj:=⟨bb,none,(.seq (mA [(.str (mS [115,99,114,105,112,116]) 2293),(.str (mS [116,111,116,97,108,115]) 2294),(.str (mS [107]) 2295)]) 0),mA []⟩
noncomputable def wW(P:Params):Obj:=⟨bb,none,(.seq (mA []) 0),mA []⟩
noncomputable def wV(P:Params):Obj:=⟨.none,none,(.func (fdS (stA 11) (mS [95,108,97,119,95,116,111,116,97,108,115]) 0 .none .none 0)),mA []⟩
noncomputable def wU(P:Params):Obj:=⟨dN,none,(.fields (mA [(.str (mS [95,108,97,119,95,116,111,116,97,108,115]) 2290),(.str (mS [95,108,97,119,95,116,111,116,97,108,115]) 2291),(.str (mS fpy) 2292),(.int 70 0),(.int 1 0),(.int 0 0),(.int 0 0),(.int 3 0),(.ref 128),(.bool true),(.int 181 0),(.ref 129),.none,(.ref 130),(.ref 131),(.ref 132),(.int 2296 0),(.int 70 0),(.str (mS fpy) 2297)])),mA []⟩
noncomputable def wT(P:Params):Obj:=⟨eO,none,(.func (fdS (stA 11) (mS [95,108,97,119,95,116,111,116,97,108,115]) 3 (.str (mS [108,97,119,95,115,119,48,48,53,57,95,48,49]) 2288) (.ref 133) 0)),mA []⟩
noncomputable def wS(P:Params):Obj:=⟨bb,none,(.seq (mA []) 0),mA []⟩
noncomputable def wR(P:Params):Obj:=⟨.none,none,(.fields (mA [])),mA []⟩
noncomputable def wQ(P:Params):Obj:=⟨.none,none,(.func (fdS (stA 12) (mS [95,108,97,119,95,114,117,108,101,114,115]) 0 .none .none 0)),mA []⟩
noncomputable def wP(P:Params):Obj:=⟨dN,none,(.fields (mA [(.str (mS [95,108,97,119,95,114,117,108,101,114,115]) 2299),(.str (mS [95,108,97,119,95,114,117,108,101,114,115]) 2300),(.str (mS fpy) 2301),(.int 76 0),(.int 1 0),(.int 0 0),(.int 0 0),(.int 3 0),(.ref 135),(.bool true),(.int 181 0),(.ref 136),.none,.none,.none,(.ref 137),(.int 2302 0),(.int 76 0),(.str (mS fpy) 2303)])),mA []⟩
noncomputable def wO(P:Params):Obj:=⟨eO,none,(.func (fdS (stA 12) (mS [95,108,97,119,95,114,117,108,101,114,115]) 3 (.str (mS [108,97,119,95,115,119,48,48,53,57,95,48,49]) 2288) (.ref 138) 0)),mA []⟩
noncomputable def wM(P:Params):Obj:=⟨bb,none,(.seq (mA []) 0),mA []⟩
noncomputable def wL(P:Params):Obj:=⟨.none,none,(.fields (mA [])),mA []⟩
noncomputable def wK(P:Params):Obj:=⟨.none,none,(.func (fdS (stA 13) (mS [95,108,97,119,95,119,111,114,100]) 0 .none .none 0)),mA []⟩
noncomputable def wJ(P:Params):Obj:=⟨dN,none,(.fields (mA [(.str (mS [95,108,97,119,95,119,111,114,100]) 2305),(.str (mS [95,108,97,119,95,119,111,114,100]) 2306),(.str (mS fpy) 2307),(.int 89 0),(.int 2 0),(.int 0 0),(.int 0 0),(.int 3 0),(.ref 140),(.bool true),(.int 181 0),(.ref 141),.none,.none,.none,(.ref 142),(.int 2308 0),(.int 89 0),(.str (mS fpy) 2309)])),mA []⟩
noncomputable def wI(P:Params):Obj:=⟨eO,none,(.func (fdS (stA 13) (mS [95,108,97,119,95,119,111,114,100]) 3 (.str (mS [108,97,119,95,115,119,48,48,53,57,95,48,49]) 2288) (.ref 143) 0)),mA []⟩
noncomputable def wH(P:Params):Obj:=⟨bb,none,(.seq (mA []) 0),mA []⟩
noncomputable def wG(P:Params):Obj:=⟨.none,none,(.fields (mA [])),mA []⟩
noncomputable def wF(P:Params):Obj:=⟨bb,none,(.seq (mA [(.str (mS [116,101,120,116]) 2314),(.str (mS [114,101,97,100]) 2315),(.str (mS [115,116,114,101,97,109]) 2316)]) 0),mA []⟩
noncomputable def wE(P:Params):Obj:=⟨bb,none,(.seq (mA [(.str (mS [116,101,120,116]) 2317),(.str (mS [112,108,97,99,101]) 2318)]) 0),mA []⟩
noncomputable def wD(P:Params):Obj:=⟨.none,none,(.func (fdS (stA 14) (mS [95,108,97,119,95,108,101,120,101,114]) 0 .none .none 0)),mA []⟩
noncomputable def lj(P:Params):Obj:=⟨dN,none,(.fields (mA [(.str (mS [95,108,97,119,95,108,101,120,101,114]) 2311),(.str (mS [95,108,97,119,95,108,101,120,101,114]) 2312),(.str (mS fpy) 2313),(.int 105 0),(.int 1 0),(.int 0 0),(.int 0 0),(.int 3 0),(.ref 145),(.bool true),(.int 181 0),(.ref 146),.none,(.ref 147),(.ref 148),(.ref 149),(.int 2319 0),(.int 105 0),(.str (mS fpy) 2320)])),mA []⟩
noncomputable def wC(P:Params):Obj:=⟨eO,none,(.func (fdS (stA 14) (mS [95,108,97,119,95,108,101,120,101,114]) 3 (.str (mS [108,97,119,95,115,119,48,48,53,57,95,48,49]) 2288) (.ref 150) 0)),mA []⟩
noncomputable def wA(P:Params):Obj:=⟨bb,none,(.seq (mA []) 0),mA []⟩
noncomputable def wz(P:Params):Obj:=⟨.none,none,(.fields (mA [])),mA []⟩
noncomputable def wy(P:Params):Obj:=⟨bb,none,(.seq (mA [(.str (mS [114,111,119]) 2325),(.str (mS [112,108,97,99,101,115]) 2326),(.str (mS [109,97,114,107,115]) 2327),(.str (mS [112,108,97,99,101]) 2328),(.str (mS [115,105,122,101]) 2329)]) 0),mA []⟩
noncomputable def wx(P:Params):Obj:=⟨bb,none,(.seq (mA []) 0),mA []⟩
noncomputable def ww(P:Params):Obj:=⟨.none,none,(.func (fdS (stA 15) (mS [95,108,97,119,95,109,97,114,107,115]) 0 .none .none 0)),mA []⟩
noncomputable def wv(P:Params):Obj:=⟨dN,none,(.fields (mA [(.str (mS [95,108,97,119,95,109,97,114,107,115]) 2322),(.str (mS [95,108,97,119,95,109,97,114,107,115]) 2323),(.str (mS fpy) 2324),(.int 114 0),(.int 2 0),(.int 0 0),(.int 0 0),(.int 3 0),(.ref 152),(.bool true),(.int 181 0),(.ref 153),.none,(.ref 154),(.ref 155),(.ref 156),(.int 2330 0),(.int 114 0),(.str (mS fpy) 2331)])),mA []⟩
noncomputable def wu(P:Params):Obj:=⟨eO,none,(.func (fdS (stA 15) (mS [95,108,97,119,95,109,97,114,107,115]) 3 (.str (mS [108,97,119,95,115,119,48,48,53,57,95,48,49]) 2288) (.ref 157) 0)),mA []⟩
noncomputable def wt(P:Params):Obj:=⟨bb,none,(.seq (mA []) 0),mA []⟩
noncomputable def wr(P:Params):Obj:=⟨.none,none,(.fields (mA [])),mA []⟩
noncomputable def wq(P:Params):Obj:=⟨.none,none,(.func (fdS (stA 16) (mS [108,97,119]) 0 .none .none 0)),mA []⟩
noncomputable def wo(P:Params):Obj:=⟨dN,none,(.fields (mA [(.str (mS [108,97,119]) 2333),(.str (mS [108,97,119]) 2334),(.str (mS fpy) 2335),(.int 123 0),(.int 1 0),(.int 0 0),(.int 0 0),(.int 3 0),(.ref 159),(.bool true),(.int 181 0),(.ref 160),.none,.none,.none,(.ref 161),(.int 2336 0),(.int 123 0),(.str (mS fpy) 2337)])),mA []⟩
noncomputable def wn(P:Params):Obj:=⟨eO,none,(.func (fdS (stA 16) (mS [108,97,119]) 3 (.str (mS [108,97,119,95,115,119,48,48,53,57,95,48,49]) 2288) (.ref 162) 0)),mA []⟩
noncomputable def Tb(P:Params):KT:=(.node (some (ob0 P)) (.node (some (ob1 P)) (.node (some (ob3 P)) (.node (some (ob7 P)) (.node (some (Be P)) (.node (some (AW P)) (.node (some (Aq P)) (.node (some (xb P)) .nil .nil) .nil) (.node none (.node (some (wt P)) .nil .nil) .nil)) (.node (some (AH P)) (.node (some (Aa P)) (.node (some (wJ P)) .nil .nil) .nil) .nil)) (.node (some (A6 P)) (.node (some (AO P)) (.node (some (pC P)) (.node (some (wS P)) .nil .nil) .nil) .nil) (.node (some (Az P)) (.node none (.node (some (wC P)) .nil .nil) .nil) .nil))) (.node (some (xi P)) (.node (some (Ba P)) (.node (some (AS P)) (.node none (.node (some (wW P)) .nil .nil) .nil) (.node none (.node (some (wn P)) .nil .nil) .nil)) (.node (some (AD P)) (.node none (.node (some (wF P)) .nil .nil) .nil) .nil)) (.node (some (A0 P)) (.node (some (AL P)) (.node (some (Ae P)) (.node (some (wO P)) .nil .nil) .nil) .nil) (.node (some (Av P)) (.node none (.node (some (wx P)) .nil .nil) .nil) (.node (some (xf P)) .nil .nil))))) (.node (some (ob5 P)) (.node (some (ob9 P)) (.node (some (Bc P)) (.node (some (AU P)) (.node none (.node (some (wZ P)) .nil .nil) .nil) (.node none (.node (some (wq P)) .nil .nil) .nil)) (.node (some (AF P)) (.node (some (zZ P)) (.node (some (wH P)) .nil .nil) .nil) .nil)) (.node (some (A4 P)) (.node (some (AM P)) (.node none (.node (some (wQ P)) .nil .nil) .nil) .nil) (.node (some (Ax P)) (.node none (.node (some (wz P)) .nil .nil) .nil) (.node (some (xh P)) .nil .nil)))) (.node (some (wY P)) (.node (some (A8 P)) (.node (some (AQ P)) (.node none (.node (some (wU P)) .nil .nil) .nil) .nil) (.node (some (AB P)) (.node none (.node (some (wD P)) .nil .nil) .nil) .nil)) (.node (some (AY P)) (.node (some (AJ P)) (.node (some (Ac P)) (.node (some (wL P)) .nil .nil) .nil) .nil) (.node (some (At P)) (.node none (.node (some (wv P)) .nil .nil) .nil) (.node (some (xd P)) .nil .nil)))))) (.node (some (ob2 P)) (.node (some (ob4 P)) (.node (some (ob8 P)) (.node (some (Bd P)) (.node (some (AV P)) (.node none (.node (some (xa P)) .nil .nil) .nil) (.node none (.node (some (wr P)) .nil .nil) .nil)) (.node (some (AG P)) (.node (some (z0 P)) (.node (some (wI P)) .nil .nil) .nil) .nil)) (.node (some (A5 P)) (.node (some (AN P)) (.node none (.node (some (wR P)) .nil .nil) .nil) .nil) (.node (some (Ay P)) (.node none (.node (some (wA P)) .nil .nil) .nil) .nil))) (.node (some (sW P)) (.node (some (A9 P)) (.node (some (AR P)) (.node none (.node (some (wV P)) .nil .nil) .nil) .nil) (.node (some (AC P)) (.node none (.node (some (wE P)) .nil .nil) .nil) .nil)) (.node (some (AZ P)) (.node (some (AK P)) (.node (some (Ad P)) (.node (some (wM P)) .nil .nil) .nil) .nil) (.node (some (Au P)) (.node none (.node (some (ww P)) .nil .nil) .nil) (.node (some (xe P)) .nil .nil))))) (.node (some (ob6 P)) (.node (some (Bf P)) (.node (some (Bb P)) (.node (some (AT P)) (.node none (.node (some (wX P)) .nil .nil) .nil) (.node none (.node (some (wo P)) .nil .nil) .nil)) (.node (some (AE P)) (.node (some (pB P)) .nil .nil) .nil)) (.node (some (A3 P)) (.node (some (wm P)) (.node none (.node (some (wP P)) .nil .nil) .nil) .nil) (.node (some (Aw P)) (.node none (.node (some (wy P)) .nil .nil) .nil) (.node (some (xg P)) .nil .nil)))) (.node (some (wN P)) (.node (some (A7 P)) (.node (some (AP P)) (.node none (.node (some (wT P)) .nil .nil) .nil) .nil) (.node (some (AA P)) (.node none (.node (some (lj P)) .nil .nil) .nil) .nil)) (.node (some (AX P)) (.node (some (AI P)) (.node (some (Ab P)) (.node (some (wK P)) .nil .nil) .nil) .nil) (.node (some (As P)) (.node none (.node (some (wu P)) .nil .nil) .nil) (.node (some (xc P)) .nil .nil)))))))
end
section
open PySem PySem.W PySem.W.X
inductive KS where
 | base
 | ret (k:Result→Sem PySem.Fin) (c:Code) (p:Pos) (κ:KS)
noncomputable def KS.wh:KS→List (Code × Pos)
 | .base=>[]
 | .ret _ c p κ=>(c,p)::κ.wh
inductive FR:KS→List Frame→Prop
 | base:FR .base []
 | ret {k:Result→Sem PySem.Fin} {g:Bool} {l:List Value} {c:Code} {p:Pos} {kept:List Value} {κ:KS} {st:List Frame} (x:FR κ st):FR (.ret k c p κ) (.ret k none g l c p kept::st)
noncomputable def cb(a:Nat):Bool:=match Nat.ble 11 a with
 | true=>true
 | false=>match Nat.beq a mainNs with
  | true=>true
  | false=>match Nat.beq a cStatics with
   | true=>true
   | false=>Nat.beq a 6
noncomputable def nJ{α:Type}:List DictEntry→(List DictEntry→α)→α
 | [],k=>k []
 | e::l,k=>match e with
  | ⟨h,x,v⟩=>nJ l λl'=>k (⟨h,x,v⟩::l')
noncomputable def nI{α:Type}(o:Obj)(k:Obj→α):α:=match o with
 | ⟨cls,dd,dt,sl⟩=>match dt with
  | .dict es m=>match es with
   | ⟨l⟩=>nJ l λl'=>k ⟨cls,dd,.dict ⟨l'⟩ m,sl⟩
  | dt=>k ⟨cls,dd,dt,sl⟩
theorem jS{α:Type}:∀(l:List DictEntry) (k:List DictEntry→α),nJ l k=k l
 | [],_=>rfl
 | ⟨h,x,v⟩::l,k=>jS l _
variable{κ:KS}{st:List Frame}{w:World}{gens:Array GenState}{drawn:Drawn}{os:OsState}{c:Code}
theorem jR{α:Type}(o:Obj)(k:Obj→α):nI o k=k o:=by
 obtain⟨cls,dd,dt,sl⟩:=o
 cases dt with
 | dict es m=>exact jS _ _
 | _=>rfl
theorem cj{f:Obj→Obj}{o:Obj}:∀{T:BT} {a:Nat},T.get a=some o→(T.set a λ_=>f o)=T.set a f
 | .nil,_,h=>by cases h
 | .node v l r,a,h=>by
  rw[BT.get_node]at h
  rw[BT.set_node,BT.set_node]
  by_cases h0:a=0
  ·rw[if_pos h0,if_pos h0]
   rw[if_pos h0]at h
   cases h;rfl
  ·rw[if_neg h0,if_neg h0]
   rw[if_neg h0]at h
   by_cases h1:a%2=1
   ·rw[if_pos h1,if_pos h1]
    rw[if_pos h1]at h
    rw[cj h]
   ·rw[if_neg h1,if_neg h1]
    rw[if_neg h1]at h
    rw[cj h]
noncomputable abbrev HSt:=BT→Nat→Nat→Option (Flow × BT × Nat × Nat × Code × Pos)
noncomputable abbrev HTy:=Sem PySem.Fin→KS→Code→Pos→HSt
noncomputable def h7(P:Params)(ih:HTy)(t:Sem PySem.Fin)(κ:KS):Code→Pos→HSt:=match t with
 | .pure fin=>match fin with
  | .done f=>match κ with
   | .base=>λc p T n i=>some (f,T,n,i,c,p)
   | .ret k c p κ=>λ_ _=>ih (k (.ok f)) κ c p
  | .again c'=>match qk c' with
   | true=>λ_=>ih (D c') κ c'
   | false=>λ_ _ _ _ _=>none
 | .raise e=>match κ with
  | .base=>λ_ _ _ _ _=>none
  | .ret k c p κ=>λ_ _=>ih (k (.error e)) κ c p
 | .rule _ k=>ih (k ()) κ
 | .point _ k=>ih (k ()) κ
 | .at p k=>λc _=>ih (k ()) κ c p
 | .ask k=>ih (k ⟨pw,P⟩) κ
 | .fresh k=>λc p T n i=>match i with
  | 0=>ih (k 0) κ c p T n 1
  | i+1=>ih (k (i+1)) κ c p T n (i+2)
 | .stack k=>λc p=>ih (k ((c,p)::κ.wh)) κ c p
 | .handled _ k=>ih (k none) κ
 | .load a _ k=>λc p T n i=>match Nat.blt a n with
  | true=>match T.get a with
   | some o=>match alive o with
    | some o'=>ih (k o') κ c p T n i
    | none=>none
   | none=>none
  | false=>none
 | .loadIfAlive a k=>λc p T n i=>match Nat.blt a n with
  | true=>match T.get a with
   | some o=>ih (k (alive o)) κ c p T n i
   | none=>none
  | false=>ih (k none) κ c p T n i
 | .update a _ f k=>λc p T n i=>match cb a with
  | true=>match Nat.blt a n with
   | true=>match T.get a with
    | some o=>match alive o with
     | some _=>nI (f o) λo'=>ih (k ()) κ c p (T.set a λ_=>o') n i
     | none=>none
    | none=>none
   | false=>none
  | false=>none
 | .alloc o k=>λc p T n i=>match n with
  | 0=>none
  | n+1=>match((T.ins (n+1) o).get (n+1)).isSome with
   | true=>ih (k (n+1)) κ c p (T.ins (n+1) o) (n+2) i
   | false=>none
 | .call c' hd _ _ k=>match hd with
  | none=>λc p=>ih (D c') (.ret k c p κ) c' p
  | some _=>λ_ _ _ _ _=>none
 | _=>λ_ _ _ _ _=>none
noncomputable def dx(P:Params):Nat→HTy
 | 0=>λ_ _ _ _ _ _ _=>none
 | n+1=>h7 P (dx P n)
theorem FR.gen(h:FR κ st):splitAtGen st=none:=by
 induction h with
 | base=>rfl
 | ret x ih=>simp only[splitAtGen,ih,Option.map_none]
theorem FR.top(h:FR κ st):topHandled.go false st=none:=by
 induction h with
 | base=>simp only[topHandled.go]
 | ret x ih=>simp only[topHandled.go,ih]
theorem FR.handled(h:FR κ st)(own:Bool):topHandled (if own then(match splitAtGen st with | some (fs,_,_)=>fs | none=>st)else st)=none:=by
 cases own
 ·exact h.top
 ·simp only[h.gen,if_true]
  exact h.top
theorem FR.wh(h:FR κ st):st.map Frame.where_=κ.wh:=by
 induction h with
 | base=>rfl
 | ret x ih=>rw[List.map_cons,ih];rfl
theorem jF{P:Program}{H:Heap}{toks:Nat}{den:Code→Sem PySem.Fin}{code:Code}{pos:Pos}(h:FR κ st):
  ∃st',FR κ st'∧step den P w ⟨H,gens,drawn,toks,os⟩ ⟨.pure (.again c),code,pos,st⟩=.go ⟨H,gens,drawn,toks,os⟩ ⟨den c,c,pos,st'⟩:=by
 cases h with
 | base=>exact⟨[],.base,by cases code<;>cases c<;>rfl⟩
 | ret x=>exact⟨_,.ret x,step_again⟩
theorem pA{a:Nat}(h:cb a=true):(Nat.ble 11 a||a==mainNs||a==cStatics||(some (Value.ref 6):Option Value)==some (.ref a))=true:=by
 unfold cb at h
 split at h
 ·rename_i q;rw[q];rfl
 ·split at h
  ·rename_i q
   have:=Nat.eq_of_beq_eq_true q
   subst this
   decide+kernel
  ·split at h
   ·rename_i q
    have:=Nat.eq_of_beq_eq_true q
    subst this
    decide+kernel
   ·have:=Nat.eq_of_beq_eq_true h
    subst this
    decide+kernel
theorem df{s s':SharedT}{t t':Thread}{N:Nat}{r:Shared}(h1:through t=false)(h2:stepOk 11 (some (.ref 6)) t=true)(h3:stepT (denote table) pw w s t=some (s',t'))
  (h:topRun table pw w 11 (some (.ref 6)) N s'.abs t'=some r):topRun table pw w 11 (some (.ref 6)) (N+1) s.abs t=some r:=by
 unfold topRun
 rw[h1,h2,stepT_spec h3]
 exact h
theorem bm{t:Sem PySem.Fin}{p:Pos}(h:∀f,t≠.pure (.done f)):through ⟨t,c,p,st⟩=false:=by
 unfold through
 rw[Bool.and_eq_false_iff]
 right
 dsimp only
 split
 ·exact absurd rfl (h _)
 ·rfl
theorem kW{life:Life}:∀(N:Nat) (t:Sem PySem.Fin) (κ:KS) (c:Code) (p:Pos) (T:BT) (n i:Nat) (st:List Frame) (f:Flow) (T':BT) (n' i':Nat) (c':Code) (p':Pos),
  dx w.params N t κ c p T n i=some (f,T',n',i',c',p')→FR κ st→
  topRun table pw w 11 (some (.ref 6)) N (SharedT.abs ⟨T,n,life,gens,drawn,i,os⟩) ⟨t,c,p,st⟩=some (SharedT.abs ⟨T',n',life,gens,drawn,i',os⟩):=by
 intro N
 induction N with
 | zero=>intro t κ c p T n i st f T' n' i' c' p' h;cases h
 | succ N ih=>
  intro t κ c p T n i st f T' n' i' c' p' h F
  cases t with
  | pure fin=>
   cases fin with
   | done g=>
    cases κ with
    | base=>
     cases F
     cases h
     rfl
    | ret k c₀ p₀ κ=>
     cases F with
     | ret x=>
      exact df rfl rfl rfl (ih _ _ _ _ _ _ _ _ _ _ _ _ _ _ h x)
   | again c₂=>
    dsimp only[dx,h7]at h
    cases hq:qk c₂ with
    | false=>rw[hq]at h;cases h
    | true=>
     rw[hq]at h
     obtain⟨st',F',e⟩:=jF (P:=pw) (w:=w) (H:={}) (gens:=gens) (drawn:=drawn) (toks:=i) (os:=os) (den:=denote table) (code:=c) (c:=c₂) (pos:=p) F
     have q:=gk hq
     refine df (bm (by simp)) ?_ ?_ (ih _ _ _ _ _ _ _ _ _ _ _ _ _ _ h F')
     ·unfold Code.quiet Thread.loud at q
      have e1:(Thread.atCollectorCode ⟨.pure (.again c₂),c,p,st⟩)=Thread.atCollectorCode ⟨.pure (.again c₂),c₂,default,[]⟩:=rfl
      have e2:(Thread.atExit ⟨.pure (.again c₂),c,p,st⟩)=Thread.atExit ⟨.pure (.again c₂),c₂,default,[]⟩:=rfl
      have e3:(Thread.yieldsInsideHandler ⟨.pure (.again c₂),c,p,st⟩)=false:=rfl
      have e4:(Thread.yieldsInsideHandler ⟨.pure (.again c₂),c₂,default,[]⟩)=false:=rfl
      rw[e4]at q
      unfold stepOk Thread.calm
      rw[e1,e2,e3]
      revert q
      generalize Thread.atCollectorCode ⟨.pure (.again c₂),c₂,default,[]⟩=x
      generalize Thread.atExit ⟨.pure (.again c₂),c₂,default,[]⟩=y
      cases x<;>cases y<;>intro q<;>first | rfl | cases q
     ·simp only[stepT,e]
      rw[show denote table c₂=D c₂ from congrFun hH c₂]
  | raise e=>
   cases κ with
   | base=>cases h
   | ret k c₀ p₀ κ=>
    cases F with
    | ret x=>exact df (bm (by simp)) rfl rfl (ih _ _ _ _ _ _ _ _ _ _ _ _ _ _ h x)
  | rule g k=>exact df (bm (by simp)) rfl rfl (ih _ _ _ _ _ _ _ _ _ _ _ _ _ _ h F)
  | point g k=>exact df (bm (by simp)) rfl rfl (ih _ _ _ _ _ _ _ _ _ _ _ _ _ _ h F)
  | «at» g k=>exact df (bm (by simp)) rfl rfl (ih _ _ _ _ _ _ _ _ _ _ _ _ _ _ h F)
  | ask k=>exact df (bm (by simp)) rfl rfl (ih _ _ _ _ _ _ _ _ _ _ _ _ _ _ h F)
  | fresh k=>
   cases i with
   | zero=>exact df (bm (by simp)) rfl rfl (ih _ _ _ _ _ _ _ _ _ _ _ _ _ _ h F)
   | succ i=>exact df (bm (by simp)) rfl rfl (ih _ _ _ _ _ _ _ _ _ _ _ _ _ _ h F)
  | stack k=>
   refine df (bm (by simp)) rfl ?_ (ih _ _ _ _ _ _ _ _ _ _ _ _ _ _ h F)
   rw[←F.wh]
   rfl
  | handled own k=>
   refine df (bm (by simp)) rfl ?_ (ih _ _ _ _ _ _ _ _ _ _ _ _ _ _ h F)
   exact congrArg (λx=>some ((⟨T,n,life,gens,drawn,i,os⟩:SharedT),(⟨k x,c,p,st⟩:Thread))) (F.handled own)
  | load a g k=>
   dsimp only[dx,h7]at h
   cases e1:Nat.blt a n with
   | false=>rw[e1]at h;cases h
   | true=>
    cases e2:T.get a with
    | none=>rw[e1,e2]at h;cases h
    | some o=>
     cases e3:alive o with
     | none=>rw[e1,e2]at h;dsimp only at h;rw[e3]at h;cases h
     | some o'=>
      rw[e1,e2]at h
      dsimp only at h
      rw[e3]at h
      exact df (bm (by simp)) rfl (by simp only[stepT,e1,e2,e3]) (ih _ _ _ _ _ _ _ _ _ _ _ _ _ _ h F)
  | loadIfAlive a k=>
   dsimp only[dx,h7]at h
   cases e1:Nat.blt a n with
   | false=>rw[e1]at h;exact df (bm (by simp)) rfl (by simp only[stepT,e1]) (ih _ _ _ _ _ _ _ _ _ _ _ _ _ _ h F)
   | true=>
    cases e2:T.get a with
    | none=>rw[e1,e2]at h;cases h
    | some o=>
     rw[e1,e2]at h
     exact df (bm (by simp)) rfl (by simp only[stepT,e1,e2]) (ih _ _ _ _ _ _ _ _ _ _ _ _ _ _ h F)
  | update a g u k=>
   dsimp only[dx,h7]at h
   cases e0:cb a with
   | false=>rw[e0]at h;cases h
   | true=>
    cases e1:Nat.blt a n with
    | false=>rw[e0,e1]at h;cases h
    | true=>
     cases e2:T.get a with
     | none=>rw[e0,e1,e2]at h;cases h
     | some o=>
      cases e3:alive o with
      | none=>rw[e0,e1,e2]at h;dsimp only at h;rw[e3]at h;cases h
      | some o'=>
       rw[e0,e1,e2]at h
       dsimp only at h
       rw[e3]at h
       dsimp only at h
       rw[jR,cj e2]at h
       refine df (bm (by simp)) ?_ (by simp only[stepT,e1,e2,e3]) (ih _ _ _ _ _ _ _ _ _ _ _ _ _ _ h F)
       unfold stepOk
       rw[show(Thread.calm ⟨.update a g u k,c,p,st⟩)=true from rfl]
       exact pA e0
  | alloc o k=>
   dsimp only[dx,h7]at h
   cases n with
   | zero=>cases h
   | succ n=>
    dsimp only at h
    cases e1:((T.ins (n+1) o).get (n+1)).isSome with
    | false=>rw[e1]at h;cases h
    | true=>
     rw[e1]at h
     exact df (bm (by simp)) rfl (by simp only[stepT,e1]) (ih _ _ _ _ _ _ _ _ _ _ _ _ _ _ h F)
  | call c₂ hd g l k=>
   cases hd with
   | some _=>cases h
   | none=>
    refine df (s':=?s) (t':=?t) (bm (by simp)) rfl ?h3 ?h4
    case h3=>exact rfl
    case h4=>
     rw[show denote table c₂=D c₂ from congrFun hH c₂]
     exact ih _ _ _ _ _ _ _ _ _ _ _ _ _ _ h (.ret F)
  | _=>cases h
end
section
open PySem PySem.W PySem.W.X
noncomputable def Go{α:Type}(P:Params)(N:Nat)(m:Sem α)(T:BT)(n i:Nat)(v:α)(T':BT)(n' i':Nat):Prop:=
 ∀(M:Nat) (K:α→Sem PySem.Fin) (H:Value→Sem PySem.Fin) (gd:Bool→Bool) (lv:List Value→List Value) (κ:KS) (c:Code) (p:Pos),
  ∃p',dx P (M+N) (m.wrap K H gd lv) κ c p T n i=dx P M (K v) κ c p' T' n' i'
section
variable{α β:Type}{P:Params}{N N2:Nat}{T T1 T2:BT}{n i n1 i1 n2 i2:Nat}
theorem Go.pure{v:α}:Go P 0 (Sem.pure v) T n i v T n i:=λM K H gd lv κ c p=>⟨p,rfl⟩
theorem Go.bind{m:Sem α}{f:α→Sem β}{v:α}{v2:β}(h:Go P N m T n i v T1 n1 i1)(h2:Go P N2 (f v) T1 n1 i1 v2 T2 n2 i2):Go P (N2+N) (m >>= f) T n i v2 T2 n2 i2:=by
 intro M K H gd lv κ c p
 rw[Sem.bind_eq_wrap',Sem.wrap_wrap]
 obtain⟨p1,e1⟩:=h (M+N2) (λa=>(f a).wrap K H gd lv) (λe=>(Sem.raise e).wrap K H gd lv) (λg=>gd (id g)) (λl=>lv (id l)) κ c p
 obtain⟨p2,e2⟩:=h2 M K H gd lv κ c p1
 exact⟨p2,by rw[←Nat.add_assoc,e1,e2]⟩
theorem Go.bind0{m:Sem α}{f:α→Sem β}{v:α}{v2:β}(h:m=Sem.pure v)(h2:Go P N2 (f v) T n i v2 T2 n2 i2):Go P N2 (m >>= f) T n i v2 T2 n2 i2:=by
 subst h
 exact Go.bind Go.pure h2
theorem Go.hold{vs:List Value}{m:Sem α}{v:α}(h:Go P N m T n i v T1 n1 i1):Go P N (holding vs m) T n i v T1 n1 i1:=by
 unfold holding
 split
 ·exact h
 ·intro M K H gd lv κ c p
  rw[Sem.keep_eq_wrap,Sem.wrap_wrap]
  exact h M K H gd _ κ c p
theorem Go.onRaise{m:Sem α}{g:Value→Sem Unit}{v:α}(h:Go P N m T n i v T1 n1 i1):Go P N (m.onRaise g) T n i v T1 n1 i1:=by
 intro M K H gd lv κ c p
 rw[Sem.onRaise_eq_wrap,Sem.wrap_wrap]
 exact h M K _ _ _ κ c p
theorem Go.rule{t:String}:Go P 1 (PySem.rule t) T n i () T n i:=λM K H gd lv κ c p=>⟨p,rfl⟩
theorem Go.at{q:Pos}:Go P 1 (standAt q) T n i () T n i:=λM K H gd lv κ c p=>⟨q,rfl⟩
theorem Go.load{a:Addr}{q:Option Value}{o:Obj}(hn:Nat.blt a n=true)(hg:T.get a=some o)(ha:alive o=some o):Go P 1 (loadPart a q) T n i o T n i:=by
 intro M K H gd lv κ c p
 refine⟨p,?_⟩
 show(match Nat.blt a n with
  | true=>match T.get a with
   | some o=>match alive o with
    | some o'=>dx P M (K o') κ c p T n i
    | none=>none
   | none=>none
  | false=>none)=_
 rw[hn,hg]
 dsimp only
 rw[ha]
theorem Go.update{a:Addr}{q:Option Value}{f:Obj→Obj}{o:Obj}(hw:cb a=true)(hn:Nat.blt a n=true)(hg:T.get a=some o)(ha:alive o=some o):Go P 1 (updatePart a q f) T n i () (T.set a f) n i:=by
 intro M K H gd lv κ c p
 refine⟨p,?_⟩
 show(match cb a with
  | true=>match Nat.blt a n with
   | true=>match T.get a with
    | some o=>match alive o with
     | some _=>nI (f o) λo'=>dx P M (K ()) κ c p (T.set a λ_=>o') n i
     | none=>none
    | none=>none
   | false=>none
  | false=>none)=_
 rw[hw,hn,hg]
 dsimp only
 rw[ha]
 dsimp only
 rw[jR,cj hg]
theorem Go.alloc{o:Obj}(h:((T.ins (n+1) o).get (n+1)).isSome=true):Go P 1 (PySem.alloc o) T (n+1) i (n+1) (T.ins (n+1) o) (n+2) i:=by
 intro M K H gd lv κ c p
 refine⟨p,?_⟩
 show(match((T.ins (n+1) o).get (n+1)).isSome with
   | true=>dx P M (K (n+1)) κ c p (T.ins (n+1) o) (n+2) i
   | false=>none)=_
 rw[h]
theorem Go.mkInt{x:Int}:Go P 1 (PySem.mkInt x) T n (i+1) (.int x (i+1)) T n (i+2):=λM K H gd lv κ c p=>⟨p,rfl⟩
theorem Go.mkText{x:PySem.Str}:Go P 1 (PySem.mkText x) T n (i+1) (.str x (i+1)) T n (i+2):=λM K H gd lv κ c p=>⟨p,rfl⟩
end
noncomputable def P2o(w:World)(b c:Bool):World:=(w.withFollow "special-get-raises" b).withFollow "set-order" c
variable{k:Int}{t:Tok}{w:World}{b c:Bool}{T:BT}{n i:Nat}
theorem m3:specialOf (.int k t) "__hash__"=Sem.pure (some (.builtin "int.__hash__")):=by
 rw[PySem.W.Fast.te4214721358667687652]
 kernel_rfl
theorem oI{m:Sem Value}:Go (P2o w b c).params 5 (callSpecialIfBoundUnlessNone? (.int k t) "__hash__" m) T n (i+1) (some (.int (rawHash k) (i+1))) T n (i+2):=by
 intro M K H gd lv κ c p
 refine⟨p,?_⟩
 cases b<;>kernel_rfl
theorem tQ:Go (P2o w b c).params 5 (pyHash (.int k t)) T n (i+1) (hashInt k) T n (i+2):=by
 have hr:=rawHash_range k
 unfold pyHash
 have hv:[Value.int k t].any Value.onHeap=false:=rfl
 refine Go.bind0 (by rw[cRoomFor,if_neg (by rw[hv];exact Bool.false_ne_true)];rfl) ?_
 refine Go.bind0 m3 ?_
 show Go _ _ (if(some (Value.builtin "int.__hash__")==some Value.none)=true then _ else _) _ _ _ _ _ _ _
 rw[if_neg (by rw[beq_builtin_none];exact Bool.false_ne_true)]
 refine Go.bind0 m3 ?_
 show Go _ _ (callSpecialIfBoundUnlessNone? (.int k t) "__hash__" _ >>= _) _ _ _ _ _ _ _
 refine Go.bind (N2:=0) oI ?_
 show Go _ _ (if(decide (-(2:Int)^63≤rawHash k)&&decide (rawHash k<2^63))=true then _ else _) _ _ _ _ _ _ _
 rw[if_pos (by rw[decide_eq_true hr.1,decide_eq_true hr.2];rfl)]
 exact Go.pure
section
variable{w:World}{b c:Bool}{P:Params}{T:BT}{n i:Nat}
noncomputable def ai(es:List DictEntry)(m:Nat):Obj:=⟨.type "dict",none,.dict ⟨es⟩ m,⟨[]⟩⟩
theorem dL{a:Addr}{q:Option Value}{es:List DictEntry}{m:Nat}(hn:Nat.blt a n=true)(hg:T.get a=some (ai es m)):Go P 1 (dictEntries a q) T n i ⟨es⟩ T n i:=by
 unfold dictEntries
 exact Go.bind (N2:=0) (Go.load hn hg rfl) Go.pure
theorem lC{a:Addr}{q:Option Value}{es:List DictEntry}{m:Nat}(hn:Nat.blt a n=true)(hg:T.get a=some (ai es m)):Go P 1 (dictEpoch a q) T n i m T n i:=by
 unfold dictEpoch
 exact Go.bind (N2:=0) (Go.load hn hg rfl) Go.pure
theorem kG{es:List DictEntry}{h:Int}(ha:∀e∈es,e.hash≠h):placesWithHash (Array.mk es).size (λi=>(Array.mk es)[i]?.map (·.hash)) h=[]:=by
 unfold placesWithHash
 rw[List.filter_eq_nil_iff]
 intro j hj hx
 have:Option.map (·.hash) (Array.mk es)[j]? =some h:=eq_of_beq hx
 cases he:(Array.mk es)[j]? with
 | none=>rw[he]at this;cases this
 | some e=>
  rw[he]at this
  exact ha e (by have:=Array.mem_of_getElem? he;exact Array.mem_toList_iff.mpr this) (Option.some.inj this)
theorem ot{d:Addr}{k:Int}{t:Tok}{h:Int}{es:List DictEntry}{m:Nat}(hn:Nat.blt d n=true)(hg:T.get d=some (ai es m))(ha:∀e∈es,e.hash≠h):Go P 1 (dictFind d (.int k t) h) T n i none T n i:=by
 unfold dictFind
 refine Go.hold ?_
 refine Go.bind (N2:=0) (dL hn hg) ?_
 dsimp only
 rw[kG ha]
 exact Go.pure
theorem og{d:Addr}{q:Option Value}{es:List DictEntry}{m:Nat}{e:DictEntry}(hw:cb d=true)(hn:Nat.blt d n=true)(hg:T.get d=some (ai es m))(hs:es.length<2^20):
  Go P 3 (updateDictKeys d (·.push e) q) T n i () (T.set d λ_=>ai (es++[e]) (m+1)) n i:=by
 have e1:(λ_:Obj=>ai (es++[e]) (m+1))=λ_=>Obj.mapDictKeys (·.push e) (ai es m):=by
  funext _
  unfold ai Obj.mapDictKeys
  simp
 rw[e1,cj hg]
 unfold updateDictKeys
 refine Go.bind (N2:=2) (Go.load hn hg rfl) ?_
 show Go P 2 (updatePart d q _ >>= λ_=>lookBehind d q) _ _ _ _ _ _ _
 refine Go.bind (N2:=1) (Go.update hw hn hg rfl) ?_
 unfold lookBehind
 refine Go.bind (N2:=0) (Go.load hn (by rw[BT.get_set,if_pos rfl,hg];rfl) (by rw[←congrFun e1 default];rfl)) ?_
 have:(Obj.mapDictKeys (·.push e) (ai es m)).data.pastItsLine=none:=by
  rw[←congrFun e1 default]
  refine pastItsLine_dict ?_
  have:sizeLine=2^24:=rfl
  simp
  lia
 rw[this]
 exact Go.pure
theorem x8{d:Addr}{k:Int}{t:Tok}{h:Int}{v:Value}{es:List DictEntry}{m:Nat}(hw:cb d=true)(hn:Nat.blt d n=true)(hg:T.get d=some (ai es m))(ha:∀e∈es,e.hash≠h)(hs:es.length<2^20):
  Go P 4 (dictPut d h (.int k t) v) T n i () (T.set d λ_=>ai (es++[⟨h,.int k t,v⟩]) (m+1)) n i:=by
 unfold dictPut
 exact Go.bind (N2:=3) (ot hn hg ha) (og hw hn hg hs)
theorem qS{d:Addr}{k:Int}{t:Tok}{v:Value}{es:List DictEntry}{m:Nat}(hw:cb d=true)(hn:Nat.blt d n=true)(hg:T.get d=some (ai es m))(ha:∀e∈es,e.hash≠hashInt k)(hs:es.length<2^20):
  Go (P2o w b c).params 10 (dictSet d (.int k t) v) T n (i+1) () (T.set d λ_=>ai (es++[⟨hashInt k,.int k t,v⟩]) (m+1)) n (i+2):=by
 unfold dictSet
 refine Go.hold ?_
 refine Go.bind (N2:=5) tQ ?_
 unfold dictSetHashed
 refine Go.hold ?_
 refine Go.bind (N2:=4) (ot hn hg ha) ?_
 exact Go.bind (N2:=3) Go.rule (og hw hn hg hs)
end
section
variable{w:World}{b c:Bool}{P:Params}{T:BT}{n i:Nat}
theorem bX{o:Obj}:∀{T:BT} {n:Nat},((T.ins n o).get n).isSome=true→((T.ins n o).get n)=some o:=by
 intro T n h
 have:=BT.get_ins o T n h n
 rw[if_pos rfl]at this
 exact this
theorem fN{o:Obj}{f:Obj→Obj}:∀{T:BT} {n:Nat},((T.ins n o).get n).isSome=true→((T.ins n o).set n f)=T.ins n (f o)
 | .nil,n,h=>by
  by_cases h0:n=0
  ·subst h0;rfl
  ·exfalso
   unfold BT.ins at h
   rw[BT.get_node,if_neg h0]at h
   split at h<;>cases h
 | .node v l r,n,h=>by
  rw[BT.ins_node]at h ⊢
  rw[BT.ins_node]
  by_cases h0:n=0
  ·rw[if_pos h0,if_pos h0,BT.set_node,if_pos h0]
  ·rw[if_neg h0]at h ⊢
   rw[if_neg h0]
   by_cases h1:n%2=1
   ·rw[if_pos h1,BT.get_node,if_neg h0,if_pos h1]at h
    rw[if_pos h1,if_pos h1,BT.set_node,if_neg h0,if_pos h1,fN h]
   ·rw[if_neg h1,BT.get_node,if_neg h0,if_neg h1]at h
    rw[if_neg h1,if_neg h1,BT.set_node,if_neg h0,if_neg h1,fN h]
theorem cr{o o':Obj}:∀{T:BT} {n:Nat},((T.ins n o).get n).isSome=true→((T.ins n o').get n).isSome=true
 | .nil,n,h=>by
  by_cases h0:n=0
  ·subst h0;rfl
  ·exfalso
   unfold BT.ins at h
   rw[BT.get_node,if_neg h0]at h
   split at h<;>cases h
 | .node v l r,n,h=>by
  rw[BT.ins_node]at h ⊢
  by_cases h0:n=0
  ·rw[if_pos h0,BT.get_node,if_pos h0];rfl
  ·rw[if_neg h0]at h ⊢
   by_cases h1:n%2=1
   ·rw[if_pos h1,BT.get_node,if_neg h0,if_pos h1]at h ⊢
    exact cr h
   ·rw[if_neg h1,BT.get_node,if_neg h0,if_neg h1]at h ⊢
    exact cr h
noncomputable abbrev KV:=List (Int × PySem.Str)
noncomputable def bK(q:Pos)(e:Int × PySem.Str):Sem Value × Sem Value:=(PySem.mkInt e.1,do let x←PySem.mkText e.2;standAt q;pure x)
noncomputable def bg:KV→Nat→List DictEntry
 | [],_=>[]
 | e::l,j=>⟨hashInt e.1,.int e.1 j,.str e.2 (j+1)⟩::bg l (j+3)
noncomputable def upB:Int→KV→Bool
 | _,[]=>true
 | x,e::l=>decide (x<hashInt e.1)&&upB (hashInt e.1) l
noncomputable def jE(x:Int):KV→Int
 | []=>x
 | e::l=>jE (hashInt e.1) l
theorem lx{q:Pos}{s:PySem.Str}:Go P 2 (do let x←PySem.mkText s;standAt q;pure x) T n (i+1) (.str s (i+1)) T n (i+2):=
 Go.bind (N2:=1) Go.mkText (Go.bind (N2:=0) Go.at Go.pure)
noncomputable def nP(d:Nat):Sem Value × Sem Value→PUnit→Sem (ForInStep PUnit):=λp _=>do
 let kv←p.1
 let vv←holding [kv] p.2
 holding [kv,vv] (dictSet d kv vv)
 pure (ForInStep.yield PUnit.unit)
theorem om{d:Nat}{q:Pos}(hw:cb (d+1)=true)(h0:((T.ins (d+1) default).get (d+1)).isSome=true):∀(L:KV) (es:List DictEntry) (m i:Nat) (x:Int),(∀e∈es,e.hash≤x)→upB x L=true→es.length+L.length<2^20→
  Go (P2o w b c).params (13*L.length) (forIn (L.map (bK q)) PUnit.unit (nP (d+1))) (T.ins (d+1) (ai es m)) (d+2) (i+1) PUnit.unit (T.ins (d+1) (ai (es++bg L (i+1)) (m+L.length))) (d+2) (i+1+3*L.length)
 | [],es,m,i,x,hx,hu,hl=>by
  rw[bg,List.append_nil]
  exact Go.pure
 | e::L,es,m,i,x,hx,hu,hl=>by
  have hu':=(Bool.and_eq_true _ _).mp hu
  have hxe:=of_decide_eq_true hu'.1
  have hb:Nat.blt (d+1) (d+2)=true:=Nat.ble_eq_true_of_le (Nat.le_refl _)
  rw[List.length_cons]at hl
  have g1:=bX (cr (o':=ai es m) h0)
  have st:=qS (w:=w) (b:=b) (c:=c) (T:=T.ins (d+1) (ai es m)) (n:=d+2) (i:=i+2) (k:=e.1) (t:=i+1) (v:=.str e.2 (i+2)) hw hb g1 (λy hy=>by have:=hx y hy;lia) (by lia)
  rw[fN (cr h0)]at st
  have ih:=om (q:=q) hw h0 L (es++[⟨hashInt e.1,.int e.1 (i+1),.str e.2 (i+2)⟩]) (m+1) (i+3) (hashInt e.1) (λy hy=>by
   rcases List.mem_append.mp hy with hy | hy
   ·have:=hx y hy;lia
   ·rw[List.mem_singleton.mp hy];exact Int.le_refl _) hu'.2 (by rw[List.length_append];simp only[List.length_cons,List.length_nil];lia)
  rw[List.append_assoc,show m+1+L.length=m+(e::L).length by rw[List.length_cons];lia,show i+3+1+3*L.length=i+1+3*(e::L).length by rw[List.length_cons];lia]at ih
  rw[show 13*(e::L).length=13*L.length+13 by rw[List.length_cons];lia]
  rw[List.map_cons,List.forIn_cons]
  refine Go.bind (N2:=13*L.length) (N:=13) (v:=ForInStep.yield PUnit.unit) ?_ ih
  unfold nP
  refine Go.bind (N2:=12) (N:=1) Go.mkInt ?_
  refine Go.bind (N2:=10) (N:=2) (Go.hold lx) ?_
  refine Go.bind (N2:=0) (N:=10) (Go.hold st) ?_
  exact Go.pure
end
end
section
open PySem PySem.W PySem.W.X
section
variable{w:World}{b c:Bool}{P:Params}{T:BT}{n i:Nat}
theorem od{a:Addr}{es:List DictEntry}{m:Nat}(hn:Nat.blt a n=true)(hg:T.get a=some (ai es m)):Go P 1 (typeOf (.ref a)) T n i (.type "dict") T n i:=
 Go.bind (N2:=0) (Go.load hn hg rfl) Go.pure
theorem on{a:Addr}{es:List DictEntry}{m:Nat}(hn:Nat.blt a n=true)(hg:T.get a=some (ai es m)):Go P 1 (isInstance (.ref a) (.type "dict")) T n i true T n i:=by
 unfold isInstance
 refine Go.bind (N2:=0) (od hn hg) ?_
 have:isSubtype (.type "dict") (.type "dict")=Sem.pure true:=by
  rw[PySem.W.Fast.te16098473122060591676]
  kernel_rfl
 rw[this]
 exact Go.pure
theorem oe{a:Addr}{es:List DictEntry}{m:Nat}(hn:Nat.blt a n=true)(hg:T.get a=some (ai es m)):Go P 1 (specialOf (.ref a) "__iter__") T n i (some (.builtin "dict.__iter__")) T n i:=by
 unfold specialOf
 refine Go.bind (N2:=0) (od hn hg) ?_
 have:typeLookup (.type "dict") "__iter__"=Sem.pure (some (.builtin "dict.__iter__")):=by
  rw[PySem.W.Fast.te1381439984260040727]
  kernel_rfl
 rw[this]
 exact Go.pure
theorem iJ{f:Obj→Obj}{o:Obj}:∀{T:BT} {a:Nat},(T.set a f).set a (λ_=>o)=T.set a (λ_=>o)
 | .nil,_=>rfl
 | .node v l r,a=>by
  rw[BT.set_node,BT.set_node]
  by_cases h0:a=0
  ·rw[if_pos h0,if_pos h0,BT.set_node,if_pos h0]
  ·rw[if_neg h0,if_neg h0]
   by_cases h1:a%2=1
   ·rw[if_pos h1,if_pos h1,BT.set_node,if_neg h0,if_pos h1,iJ]
   ·rw[if_neg h1,if_neg h1,BT.set_node,if_neg h0,if_neg h1,iJ]
theorem gb{o:Obj}:∀{T:BT} {a:Nat},T.get a=some o→(T.set a λ_=>o)=T
 | .nil,_,h=>rfl
 | .node v l r,a,h=>by
  rw[BT.get_node]at h
  rw[BT.set_node]
  by_cases h0:a=0
  ·rw[if_pos h0]
   rw[if_pos h0]at h
   cases h;rfl
  ·rw[if_neg h0]at h ⊢
   by_cases h1:a%2=1
   ·rw[if_pos h1]at h ⊢
    rw[gb h]
   ·rw[if_neg h1]at h ⊢
    rw[gb h]
noncomputable def BE(e:DictEntry):Prop:=∃k t,e.key=.int k t
noncomputable def upD:Int→List DictEntry→Prop
 | _,[]=>True
 | x,e::l=>x<e.hash∧BE e∧upD e.hash l
noncomputable def nM(d a:Addr)(ep:Nat):Nat→PUnit→Sem (ForInStep PUnit):=λi _=>do
 let es←dictEntries a
 match es[i]? with
 | some e=>do
  holding [e.key,e.val] (dictPut d e.hash e.key e.val)
  let ep'←dictEpoch a
  if(ep' !=ep)=true then do
   unsupported "dict.changed-during-merge"
   pure (ForInStep.yield PUnit.unit)
  else pure (ForInStep.yield PUnit.unit)
 | _=>do
  unsupported "dict.changed-during-merge"
  pure (ForInStep.yield PUnit.unit)
theorem j4{d a:Addr}{A:List DictEntry}{ma:Nat}(hw:cb d=true)(hd:Nat.blt d n=true)(hn:Nat.blt a n=true)(hg:T.get a=some (ai A ma))(Zz:a≠d)(hT:(T.get d).isSome=true):
  ∀(A2 A1 E:List DictEntry) (m:Nat) (x:Int),A=A1++A2→(∀e∈E,e.hash≤x)→upD x A2→E.length+A2.length<2^20→
  Go P (6*A2.length) (forIn (List.range' A1.length A2.length) PUnit.unit (nM d a ma)) (T.set d λ_=>ai E m) n i PUnit.unit (T.set d λ_=>ai (E++A2) (m+A2.length)) n i
 | [],A1,E,m,x,hA,hx,hu,hl=>by
  rw[List.append_nil]
  exact Go.pure
 | e::A2,A1,E,m,x,hA,hx,hu,hl=>by
  obtain⟨h1,⟨k,t,hk⟩,h3⟩:=hu
  rw[List.length_cons]at hl
  have ga:(T.set d λ_=>ai E m).get a=some (ai A ma):=by rw[BT.get_set,if_neg Zz];exact hg
  have gd:(T.set d λ_=>ai E m).get d=some (ai E m):=by
   rw[BT.get_set,if_pos rfl]
   cases q:T.get d with
   | none=>rw[q]at hT;cases hT
   | some o=>rfl
  have ih:=j4 hw hd hn hg Zz hT A2 (A1++[e]) (E++[e]) (m+1) e.hash (by rw[hA];simp) (λy hy=>by
   rcases List.mem_append.mp hy with hy | hy
   ·have:=hx y hy;lia
   ·rw[List.mem_singleton.mp hy];exact Int.le_refl _) h3 (by rw[List.length_append];simp only[List.length_cons,List.length_nil];lia)
  rw[List.append_assoc,show m+1+A2.length=m+(e::A2).length by rw[List.length_cons];lia,List.length_append]at ih
  rw[show 6*(e::A2).length=6*A2.length+6 by rw[List.length_cons];lia,List.length_cons,List.range'_succ,List.forIn_cons]
  refine Go.bind (N2:=6*A2.length) (N:=6) (v:=ForInStep.yield PUnit.unit) ?_ ih
  unfold nM
  refine Go.bind (N2:=5) (N:=1) (dL hn ga) ?_
  have he:(Array.mk A)[A1.length]? =some e:=by rw[hA];simp
  rw[he]
  dsimp only
  have st:=x8 (P:=P) (T:=T.set d λ_=>ai E m) (n:=n) (i:=i) (k:=k) (t:=t) (h:=e.hash) (v:=e.val) hw hd gd (λy hy=>by have:=hx y hy;lia) (by lia)
  rw[iJ]at st
  have st':Go P 4 (dictPut d e.hash e.key e.val) (T.set d λ_=>ai E m) n i () (T.set d λ_=>ai (E++[e]) (m+1)) n i:=by
   obtain⟨eh,ek,ev⟩:=e
   cases hk
   exact st
  refine Go.bind (N2:=1) (N:=4) (Go.hold st') ?_
  refine Go.bind (N2:=0) (N:=1) (lC (es:=A) (m:=ma) hn (by rw[BT.get_set,if_neg Zz];exact hg)) ?_
  rw[if_neg (by simp)]
  exact Go.pure
theorem lB{d a:Addr}{A E:List DictEntry}{ma m:Nat}{x:Int}(hw:cb d=true)(hd:Nat.blt d n=true)(hn:Nat.blt a n=true)(hg:T.get a=some (ai A ma))(hgd:T.get d=some (ai E m))(Zz:a≠d)(hE:E≠[])(hs:a≠sysModules)
  (hx:∀e∈E,e.hash≤x) (hu:upD x A) (hl:E.length+A.length<2^20):
  Go P (6*A.length+5) (mergeMapping d (.ref a) false) T n i () (T.set d λ_=>ai (E++A) (m+A.length)) n i:=by
 unfold mergeMapping
 refine Go.bind (N2:=6*A.length+4) (N:=1) (on hn hg) ?_
 dsimp only
 rw[if_pos rfl]
 refine Go.bind (N2:=6*A.length+3) (N:=1) (oe hn hg) ?_
 refine Go.bind0 (v:=true) (by rw[show(some (Value.builtin "dict.__iter__")==some (Value.builtin "dict.__iter__"))=true from by simp];rfl) ?_
 dsimp only
 rw[if_neg (by simpa using hs)]
 refine Go.bind (N2:=6*A.length+2) (N:=1) (dL hd hgd) ?_
 rw[if_neg (by cases E with | nil=>exact absurd rfl hE | cons e l=>simp)]
 refine Go.bind (N2:=6*A.length+1) (N:=1) (dL hn hg) ?_
 refine Go.bind (N2:=6*A.length) (N:=1) (lC hn hg) ?_
 have:=j4 (P:=P) (T:=T) (n:=n) (i:=i) hw hd hn hg Zz (by rw[hgd];rfl) A [] E m x rfl hx hu hl
 have e0:(T.set d λ_=>ai E m)=T:=gb hgd
 rw[e0]at this
 rw[List.range_eq_range']
 simp only[Bool.false_eq_true,if_false]
 have:=Go.bind (N2:=0) (N:=6*A.length) (f:=λ_=>(pure ():Sem Unit)) this Go.pure
 rw[Nat.zero_add]at this
 exact this
end
end
section
open PySem PySem.W PySem.W.X
noncomputable def Full(T:BT)(n:Nat):Prop:=∀j,(T.get j).isSome=decide (j<n)
theorem Full.ins:∀{T:BT} {n:Nat} {o:Obj},Full T n→((T.ins n o).get n).isSome=true
 | .nil,n,o,h=>by
  have h0:n=0:=by
   have:=h 0
   cases n with
   | zero=>rfl
   | succ n=>simp[BT.get]at this
  subst h0;rfl
 | .node v l r,n,o,h=>by
  have h0:n≠0:=by
   rintro rfl
   have:=h 0
   rw[BT.get_node,if_pos rfl]at this
   simp at this
  rw[BT.ins_node,if_neg h0]
  by_cases h1:n%2=1
  ·rw[if_pos h1,BT.get_node,if_neg h0,if_pos h1]
   refine Full.ins λj=>?_
   have:=h (2*j+1)
   rw[BT.get_node,if_neg (by lia),if_pos (by lia),show(2*j+1) / 2=j by lia]at this
   rw[this]
   exact decide_eq_decide.mpr ⟨λ_=>by lia,λ_=>by lia⟩
  ·rw[if_neg h1,BT.get_node,if_neg h0,if_neg h1]
   refine Full.ins λj=>?_
   have:=h (2*j+2)
   rw[BT.get_node,if_neg (by lia),if_neg (by lia),show(2*j+2) / 2-1=j by lia]at this
   rw[this]
   exact decide_eq_decide.mpr ⟨λ_=>by lia,λ_=>by lia⟩
theorem Full.push{T:BT}{n:Nat}{o:Obj}(h:Full T n):Full (T.ins n o) (n+1):=λj=>by
 rw[BT.get_ins o T n h.ins]
 by_cases e:j=n
 ·subst e;simp
 ·rw[if_neg e,h j]
  exact decide_eq_decide.mpr ⟨λ_=>by lia,λ_=>by lia⟩
theorem Full.set{T:BT}{n a:Nat}{f:Obj→Obj}(h:Full T n):Full (T.set a f) n:=λj=>by
 rw[BT.get_set]
 by_cases e:j=a
 ·subst e
  rw[if_pos rfl,←h j]
  cases T.get j<;>rfl
 ·rw[if_neg e,h j]
noncomputable def j8:BT→Nat→Nat→Nat→Bool
 | .nil,_,b,n=>Nat.ble n b
 | .node _ l r,a,b,n=>Nat.blt b n&&(j8 l (2*a) (a+b) n&&j8 r (2*a) (2*a+b) n)
theorem fb:∀{T:BT} {a b n:Nat},0<a→j8 T a b n=true→∀j,(T.get j).isSome=decide (b+a*j<n)
 | .nil,a,b,n,ha,h,j=>by
  have:=Nat.le_of_ble_eq_true h
  have:¬b+a*j<n:=by
   have:=Nat.zero_le (a*j)
   lia
  rw[decide_eq_false this];rfl
 | .node v l r,a,b,n,ha,h,j=>by
  unfold j8 at h
  simp only[Bool.and_eq_true]at h
  have hb:b<n:=Nat.le_of_ble_eq_true h.1
  rw[BT.get_node]
  by_cases h0:j=0
  ·subst h0
   rw[if_pos rfl]
   simpa using hb
  ·rw[if_neg h0]
   by_cases h1:j%2=1
   ·rw[if_pos h1,fb (by lia) h.2.1]
    have:a+b+2*a*(j / 2)=b+a*j:=by
     have e:j=2*(j / 2)+1:=by lia
     generalize j / 2=q at e
     subst e
     rw[Nat.mul_add,Nat.mul_one,←Nat.mul_assoc,Nat.mul_comm a 2]
     lia
    rw[this]
   ·rw[if_neg h1,fb (by lia) h.2.2]
    have:2*a+b+2*a*(j / 2-1)=b+a*j:=by
     have e:j=2*(j / 2-1)+2:=by lia
     generalize j / 2-1=q at e
     subst e
     rw[Nat.mul_add,←Nat.mul_assoc,Nat.mul_comm a 2]
     lia
    rw[this]
theorem qb{T:BT}{n:Nat}(h:j8 T 1 0 n=true):Full T n:=λj=>by
 have:=fb (by decide) h j
 rw[this]
 exact decide_eq_decide.mpr ⟨λ_=>by lia,λ_=>by lia⟩
section
variable{w:World}{b c:Bool}{P:Params}{T:BT}{n i:Nat}
theorem qR{d:Nat}{q:Pos}{L:KV}{x:Int}(hw:cb (d+1)=true)(hf:Full T (d+1))(hL:15<L.length)(hl:L.length<2^20)(hu:upB x L=true):
  Go (P2o w b c).params (13*L.length+2) (subDict (L.map (bK q))) T (d+1) (i+1) (d+1) (T.ins (d+1) (ai (bg L (i+1)) L.length)) (d+2) (i+1+3*L.length):=by
 unfold subDict
 refine Go.bind (N2:=13*L.length+1) (N:=1) (Go.alloc hf.ins) ?_
 have g:=om (w:=w) (b:=b) (c:=c) (q:=q) hw hf.ins L [] 0 i x (λ_ h=>nomatch h) hu (by simpa using hl)
 rw[Nat.zero_add,List.nil_append]at g
 have h1:¬(L.map (bK q)).length≤15:=by rw[List.length_map];lia
 have g2:Go (P2o w b c).params (13*L.length+1) (holding [Value.ref (d+1)] (do
   rule "dict.display.long"
   forIn (L.map (bK q)) PUnit.unit (nP (d+1))
   pure ())) (T.ins (d+1) (ai [] 0)) (d+2) (i+1) () (T.ins (d+1) (ai (bg L (i+1)) L.length)) (d+2) (i+1+3*L.length):=by
  refine Go.hold ?_
  refine Go.bind (N2:=13*L.length) (N:=1) Go.rule ?_
  have:=Go.bind (N2:=0) (f:=λ_=>(pure ():Sem Unit)) g Go.pure
  rw[Nat.zero_add]at this
  exact this
 rw[if_neg h1]
 have:=Go.bind (N2:=0) (f:=λ_=>(pure (d+1):Sem Addr)) g2 Go.pure
 rw[Nat.zero_add]at this
 exact this
noncomputable def bw:KV→Nat→List DictEntry
 | [],_=>[]
 | e::l,j=>⟨hashInt e.1,.int e.1 j,.str e.2 (j+1)⟩::bw l (j+2)
noncomputable def o5:KV→Nat→List (Value × Value)
 | [],_=>[]
 | e::l,j=>(.int e.1 j,.str e.2 (j+1))::o5 l (j+2)
theorem lA{q:Pos}:∀(S:KV) (i:Nat),Go P (3*S.length) (evalPairs (S.map (bK q))) T n (i+1) (o5 S (i+1)) T n (i+1+2*S.length)
 | [],i=>Go.pure
 | e::S,i=>by
  have ih:=lA (q:=q) S (i+2)
  rw[show i+2+1+2*S.length=i+1+2*(e::S).length by rw[List.length_cons];lia]at ih
  rw[show 3*(e::S).length=3*S.length+3 by rw[List.length_cons];lia,List.map_cons]
  unfold evalPairs
  refine Go.bind (N2:=3*S.length+2) (N:=1) Go.mkInt ?_
  refine Go.bind (N2:=3*S.length) (N:=2) (Go.hold lx) ?_
  have:=Go.bind (N2:=0) (f:=λr=>(pure ((Value.int e.1 (i+1),Value.str e.2 (i+1+1))::r):Sem (List (Value × Value)))) (Go.hold (vs:=[Value.int e.1 (i+1),Value.str e.2 (i+1+1)]) ih) Go.pure
  rw[Nat.zero_add]at this
  exact this
noncomputable def kz(d:Nat):Value × Value→PUnit→Sem (ForInStep PUnit):=λp _=>do
 dictSet d p.1 p.2
 pure (ForInStep.yield PUnit.unit)
theorem ly{d:Nat}(hw:cb (d+1)=true)(h0:((T.ins (d+1) default).get (d+1)).isSome=true):∀(S:KV) (es:List DictEntry) (m i j:Nat) (x:Int),(∀e∈es,e.hash≤x)→upB x S=true→es.length+S.length<2^20→
  Go (P2o w b c).params (10*S.length) (forIn (o5 S j) PUnit.unit (kz (d+1))) (T.ins (d+1) (ai es m)) (d+2) (i+1) PUnit.unit (T.ins (d+1) (ai (es++bw S j) (m+S.length))) (d+2) (i+1+S.length)
 | [],es,m,i,j,x,hx,hu,hl=>by
  rw[bw,List.append_nil]
  exact Go.pure
 | e::S,es,m,i,j,x,hx,hu,hl=>by
  have hu':=(Bool.and_eq_true _ _).mp hu
  have hxe:=of_decide_eq_true hu'.1
  have hb:Nat.blt (d+1) (d+2)=true:=Nat.ble_eq_true_of_le (Nat.le_refl _)
  rw[List.length_cons]at hl
  have g1:=bX (cr (o':=ai es m) h0)
  have st:=qS (w:=w) (b:=b) (c:=c) (T:=T.ins (d+1) (ai es m)) (n:=d+2) (i:=i) (k:=e.1) (t:=j) (v:=.str e.2 (j+1)) hw hb g1 (λy hy=>by have:=hx y hy;lia) (by lia)
  rw[fN (cr h0)]at st
  have ih:=ly hw h0 S (es++[⟨hashInt e.1,.int e.1 j,.str e.2 (j+1)⟩]) (m+1) (i+1) (j+2) (hashInt e.1) (λy hy=>by
   rcases List.mem_append.mp hy with hy | hy
   ·have:=hx y hy;lia
   ·rw[List.mem_singleton.mp hy];exact Int.le_refl _) hu'.2 (by rw[List.length_append];simp only[List.length_cons,List.length_nil];lia)
  rw[List.append_assoc,show m+1+S.length=m+(e::S).length by rw[List.length_cons];lia,show i+1+1+S.length=i+1+(e::S).length by rw[List.length_cons];lia]at ih
  rw[show 10*(e::S).length=10*S.length+10 by rw[List.length_cons];lia]
  unfold o5
  rw[List.forIn_cons]
  refine Go.bind (N2:=10*S.length) (N:=10) (v:=ForInStep.yield PUnit.unit) ?_ ih
  unfold kz
  exact Go.bind (N2:=0) (N:=10) st Go.pure
theorem tP{d:Nat}{q:Pos}{S:KV}{x:Int}(hw:cb (d+1)=true)(hf:Full T (d+1))(hS:S.length≤15)(hu:upB x S=true):
  Go (P2o w b c).params (13*S.length+1) (subDict (S.map (bK q))) T (d+1) (i+1) (d+1) (T.ins (d+1) (ai (bw S (i+1)) S.length)) (d+2) (i+1+3*S.length):=by
 unfold subDict
 refine Go.bind (N2:=13*S.length) (N:=1) (Go.alloc hf.ins) ?_
 have g:=ly (w:=w) (b:=b) (c:=c) hw hf.ins S [] 0 (i+2*S.length) (i+1) x (λ_ h=>nomatch h) hu (by simp only[List.length_nil];lia)
 rw[Nat.zero_add,List.nil_append,show i+2*S.length+1=i+1+2*S.length by lia,show i+1+2*S.length+S.length=i+1+3*S.length by lia]at g
 have h1:(S.map (bK q)).length≤15:=by rw[List.length_map];exact hS
 rw[if_pos h1]
 have g2:Go (P2o w b c).params (13*S.length) (holding [Value.ref (d+1)] (do
   let vs←evalPairs (S.map (bK q))
   holding (vs.flatMap λx=>match x with | (k,v)=>[k,v]) (do
    forIn vs PUnit.unit (kz (d+1))
    pure ()))) (T.ins (d+1) (ai [] 0)) (d+2) (i+1) () (T.ins (d+1) (ai (bw S (i+1)) S.length)) (d+2) (i+1+3*S.length):=by
  refine Go.hold ?_
  rw[show 13*S.length=10*S.length+3*S.length by lia]
  refine Go.bind (lA S i) ?_
  refine Go.hold ?_
  have:=Go.bind (N2:=0) (f:=λ_=>(pure ():Sem Unit)) g Go.pure
  rw[Nat.zero_add]at this
  exact this
 have:=Go.bind (N2:=0) (f:=λ_=>(pure (d+1):Sem Addr)) g2 Go.pure
 rw[Nat.zero_add]at this
 exact this
end
noncomputable def dy(main:Option Addr)(run:List (Sem Value × Sem Value)):Sem (Option Addr):=match main with
 | none=>do
  let d←subDict run
  pure (some d)
 | some d=>do
  let sub←holding [Value.ref d] (subDict run)
  (holding [Value.ref d,Value.ref sub] (mergeMapping d (Value.ref sub) false)).onRaise λx=>do
   let _←holding [Value.ref d,x] (runValue (Code.builtin "proto.let_go" {}))
   pure ()
  pure (some d)
theorem mX:∀{L:KV} {x:Int} {j:Nat},upB x L=true→upD x (bg L j)
 | [],_,_,_=>trivial
 | e::L,x,j,h=>by
  have h':=(Bool.and_eq_true _ _).mp h
  exact⟨of_decide_eq_true h'.1,⟨_,_,rfl⟩,mX h'.2⟩
theorem k6:∀{L:KV} {x:Int} {j:Nat},upB x L=true→upD x (bw L j)
 | [],_,_,_=>trivial
 | e::L,x,j,h=>by
  have h':=(Bool.and_eq_true _ _).mp h
  exact⟨of_decide_eq_true h'.1,⟨_,_,rfl⟩,k6 h'.2⟩
theorem bM:∀(L:KV) (j:Nat),(bg L j).length=L.length
 | [],_=>rfl
 | e::L,j=>by rw[bg,List.length_cons,List.length_cons,bM L]
theorem fh:∀(L:KV) (j:Nat),(bw L j).length=L.length
 | [],_=>rfl
 | e::L,j=>by rw[bw,List.length_cons,List.length_cons,fh L]
section
variable{w:World}{b c:Bool}{P:Params}{T:BT}{n i:Nat}
theorem p9{d a m:Nat}{q:Pos}{L:KV}{E:List DictEntry}{x:Int}(hw:cb d=true)(hwa:cb (a+1)=true)(hf:Full T (a+1))(hd:d<a+1)(hg:T.get d=some (ai E m))(hE:E≠[])(hs:a+1≠sysModules)(hL:15<L.length)(hl:E.length+L.length<2^20)(hx:∀e∈E,e.hash≤x)(hu:upB x L=true):
  Go (P2o w b c).params (19*L.length+7) (dy (some d) (L.map (bK q))) T (a+1) (i+1) (some d) ((T.ins (a+1) (ai (bg L (i+1)) L.length)).set d λ_=>ai (E++bg L (i+1)) (m+L.length)) (a+2) (i+1+3*L.length):=by
 unfold dy
 rw[show 19*L.length+7=(6*L.length+5)+(13*L.length+2)by lia]
 refine Go.bind (Go.hold (qR hwa hf hL (by lia) hu)) ?_
 have ga:(T.ins (a+1) (ai (bg L (i+1)) L.length)).get (a+1)=some (ai (bg L (i+1)) L.length):=bX hf.ins
 have gd:(T.ins (a+1) (ai (bg L (i+1)) L.length)).get d=some (ai E m):=by rw[BT.get_ins _ _ _ hf.ins,if_neg (by lia)];exact hg
 have mg:=lB (P:=(P2o w b c).params) (n:=a+2) (i:=i+1+3*L.length) hw (Nat.ble_eq_true_of_le (by lia)) (Nat.ble_eq_true_of_le (Nat.le_refl _)) ga gd (Nat.ne_of_gt hd) hE hs hx (mX hu) (by rw[bM];exact hl)
 rw[bM]at mg
 have:=Go.bind (N2:=0) (f:=λ_=>(pure (some d):Sem (Option Addr))) (Go.onRaise (g:=λx=>do
   let _←holding [Value.ref d,x] (runValue (Code.builtin "proto.let_go" {}))
   pure ()) (Go.hold (vs:=[Value.ref d,Value.ref (a+1)]) mg)) Go.pure
 rw[Nat.zero_add]at this
 exact this
theorem oq{d a m:Nat}{q:Pos}{L:KV}{E:List DictEntry}{x:Int}(hw:cb d=true)(hwa:cb (a+1)=true)(hf:Full T (a+1))(hd:d<a+1)(hg:T.get d=some (ai E m))(hE:E≠[])(hs:a+1≠sysModules)(hL:L.length≤15)(hl:E.length+L.length<2^20)(hx:∀e∈E,e.hash≤x)(hu:upB x L=true):
  Go (P2o w b c).params (19*L.length+6) (dy (some d) (L.map (bK q))) T (a+1) (i+1) (some d) ((T.ins (a+1) (ai (bw L (i+1)) L.length)).set d λ_=>ai (E++bw L (i+1)) (m+L.length)) (a+2) (i+1+3*L.length):=by
 unfold dy
 rw[show 19*L.length+6=(6*L.length+5)+(13*L.length+1)by lia]
 refine Go.bind (Go.hold (tP hwa hf hL hu)) ?_
 have ga:(T.ins (a+1) (ai (bw L (i+1)) L.length)).get (a+1)=some (ai (bw L (i+1)) L.length):=bX hf.ins
 have gd:(T.ins (a+1) (ai (bw L (i+1)) L.length)).get d=some (ai E m):=by rw[BT.get_ins _ _ _ hf.ins,if_neg (by lia)];exact hg
 have mg:=lB (P:=(P2o w b c).params) (n:=a+2) (i:=i+1+3*L.length) hw (Nat.ble_eq_true_of_le (by lia)) (Nat.ble_eq_true_of_le (Nat.le_refl _)) ga gd (Nat.ne_of_gt hd) hE hs hx (k6 hu) (by rw[fh];exact hl)
 rw[fh]at mg
 have:=Go.bind (N2:=0) (f:=λ_=>(pure (some d):Sem (Option Addr))) (Go.onRaise (g:=λx=>do
   let _←holding [Value.ref d,x] (runValue (Code.builtin "proto.let_go" {}))
   pure ()) (Go.hold (vs:=[Value.ref d,Value.ref (a+1)]) mg)) Go.pure
 rw[Nat.zero_add]at this
 exact this
end
end
section
open PySem PySem.W PySem.W.X
noncomputable abbrev PS:=Sem Value × Sem Value
noncomputable def itP(p:PS):Option (Sem Value) × Sem Value:=(some p.1,p.2)
noncomputable abbrev kw:=(Option (Sem Value) × Sem Value)→(Option Addr × List PS)→Sem (ForInStep (Option Addr × List PS))
structure LF (f:kw):Prop where
 h1:∀(p:PS) (main:Option Addr) (run:List PS),run.length+1<17→f (itP p) (main,run)=pure (.yield (main,run++[p]))
 h2:∀(p:PS) (main:Option Addr) (run:List PS),run.length+1=17→f (itP p) (main,run)=(do let m←dy main (run++[p]);pure (.yield (m,[])))
theorem LF.short{f:kw}(hf:LF f):∀(items run:List PS) (main:Option Addr),run.length+items.length<17→forIn (items.map itP) (main,run) f=pure (main,run++items)
 | [],run,main,_=>by simp
 | p::Z5,run,main,h=>by
  rw[List.map_cons,List.forIn_cons,hf.h1 p main run (by simp at h;lia),pure_bind]
  have:=hf.short Z5 (run++[p]) main (by simp at h ⊢;lia)
  simpa using this
theorem LF.part{f:kw}(hf:LF f):∀(items run Z5:List PS) (main:Option Addr),items≠[]→run.length+items.length=17→forIn ((items++Z5).map itP) (main,run) f=(do
  let m←dy main (run++items)
  forIn (Z5.map itP) (m,[]) f)
 | [],_,_,_,h,_=>absurd rfl h
 | [p],run,Z5,main,_,h=>by
  rw[List.cons_append,List.map_cons,List.forIn_cons,hf.h2 p main run (by simpa using h)]
  rw[bind_assoc]
  simp
 | p::p2::items,run,Z5,main,_,h=>by
  rw[List.cons_append,List.map_cons,List.forIn_cons,hf.h1 p main run (by simp at h;lia),pure_bind]
  have:=hf.part (p2::items) (run++[p]) Z5 main (by simp) (by simp at h ⊢;lia)
  simpa using this
theorem iy:∀{A R:KV} {x:Int},upB x (A++R)=true→upB x A=true∧upB (jE x A) R=true
 | [],R,x,h=>⟨rfl,h⟩
 | e::A,R,x,h=>by
  have h':=(Bool.and_eq_true _ _).mp h
  have ih:=iy h'.2
  exact⟨(Bool.and_eq_true _ _).mpr ⟨h'.1,ih.1⟩,ih.2⟩
theorem iD:∀{A:KV} {x:Int},upB x A=true→x≤jE x A
 | [],x,_=>Int.le_refl _
 | e::A,x,h=>by
  have h':=(Bool.and_eq_true _ _).mp h
  have:=of_decide_eq_true h'.1
  have:=iD h'.2
  show x≤jE (hashInt e.1) A
  lia
theorem jr:∀{A:KV} {x:Int} {j:Nat},upB x A=true→∀y∈bg A j,y.hash≤jE x A
 | [],x,_,_,y,hy=>nomatch hy
 | e::A,x,j,h,y,hy=>by
  have h':=(Bool.and_eq_true _ _).mp h
  rcases List.mem_cons.mp hy with rfl | hy
  ·exact iD h'.2
  ·exact jr h'.2 y hy
structure DS where
 T:BT
 n:Nat
 i:Nat
 E:List DictEntry
 m:Nat
noncomputable def c8(d:Nat)(s:DS)(L:KV):DS:=⟨(s.T.ins s.n (ai (bg L s.i) L.length)).set d λ_=>ai (s.E++bg L s.i) (s.m+L.length),s.n+1,s.i+3*L.length,s.E++bg L s.i,s.m+L.length⟩
structure DInv (d:Nat) (s:DS) (x:Int):Prop where
 full:Full s.T s.n
 get:s.T.get d=some (ai s.E s.m)
 lt:d<s.n
 ne:s.E≠[]
 le:∀e∈s.E,e.hash≤x
 n0:20<s.n
 i0:0<s.i
theorem eF{a:Nat}(h:11≤a):cb a=true:=by
 unfold cb
 rw[Nat.ble_eq_true_of_le h]
theorem m0{a:Nat}(h:20<a):a≠sysModules:=by
 rintro rfl
 exact absurd h (by decide)
theorem DInv.step{d:Nat}{s:DS}{x:Int}{L:KV}(h:DInv d s x)(hu:upB x L=true):DInv d (c8 d s L) (jE x L):=by
 have hf:=h.full.ins (o:=ai (bg L s.i) L.length)
 have hl:=h.lt
 refine⟨h.full.push.set,?_,Nat.lt_succ_of_lt h.lt,?_,λe he=>?_,?_,?_⟩
 ·show BT.get (BT.set _ _ _) _=_
  rw[BT.get_set,if_pos rfl,BT.get_ins _ _ _ hf,if_neg (Nat.ne_of_lt hl),h.get]
  rfl
 ·show s.E++_≠[]
  have:=h.ne
  cases q:s.E with
  | nil=>exact absurd q this
  | cons a l=>simp
 ·rcases List.mem_append.mp he with he | he
  ·have:=h.le e he
   have:=iD hu
   lia
  ·exact jr hu e he
 ·show 20<s.n+1
  have:=h.n0
  lia
 ·show 0<s.i+_
  have:=h.i0
  lia
section
variable{w:World}{b c:Bool}
theorem oh{f:kw}(hf:LF f){d:Nat}{q:Pos}{S:KV}(hd:11≤d)(hS:S.length<17):∀(Ls:List KV) (s:DS) (x:Int),DInv d s x→(∀L∈Ls,L.length=17)→upB x (Ls.flatten++S)=true→s.E.length+17*Ls.length<2^19→
  Go (P2o w b c).params (330*Ls.length) (forIn (((Ls.flatten++S).map (bK q)).map itP) (some d,[]) f) s.T s.n s.i (some d,S.map (bK q)) (Ls.foldl (c8 d) s).T (Ls.foldl (c8 d) s).n (Ls.foldl (c8 d) s).i∧∃y,DInv d (Ls.foldl (c8 d) s) y∧upB y S=true
 | [],s,x,I,hL,hu,hl=>by
  refine⟨?_,x,I,hu⟩
  rw[List.flatten_nil,List.nil_append,hf.short _ _ _ (by simpa using hS)]
  exact Go.pure
 | L::Ls,s,x,I,hL,hu,hl=>by
  have h17:=hL L (.head _)
  rw[List.flatten_cons,List.append_assoc]at hu ⊢
  obtain⟨u1,u2⟩:=iy hu
  rw[List.length_cons]at hl
  have ih:=oh hf (q:=q) hd hS Ls (c8 d s L) (jE x L) (I.step u1) (λK hK=>hL K (.tail _ hK)) u2 (by
   show(s.E++bg L s.i).length+_<_
   rw[List.length_append,bM]
   lia)
  refine⟨?_,ih.2⟩
  rw[List.map_append,hf.part _ _ _ _ (by intro e;have:=congrArg List.length e;rw[List.length_map]at this;simp only[List.length_nil]at this;lia) (by rw[List.length_map];simpa using h17),List.nil_append,List.length_cons,show 330*(Ls.length+1)=330*Ls.length+330 by lia]
  have n0:=I.n0
  have i0:=I.i0
  obtain⟨T,n,i,E,m⟩:=s
  obtain⟨n,rfl⟩:∃k,n=k+1:=⟨n-1,by dsimp only at n0;lia⟩
  obtain⟨i,rfl⟩:∃k,i=k+1:=⟨i-1,by dsimp only at i0;lia⟩
  have fl:=p9 (w:=w) (b:=b) (c:=c) (T:=T) (i:=i) (q:=q) (L:=L) (x:=x) (eF hd) (eF (by dsimp only at n0;lia)) I.full I.lt I.get I.ne (m0 n0) (by lia) (show E.length+L.length<2^20 by dsimp only at hl;lia) I.le u1
  rw[show 19*L.length+7=330 by rw[h17]]at fl
  exact Go.bind fl ih.1
end
end
section
open PySem PySem.W PySem.W.X
noncomputable def tw:List (Option PySem.Expr)→List PySem.Expr→KV
 | some k::ks,v::vs=>(exI k,exS v)::tw ks vs
 | _,_=>[]
noncomputable def pH:List (Option PySem.Expr)→List PySem.Expr→Bool
 | [],[]=>true
 | some k::ks,v::vs=>(match k with
  | .Constant (.int _) _ _=>true
  | _=>false)&&((match v with
  | .Constant (.str _) _ _=>true
  | _=>false)&&pH ks vs)
 | _,_=>false
theorem hY{env:Env}{q:Pos}:∀{ks:List (Option PySem.Expr)} {vs:List PySem.Expr},pH ks vs=true→
  (evalEachOpt ks env).zip ((evalEach vs env).map λv=>do let x←v;standAt q;pure x)=((tw ks vs).map (bK q)).map itP
 | [],[],_=>rfl
 | [],_::_,h=>by cases h
 | some k::ks,[],h=>by cases h
 | none::ks,vs,h=>by cases vs<;>cases h
 | some k::ks,v::vs,h=>by
  unfold pH at h
  simp only[Bool.and_eq_true]at h
  obtain⟨h1,h2,h3⟩:=h
  have ih:=hY (env:=env) (q:=q) h3
  split at h1
  ·split at h2
   ·unfold evalEachOpt evalEach
    rw[List.map_cons,List.zip_cons_cons,ih]
    rfl
   ·cases h2
  ·cases h1
theorem im{d:Nat}:∀{Ls:List KV} {s:DS},(∀L∈Ls,L.length=17)→(Ls.foldl (c8 d) s).E.length=s.E.length+17*Ls.length
 | [],s,_=>rfl
 | L::Ls,s,h=>by
  rw[List.foldl_cons,im λK hK=>h K (.tail _ hK)]
  show(s.E++bg L s.i).length+_=_
  rw[List.length_append,bM,h L (.head _),List.length_cons]
  lia
section
variable{w:World}{b c:Bool}{T:BT}
theorem mF{a i:Nat}{q:Pos}{L0 S:KV}{Ls:List KV}{x:Int}(hf:Full T (a+1))(ha:20<a+1)(h0:L0.length=17)(hL:∀L∈Ls,L.length=17)(hS:S.length≤15)(hS0:S≠[])(hu:upB x (L0++(Ls.flatten++S))=true)(hl:Ls.length<2^12):
  ∃s,s=Ls.foldl (c8 (a+1)) ⟨T.ins (a+1) (ai (bg L0 (i+1)) 17),a+2,i+1+51,bg L0 (i+1),17⟩∧
  Go (P2o w b c).params (19*S.length+6+(330*Ls.length+223)) (dictDisplay (((L0++(Ls.flatten++S)).map (bK q)).map itP)) T (a+1) (i+1) (.ref (a+1))
   ((s.T.ins s.n (ai (bw S s.i) S.length)).set (a+1) λ_=>ai (s.E++bw S s.i) (s.m+S.length)) (s.n+1) (s.i+3*S.length):=by
 obtain⟨u1,u2⟩:=iy hu
 have I0:DInv (a+1) ⟨T.ins (a+1) (ai (bg L0 (i+1)) 17),a+2,i+1+51,bg L0 (i+1),17⟩ (jE x L0):=
  ⟨hf.push,bX hf.ins,Nat.lt_succ_self _,(λe=>by have:=congrArg List.length e;rw[bM,h0]at this;cases this),jr u1,Nat.lt_succ_of_lt ha,by show 0<i+1+51;lia⟩
 refine⟨_,rfl,?_⟩
 have hlen:=im (d:=a+1) (s:=⟨T.ins (a+1) (ai (bg L0 (i+1)) 17),a+2,i+1+51,bg L0 (i+1),17⟩) hL
 generalize hs:Ls.foldl (c8 (a+1)) ⟨T.ins (a+1) (ai (bg L0 (i+1)) 17),a+2,i+1+51,bg L0 (i+1),17⟩=s at hlen ⊢
 suffices H:∀f:kw,LF f→Go (P2o w b c).params (19*S.length+6+(330*Ls.length+223)) (forIn (((L0++(Ls.flatten++S)).map (bK q)).map itP) (none,[]) f >>= λs=>
   ((if s.2.isEmpty=true then pure s.1 else dy s.1 s.2:Sem (Option Addr)) >>= λm=>(match m with
   | some d=>pure (.ref d)
   | none=>newDict:Sem Value))) T (a+1) (i+1) (.ref (a+1)) ((s.T.ins s.n (ai (bw S s.i) S.length)).set (a+1) λ_=>ai (s.E++bw S s.i) (s.m+S.length)) (s.n+1) (s.i+3*S.length)by
  unfold dictDisplay
  dsimp only
  refine H _ ⟨λp main run h=>?_,λp main run h=>?_⟩
  ·have Zz:((run++[(p.1,p.2)]).length==17)=false:=by simp;lia
   simp only[itP,Zz,Bool.false_eq_true,if_false]
  ·have he:((run++[(p.1,p.2)]).length==17)=true:=by simp;lia
   have hn:(run++[(p.1,p.2)]).isEmpty=false:=by simp
   simp only[itP,he,hn,if_true,Bool.false_eq_true,if_false]
   rfl
 intro f F
 obtain⟨g,y,I,hy⟩:=oh (w:=w) (b:=b) (c:=c) F (q:=q) (S:=S) (d:=a+1) (by lia) (by lia) Ls _ _ I0 hL u2 (by show(bg L0 (i+1)).length+_<_;rw[bM,h0];lia)
 rw[hs]at g I
 rw[List.map_append,F.part _ _ _ _ (by intro e;have:=congrArg List.length e;rw[List.length_map,h0]at this;cases this) (by rw[List.length_map];simpa using h0),List.nil_append]
 refine Go.bind (N:=330*Ls.length+223) (N2:=19*S.length+6) (v:=(some (a+1),S.map (bK q))) (T1:=s.T) (n1:=s.n) (i1:=s.i) ?_ ?_
 ·refine Go.bind (N:=223) (N2:=330*Ls.length) (v:=some (a+1)) (T1:=T.ins (a+1) (ai (bg L0 (i+1)) 17)) (n1:=a+2) (i1:=i+1+51) ?_ g
  unfold dy
  have sb:=qR (w:=w) (b:=b) (c:=c) (q:=q) (i:=i) (eF (by lia)) hf (by lia) (by lia) u1
  rw[h0]at sb
  exact Go.bind (N2:=0) sb Go.pure
 ·dsimp only
  rw[if_neg (by cases S with | nil=>exact absurd rfl hS0 | cons e l=>simp)]
  obtain⟨sT,sn,si,sE,sm⟩:=s
  have n0:=I.n0
  have i0:=I.i0
  obtain⟨sn,rfl⟩:∃k,sn=k+1:=⟨sn-1,by dsimp only at n0;lia⟩
  obtain⟨si,rfl⟩:∃k,si=k+1:=⟨si-1,by dsimp only at i0;lia⟩
  have hb:sE.length+S.length<2^20:=by
   have h17:(bg L0 (i+1)).length=17:=by rw[bM,h0]
   dsimp only at hlen
   lia
  have fl:=oq (w:=w) (b:=b) (c:=c) (T:=sT) (i:=si) (q:=q) (L:=S) (x:=y) (eF (by lia)) (eF (by dsimp only at n0;lia)) I.full I.lt I.get I.ne (m0 n0) hS hb I.le hy
  have:=Go.bind (N2:=0) (f:=λm=>match m with | some d=>(pure (.ref d):Sem Value) | none=>newDict) fl Go.pure
  rw[Nat.zero_add]at this
  exact this
end
end
section
open PySem PySem.W PySem.W.X
noncomputable def vb(b:Nat):Obj:=⟨iz,none,(.dict (mA (b3E (17*(b-82)) 17)) (match Nat.beq b 120 with | true=>4 | false=>17)),mA []⟩
noncomputable def gQ(lim:Nat)(over:Nat→Option Obj):KT→Nat→Nat→BT
 | .nil,_,b=>match Nat.blt b lim with
  | true=>.node (match over b with
   | some o=>o
   | none=>vb b) .nil .nil
  | false=>.nil
 | .node v l r,a,b=>match Nat.blt b lim with
  | true=>.node (match over b with
   | some o=>o
   | none=>match v with
    | some o=>o
    | none=>vb b) (gQ lim over l (2*a) (a+b)) (gQ lim over r (2*a) (2*a+b))
  | false=>.nil
noncomputable def pE(v:Value):List DictEntry→List DictEntry
 | ⟨h,k,_⟩::l=>⟨h,k,v⟩::l
 | []=>[]
noncomputable def B5(v:Value)(k:Nat):Obj→Obj
 | ⟨c,d,.dict es _,s⟩=>⟨c,d,.dict ⟨(pE v es.toList).take k⟩ k,s⟩
 | o=>o
noncomputable def yF(k:Nat):Obj→Obj
 | ⟨c,d,.fields vs,s⟩=>⟨c,d,.fields ⟨vs.toList.take k⟩,s⟩
 | o=>o
noncomputable def Bh:List Nat:=[99,112,121,51,49,51,46,115,116,114,105,110,103,112,114,101,112]
noncomputable def lkO:List (Nat × Obj)→Nat→Option Obj
 | [],_=>none
 | p::l,j=>match Nat.beq p.1 j with
  | true=>some p.2
  | false=>lkO l j
noncomputable def ld(P:Params):List (Nat × Obj):=[(64,Ap P),(65,Ao P),(66,An P),(67,Am P),(68,Al P),(69,Ak P),(70,Aj P),(72,Ai P),(73,Ah P),(74,Af P),(146,wG P)]
noncomputable def ovr(P:Params)(k q:Nat):Nat→Option Obj:=lkO ((3,B5 (.str (mS Bh) 260) k (ob3 P))::(12,yF q (sW P))::ld P)
noncomputable def lK(P:Params):BT:=.node (boot_o_0 P)
 (.node (boot_o_1 P) (.node (boot_o_3 P) (.node (boot_o_7 P) .nil .nil) .nil) (.node (boot_o_5 P) (.node (boot_o_9 P) .nil .nil) .nil))
 (.node (boot_o_2 P) (.node (boot_o_4 P) (.node (boot_o_8 P) .nil .nil) .nil) (.node (boot_o_6 P) (.node (boot_o_10 P) .nil .nil) .nil))
noncomputable def Ta(P:Params):BT:=((((lK P).ins 11 (xi P)).ins 12 (yF 0 (sW P))).ins 13 (wY P))
noncomputable def T0(P:Params):BT:=(Ta P).ins 14 (wN P)
noncomputable def T8(P:Params):BT:=gQ 82 (ovr P 14 9) (Tb P) 1 0
noncomputable def T9(P:Params):BT:=gQ 121 (ovr P 15 9) (Tb P) 1 0
noncomputable def mY(P:Params):BT:=gQ 164 (lkO (ld P)) (Tb P) 1 0
noncomputable abbrev g5:Env:={scope:=pw.main.scope,locals:=mainNs,globals:=mainNs,cells:=[],code:=.ref 13,frame:=some 14}
noncomputable abbrev j3:Code:=.body (behindTheImports pw) g5
noncomputable abbrev h9:Code:=.builtin "claim.caller" {}
noncomputable def GoT{α:Type}(P:Params)(N:Nat)(m:Sem α)(T:BT)(n i:Nat)(v:α)(T':BT)(n' i':Nat):Prop:=
 ∀(M:Nat) (K:α→Sem PySem.Fin) (H:Value→Sem PySem.Fin) (gd:Bool→Bool) (lv:List Value→List Value) (k:Result→Sem PySem.Fin) (q p:Pos),
  ∃p',dx P (M+N) (m.wrap K H gd lv) (.ret k h9 q .base) j3 p T n i=dx P M (K v) (.ret k h9 q .base) j3 p' T' n' i'
theorem Go.top{α:Type}{P:Params}{N:Nat}{m:Sem α}{T:BT}{n i:Nat}{v:α}{T':BT}{n' i':Nat}(h:Go P N m T n i v T' n' i'):GoT P N m T n i v T' n' i':=
 λM K H gd lv k q p=>h M K H gd lv _ _ p
section
variable{w:World}{b c:Bool}
theorem x6:Go (P2o w b c).params 9 (PySem.W.Fast.tw17154629097778926822 pw.main) (lK (P2o w b c).params) 11 181 (.ref 13) (Ta (P2o w b c).params) 14 187:=by
 intro M K H gd lv κ c p
 exact⟨p,by kernel_rfl⟩
theorem x7:Go (P2o w b c).params 2 (PySem.W.Fast.tw12822647523644345616 (.ref 13) mainNs mainNs) (Ta (P2o w b c).params) 14 187 14 (T0 (P2o w b c).params) 15 187:=by
 intro M K H gd lv κ c p
 exact⟨p,by kernel_rfl⟩
theorem go_c:Go (P2o w b c).params 214 (execs (pw.main.body.drop 9) g5) (T9 (P2o w b c).params) 121 2280 .next (mY (P2o w b c).params) 164 2339:=by
 intro M K H gd lv κ c p
 refine⟨⟨123,0,163,34⟩,?_⟩
 rw[PySem.W.Fast.te12563942051412417395]
 kernel_rfl
theorem BW:GoT (P2o w b c).params 1417 (execs (pw.main.body.take 8) g5) (T0 (P2o w b c).params) 15 187 .next (T8 (P2o w b c).params) 82 329:=by
 intro M K H gd lv k q p
 refine⟨⟨61,0,62,30⟩,?_⟩
 rw[PySem.W.Fast.te12563942051412417395]
 cases b<;>kernel_rfl
end
end
section
open PySem PySem.W PySem.W.X
noncomputable def a8N:Stmt→PySem.Str × Pos × Pos × Pos
 | .Assign [.Name x q] (.Dict _ _ d) p=>(x,q,d,p)
 | _=>(mS [],⟨0,0,0,0⟩,⟨0,0,0,0⟩,⟨0,0,0,0⟩)
theorem st8:stA 8=.Assign [.Name (a8N (stA 8)).1 (a8N (stA 8)).2.1] (.Dict b3K b3V (a8N (stA 8)).2.2.1) (a8N (stA 8)).2.2.2:=by kernel_rfl
noncomputable def B3:KV:=tw b3K b3V
theorem uA:pH b3K b3V=true:=by decide+kernel
theorem yG:upB 0 B3=true:=by decide+kernel
theorem jw:B3.length=650:=by decide+kernel
noncomputable def cS:Nat→KV→List KV
 | 0,_=>[]
 | k+1,l=>l.take 17::cS k (l.drop 17)
theorem gW:∀(k:Nat) (l:KV),(cS k l).flatten++l.drop (17*k)=l
 | 0,l=>rfl
 | k+1,l=>by
  have ih:=gW k (l.drop 17)
  rw[List.drop_drop,show 17+17*k=17*(k+1)by lia]at ih
  show(l.take 17++(cS k (l.drop 17)).flatten)++_=l
  rw[List.append_assoc,ih,List.take_append_drop]
theorem fk:∀(k:Nat) (l:KV),17*k≤l.length→∀L∈cS k l,L.length=17
 | 0,_,_,L,h=>nomatch h
 | k+1,l,hl,L,h=>by
  rcases List.mem_cons.mp h with rfl | h
  ·rw[List.length_take];lia
  ·exact fk k _ (by rw[List.length_drop];lia) L h
theorem dz:∀(k:Nat) (l:KV),(cS k l).length=k
 | 0,_=>rfl
 | k+1,l=>by show(cS k _).length+1=_;rw[dz k]
noncomputable def L0:KV:=B3.take 17
noncomputable def Ls:List KV:=cS 37 (B3.drop 17)
noncomputable def S0:KV:=(B3.drop 17).drop (17*37)
theorem ku:B3=L0++(Ls.flatten++S0):=by
 unfold L0 Ls S0
 rw[gW,List.take_append_drop]
noncomputable def oA(d:Nat):List KV→BT→Nat→Nat→List DictEntry→Nat→DS
 | [],T,n,i,E,m=>⟨T,n,i,E,m⟩
 | L::Ls,T,n,i,E,m=>match bg L i with
  | A=>oA d Ls ((T.ins n (ai A 17)).set d λ_=>ai (E++A) (m+17)) (n+1) (i+51) (E++A) (m+17)
theorem kc{d:Nat}:∀(Ls:List KV) (T:BT) (n i:Nat) (E:List DictEntry) (m:Nat),(∀L∈Ls,L.length=17)→Ls.foldl (c8 d) ⟨T,n,i,E,m⟩=oA d Ls T n i E m
 | [],_,_,_,_,_,_=>rfl
 | L::Ls,T,n,i,E,m,h=>by
  have h17:=h L (.head _)
  have e:c8 d ⟨T,n,i,E,m⟩ L=⟨(T.ins n (ai (bg L i) 17)).set d λ_=>ai (E++bg L i) (m+17),n+1,i+51,E++bg L i,m+17⟩:=by
   unfold c8
   rw[h17]
  rw[List.foldl_cons,e,kc Ls _ _ _ _ _ λK hK=>h K (.tail _ hK)]
  rfl
noncomputable def dsE(P:Params):DS:=oA 82 Ls ((T8 P).ins 82 (ai (bg L0 329) 17)) 83 380 (bg L0 329) 17
noncomputable def T8d(P:Params):BT:=((dsE P).T.ins (dsE P).n (ai (bw S0 (dsE P).i) S0.length)).set 82 λ_=>ai ((dsE P).E++bw S0 (dsE P).i) ((dsE P).m+S0.length)
section
variable{w:World}{b c:Bool}{P:Params}
theorem pf:Full (T8 P) 82:=qb (by kernel_rfl)
theorem qV:(dsE P).n=120:=by kernel_rfl
theorem qW:(dsE P).i=2267:=by kernel_rfl
theorem p6{q:Pos}:Go (P2o w b c).params 12516 (eval (.Dict b3K b3V q) g5) (T8 (P2o w b c).params) 82 329 (.ref 82) (T8d (P2o w b c).params) 121 2279:=by
 rw[arm_eval_Dict,hY uA]
 show Go _ _ (standAt q >>= λ_=>dictDisplay ((B3.map (bK q)).map itP)) _ _ _ _ _ _ _
 rw[ku]
 have hS:S0.length=4:=by unfold S0;rw[List.length_drop,List.length_drop,jw]
 obtain⟨s,hs,g⟩:=mF (w:=w) (b:=b) (c:=c) (T:=T8 (P2o w b c).params) (a:=81) (i:=328) (q:=q) (L0:=L0) (S:=S0) (Ls:=Ls) (x:=0) pf (by decide) (by unfold L0;rw[List.length_take,jw];decide) (fk 37 _ (by rw[List.length_drop,jw];decide)) (by rw[hS];decide) (by intro e;rw[e]at hS;cases hS) (by rw[←ku];exact yG) (by unfold Ls;rw[dz];decide)
 have e:s=dsE (P2o w b c).params:=hs.trans (kc _ _ _ _ _ _ (fk 37 _ (by rw[List.length_drop,jw];decide)))
 subst e
 have hL:Ls.length=37:=dz 37 _
 rw[hL,hS,qV,qW]at g
 refine Go.bind (N:=1) (N2:=12515) Go.at ?_
 unfold T8d
 rw[qV,qW,hS]
 exact g
theorem p8:Go (P2o w b c).params 6 (bindName g5 (a8N (stA 8)).1 (.ref 82)) (T8d (P2o w b c).params) 121 2279 () (T9 (P2o w b c).params) 121 2280:=by
 intro M K H gd lv κ c p
 refine⟨p,?_⟩
 rw[PySem.W.Fast.te7536695828754713326]
 cases b<;>kernel_rfl
theorem go_8:Go (P2o w b c).params 12524 (exec (stA 8) g5) (T8 (P2o w b c).params) 82 329 .next (T9 (P2o w b c).params) 121 2280:=by
 have e:=exec_Assign_Name (env:=g5) (a8N (stA 8)).1 (a8N (stA 8)).2.1 (.Dict b3K b3V (a8N (stA 8)).2.2.1) (a8N (stA 8)).2.2.2 (by rw[PySem.W.Fast.te17223243974762974889];kernel_rfl)
 rw[←st8]at e
 rw[e]
 refine Go.bind (N:=1) (N2:=12523) Go.at ?_
 refine Go.bind (N:=12516) (N2:=7) p6 ?_
 refine Go.bind (N:=1) (N2:=6) Go.at ?_
 exact Go.bind (N:=6) (N2:=0) p8 Go.pure
end
end
section
open PySem PySem.W PySem.W.X
section
variable{w:World}{b c:Bool}{P:Params}
theorem GoT.app{N1 N2:Nat}{l1 l2:List Stmt}{env:Env}{T T1 T2:BT}{n i n1 i1 n2 i2:Nat}(h1:GoT P N1 (execs l1 env) T n i .next T1 n1 i1)(h2:GoT P N2 (execs l2 env) T1 n1 i1 .next T2 n2 i2):GoT P (N2+N1) (execs (l1++l2) env) T n i .next T2 n2 i2:=by
 intro M K H gd lv k q p
 obtain⟨p1,e1⟩:=h1 (M+N2) (λf=>match f with | .next=>(execs l2 env).wrap K H gd lv | f=>K f) H gd lv k q p
 obtain⟨p2,e2⟩:=h2 M K H gd lv k q p1
 refine⟨p2,?_⟩
 rw[execs_app_wrap,←Nat.add_assoc]
 exact e1.trans e2
theorem GoT.one{N1:Nat}{st:Stmt}{env:Env}{T T1:BT}{n i n1 i1:Nat}(h1:GoT P N1 (exec st env) T n i .next T1 n1 i1):GoT P N1 (execs [st] env) T n i .next T1 n1 i1:=by
 intro M K H gd lv k q p
 obtain⟨p1,e1⟩:=h1 M (λf=>match f with | .next=>(execs [] env).wrap K H gd lv | f=>K f) H gd lv k q p
 refine⟨p1,?_⟩
 rw[execs_cons_wrap]
 exact e1
theorem qo:behindTheImports pw=pw.main.body.take 8++([stA 8]++pw.main.body.drop 9):=by kernel_rfl
theorem p7:GoT (P2o w b c).params 14155 (execs (behindTheImports pw) g5) (T0 (P2o w b c).params) 15 187 .next (mY (P2o w b c).params) 164 2339:=by
 rw[qo]
 exact GoT.app (N1:=1417) (N2:=12738) BW (GoT.app (N1:=12524) (N2:=214) (GoT.one go_8.top) go_c.top)
theorem oP:blockStart (behindTheImports pw) g5=Sem.pure ():=by
 rw[PySem.W.Fast.te1066825118222455980]
 kernel_rfl
theorem m8{N:Nat}{c':Code}{f:Flow→Sem PySem.Fin}{κ:KS}{J:Code}{p:Pos}{T:BT}{n i:Nat}:dx P (N+1) (PySem.run c' >>= f) κ J p T n i=dx P N (D c') (.ret (λr=>((match r with | .ok g=>.pure g | .error e=>.raise e):Sem Flow).bind f) J p κ) c' p T n i:=rfl
theorem n8:∃p',dx (P2o w b c).params 14169 (topStub pw).cur .base h9 default (lK (P2o w b c).params) 11 181=some (.ret .none,mY (P2o w b c).params,164,2339,h9,p'):=by
 have e0:(topStub pw).cur=(PySem.W.Fast.tw17154629097778926822 pw.main >>= λcode=>PySem.W.Fast.tw12822647523644345616 code mainNs mainNs >>= λframe=>PySem.run (.body (behindTheImports pw) {scope:=pw.main.scope,locals:=mainNs,globals:=mainNs,cells:=[],code,frame:=some frame}) >>= λ_=>(ret .none:Sem PySem.Fin)):=by
  unfold topStub
  rw[PySem.W.Fast.te17154629097778926822,PySem.W.Fast.te12822647523644345616]
 rw[e0,Sem.bind_eq_wrap']
 obtain⟨p1,e1⟩:=x6 (w:=w) (b:=b) (c:=c) 14160 (λcode=>PySem.W.Fast.tw12822647523644345616 code mainNs mainNs >>= λframe=>PySem.run (.body (behindTheImports pw) {scope:=pw.main.scope,locals:=mainNs,globals:=mainNs,cells:=[],code,frame:=some frame}) >>= λ_=>(ret .none:Sem PySem.Fin)) .raise id id .base h9 default
 rw[show(14169:Nat)=14160+9 from rfl,e1,Sem.bind_eq_wrap']
 obtain⟨p2,e2⟩:=x7 (w:=w) (b:=b) (c:=c) 14158 (λframe=>PySem.run (.body (behindTheImports pw) {scope:=pw.main.scope,locals:=mainNs,globals:=mainNs,cells:=[],code:=.ref 13,frame:=some frame}) >>= λ_=>(ret .none:Sem PySem.Fin)) .raise id id .base h9 p1
 rw[show(14160:Nat)=14158+2 from rfl,e2]
 refine⟨p2,(m8 (N:=14157)).trans ?_⟩
 rw[←show denote table j3=D j3 from congrFun hH j3,body_wrap,oP]
 obtain⟨p3,e3⟩:=p7 (w:=w) (b:=b) (c:=c) 2 doneF (leaveH g5) id id (λr=>((match r with | .ok f=>.pure f | .error e=>.raise e):Sem Flow).bind λ_=>(ret .none:Sem PySem.Fin)) p2 p2
 exact e3.trans rfl
end
noncomputable def da(P:Params):Heap:=absHeap (mY P) 164 {}
theorem oX(w:World):P2o w (w.params.followText "special-get-raises") ((w.withFollow "special-get-raises" (w.params.followText "special-get-raises")).params.followText "set-order")=w:=by
 unfold P2o
 rw[World.withFollow_self,World.withFollow_self]
theorem n7(w:World)(os:OsState):topRun treeTable pw w 11 (some (.ref 6)) 14169 ⟨boot_heap w.params,Array.mk [],boot_drawn,boot_toks,os⟩ (topStub pw)=some ⟨da w.params,Array.mk [],boot_drawn,2339,os⟩:=by
 rw[←PySem.table_eq_tree]
 have key:∀(b c:Bool),topRun table pw (P2o w b c) 11 (some (.ref 6)) 14169 ⟨boot_heap (P2o w b c).params,Array.mk [],boot_drawn,boot_toks,os⟩ (topStub pw)=some ⟨da (P2o w b c).params,Array.mk [],boot_drawn,2339,os⟩:=λb c=>by
  obtain⟨p',e⟩:=n8 (w:=w) (b:=b) (c:=c)
  have:=kW (w:=P2o w b c) (life:={}) (gens:=Array.mk []) (drawn:=boot_drawn) (os:=os) _ _ _ _ _ _ _ _ _ _ _ _ _ _ _ e .base
  have eb:boot_heap (P2o w b c).params=absHeap (lK (P2o w b c).params) 11 {}:=by kernel_rfl
  rw[eb]
  exact this
 have:=key (w.params.followText "special-get-raises") ((w.withFollow "special-get-raises" (w.params.followText "special-get-raises")).params.followText "set-order")
 rw[oX]at this
 exact this
theorem mC:∀w:World,(fencedOpening treeTable pw w 20000).map (λs=>(s.heap,s.gens,s.drawn,s.toks))=some (boot_heap w.params,Array.mk [],boot_drawn,boot_toks):=
 boot_open (by kernel_rfl) (by decide) (λs=>by kernel_rfl)
theorem mB(w:World):((boot_heap w.params).isNs mainGlobals&&(Array.mk ([]:List GenState)).size==0,(boot_heap w.params).objs.size,(boot_heap w.params).nsMap mainGlobals "__annotations__")=(true,11,some (.ref 6)):=by
 rw[PySem.W.Fast.te8920871248978507458]
 kernel_rfl
end
section
open PySem PySem.W PySem.W.X
noncomputable def qv:Program:={pw with main:={pw.main with body:=[stA 16]}}
theorem lk1(P:Params):staticsOk (importedModules pw.main.body) (boot_heap P) (da P)=true:=by kernel_rfl
theorem lk2(P:Params):namesBound pw (da P)=true:=by kernel_rfl
theorem lk3(P:Params):laidKept (boot_heap P) (da P)=true:=by kernel_rfl
noncomputable def iP:List PySem.Str:=[("CHAR_MAX":PySem.Str),("_grouping_intervals":PySem.Str),("_netrclex":PySem.Str),("b1_set":PySem.Str),("in_table_b1":PySem.Str),("b3_exceptions":PySem.Str),("map_table_b3":PySem.Str),("_law_totals":PySem.Str),("_law_rulers":PySem.Str),("_law_word":PySem.Str),("_law_lexer":PySem.Str),("_law_marks":PySem.Str)]
noncomputable abbrev qX:Shared→Bool:=λs=>recOk (RowW.records PySem.Challenge.rw_sw0059_01.row.toRowW) s
theorem lk4(P:Params)(os:OsState):openSeen qv iP (importedModules pw.main.body) qX true ⟨da P,Array.mk [],boot_drawn,2339,os⟩=openGood qv iP:=by
 rw[PySem.W.Fast.te4187177175401517315]
 kernel_rfl
theorem mD:LeftO pw qv iP qX (λs=>s.heap) (λw=>da w.params) 20000:=
 LeftO.of_pieces mC mB n7 (by decide) λw=>funext λos=>by
  rw[lk1,lk2,lk3,lk4]
  rfl
end
section
open PySem PySem.W PySem.W.X
noncomputable def ay(α ρ:Nat→Addr)(m₀:Nat)(j:Nat):Addr:=match Nat.blt j m₀ with
 | true=>α j
 | false=>ρ j
variable{α ρ:Nat→Addr}{m₀:Nat}{T:KT}{objs:List (Option Obj)}{h:Heap}{es:List Nat}
theorem cO(a:Ag ρ α m₀):ay α ρ m₀=ρ:=by
 funext j
 unfold ay
 cases q:Nat.blt j m₀ with
 | false=>rfl
 | true=>exact(a j (Nat.le_of_ble_eq_true q)).symm
noncomputable def av(α:Nat→Addr):List (Option Obj)→Nat→List (Addr × Option Obj)
 | [],_=>[]
 | o::l,j=>(α j,o)::av α l (j+1)
noncomputable def dP:List (Nat × Obj)→Nat→Option Obj
 | [],_=>none
 | p::l,j=>match Nat.beq p.1 j with
  | true=>some p.2
  | false=>dP l j
noncomputable def jA:List (Option Obj)→Nat→List (Nat × Obj)→List (Option Obj)
 | [],_,_=>[]
 | o::l,j,u=>(match dP u j with
  | some x=>some x
  | none=>o)::jA l (j+1) u
noncomputable def eA(T:TT):Nat→Nat→List (Option Obj)
 | _,0=>[]
 | j,n+1=>T.get j::eA T (j+1) n
noncomputable def aa:List Nat→Nat→Nat
 | [],_=>0
 | a::l,q=>match Nat.beq q 0 with
  | true=>a
  | false=>aa l (q-1)
noncomputable def aL:List Value→Nat→Value
 | [],_=>.none
 | a::l,q=>match Nat.beq q 0 with
  | true=>a
  | false=>aL l (q-1)
structure Res where
 e:uI
 old:List (Option Obj)
 new:List (Option Obj)
 G:GP
 ad:List (Addr × Addr)
 sd:List ac
noncomputable def res(m₀:Nat)(es:List Nat):Option Out→Option Res
 | none=>none
 | some o=>some ⟨o.e,eA o.T 0 m₀,es.map o.T.get,o.G,o.ad,o.sd⟩
noncomputable def bZ(m:Nat):List Nat→Bool
 | []=>true
 | a::l=>match Nat.ble m a with
  | true=>bZ m l
  | false=>false
theorem aA(α:Nat→Addr):∀(l:List (Option Obj)) (j q:Nat),(av α l j)[q]? =match l[q]? with
  | some o=>some (α (j+q),o)
  | none=>none
 | [],_,_=>by simp[av]
 | o::l,j,0=>rfl
 | o::l,j,q+1=>by
  show(av α l (j+1))[q]? =match l[q]? with | some o=>some (α (j+(q+1)),o) | none=>none
  rw[aA α l (j+1) q,show j+1+q=j+(q+1)by lia]
theorem bI(T:TT):∀(n j q:Nat),(eA T j n)[q]? =if q<n then some (T.get (j+q))else none
 | 0,_,_=>by simp[eA]
 | n+1,j,0=>by simp[eA]
 | n+1,j,q+1=>by
  show(eA T (j+1) n)[q]? =_
  rw[bI T n (j+1) q]
  by_cases h:q<n
  ·rw[if_pos h,if_pos (by lia),show j+1+q=j+(q+1)by lia]
  ·rw[if_neg h,if_neg (by lia)]
theorem jz(u:List (Nat × Obj)):∀(l:List (Option Obj)) (j q:Nat),(jA l j u)[q]? =match l[q]? with
  | some o=>some (match dP u (j+q)with | some x=>some x | none=>o)
  | none=>none
 | [],_,_=>by simp[jA]
 | o::l,j,0=>rfl
 | o::l,j,q+1=>by
  show(jA l (j+1) u)[q]? =match l[q]? with | some o=>some (match dP u (j+(q+1))with | some x=>some x | none=>o) | none=>none
  rw[jz u l (j+1) q,show j+1+q=j+(q+1)by lia]
theorem gO:∀{u:List (Nat × Obj)} {j:Nat} {o:Obj},dP u j=some o→(j,o)∈u
 | [],_,_,h=>by cases h
 | p::l,j,o,h=>by
  unfold dP at h
  split at h
  ·rename_i q
   cases h
   have:=Nat.eq_of_beq_eq_true q
   subst this
   exact .head _
  ·exact .tail _ (gO h)
theorem iu{m:Nat}:∀{l:List Nat},bZ m l=true→∀j∈l,m≤j
 | [],_,_,h=>by cases h
 | a::l,h,j,hj=>by
  unfold bZ at h
  split at h
  ·rename_i q
   rcases List.mem_cons.mp hj with rfl | hj
   ·exact Nat.le_of_ble_eq_true q
   ·exact iu h j hj
  ·cases h
theorem hX:∀(l:List Nat) (q:Nat),aa l q=(l[q]?).getD 0
 | [],q=>by simp[aa]
 | a::l,0=>rfl
 | a::l,q+1=>by
  show aa l (q+1-1)=_
  rw[Nat.add_sub_cancel,hX l q];rfl
theorem gT:∀{l:List Nat},aF l=true→l.Nodup:=by
 intro l
 induction l with
 | nil=>exact λ_=>.nil
 | cons a l ih=>
  intro h
  unfold aF at h
  split at h
  ·cases h
  ·rename_i q
   refine List.nodup_cons.mpr ⟨λhm=>?_,ih h⟩
   have:(l.any λb=>Nat.beq a b)=true:=List.any_eq_true.mpr ⟨a,hm,Nat.beq_refl a⟩
   rw[q]at this;cases this
noncomputable def Ok(w:World)(lv:Nat)(s:ac):Prop:=eq pw w (Tb w.params) lv s.c s.pre s.G s.G' s.nn s.nt s.nz s.F
noncomputable def bU:List (Nat × Obj)→Bool
 | []=>true
 | p::l=>match(dP l p.1).isSome with
  | true=>false
  | false=>bU l
theorem fY:∀{u:List (Nat × Obj)},bU u=true→∀p∈u,dP u p.1=some p.2
 | [],_,p,h=>by cases h
 | x::l,h,p,hp=>by
  unfold bU at h
  split at h
  ·cases h
  ·rename_i q
   rcases List.mem_cons.mp hp with rfl | hp
   ·unfold dP
    rw[Nat.beq_refl]
   ·have z:=fY h p hp
    unfold dP
    cases hb:Nat.beq x.1 p.1 with
    | false=>exact z
    | true=>
     have:=Nat.eq_of_beq_eq_true hb
     rw[this,z]at q;cases q
theorem br(hl:objs.length<1000000)(hB:be T h)(hP:cy T h (av α objs 0)):
  Rp T objs.length α h h (aJ objs 0 .nil) objs.length:=by
 have un:=cH objs 0 .nil (by lia)
 have at_:∀j o,(aJ objs 0 .nil).get j=some o→objs[j]? =some (some o):=λj o e=>by
  rw[un,if_neg (Nat.not_lt_zero j),Nat.sub_zero]at e
  split at e
  ·rename_i v hv;subst e;exact hv
  ·cases e
 have pa:∀j o,objs[j]? =some (some o)→(av α objs 0)[j]? =some (α j,some o):=λj o e=>by
  rw[aA,e];simp
 have gt:∀j o,objs[j]? =some (some o)→h.get? (α j)=some o∧T.get (α j)=none:=λj o e=>hP.get _ (List.mem_of_getElem? (pa j o e)) o rfl
 refine⟨λj o e=>⟨(List.getElem?_eq_some_iff.mp (at_ j o e)).1,(gt j o (at_ j o e)).1⟩,λi j oi oj ei ej q=>?_,λj o e=>(gt j o (at_ j o e)).2,hB,λb o e _=>e,Nat.le_refl _,λj o e q=>?_⟩
 ·exact hP.inj i j _ _ oi oj (pa i oi (at_ i oi ei)) (pa j oj (at_ j oj ej)) rfl rfl q
 ·exact absurd (List.getElem?_eq_some_iff.mp (at_ j o e)).1 (Nat.not_lt.mpr q)
theorem eE{h':Heap}{out:Out}{nn:Nat}{fo:oZ}(hl:objs.length<1000000)(hag:Ag ρ α objs.length)(hP:cy T h (av α objs 0))
  (D:Rp T objs.length ρ h h' out.T out.m) (h1:eA out.T 0 objs.length=jA objs 0 fo.ups) (h2:∀(q:Nat) (o:Obj),fo.news[q]? =some (some o)→q<nn∧(es.map out.T.get)[q]? =some (some o)) (hu:bU fo.ups=true)
  (hes:aF es=true) (hge:bZ objs.length es=true) (hn:es.length=nn) (hsome:∀j∈es,∃o,out.T.get j=some o):
  bE T h h' (av α objs 0) nn (aa (es.map ρ)) fo:=by
 have gt:∀j,j<objs.length→∃o,objs[j]? =some o∧out.T.get j=(match dP fo.ups j with | some x=>some x | none=>o):=λj hj=>by
  have a:=bI out.T objs.length 0 j
  rw[if_pos hj,h1,jz,Nat.zero_add]at a
  cases ho:objs[j]? with
  | none=>rw[ho]at a;cases a
  | some o=>
   rw[ho]at a
   exact⟨o,rfl,(Option.some.inj a).symm⟩
 have as_:∀q,q<nn→∃j,es[q]? =some j∧aa (es.map ρ) q=ρ j:=λq hq=>by
  have Zp:q<es.length:=hn▸hq
  refine⟨es[q],List.getElem?_eq_getElem Zp,?_⟩
  rw[hX,List.getElem?_map,List.getElem?_eq_getElem Zp];rfl
 refine⟨D.base,D.ge,λp hp x hx=>?_,λb o e k=>?_,λq o e=>?_,λq hq=>?_,λq q' hq Zp e=>?_⟩
 ·rw[aA,Nat.zero_add]at hx
  cases ho:objs[p.1]? with
  | none=>rw[ho]at hx;cases hx
  | some o=>
   rw[ho]at hx
   cases hx
   have hj:=(List.getElem?_eq_some_iff.mp ho).1
   obtain⟨o',_,g⟩:=gt p.1 hj
   rw[fY hu p hp]at g
   have:=(D.own _ _ g).2
   rwa[hag _ hj]at this
 ·by_cases hx:∃j o',out.T.get j=some o'∧ρ j=b
  ·obtain⟨j,o',g,rfl⟩:=hx
   by_cases hj:j<objs.length
   ·obtain⟨oo,ho,g'⟩:=gt j hj
    have hr:ρ j=α j:=hag j hj
    rw[hr]at e k ⊢
    have pa:(av α objs 0)[j]? =some (α j,oo):=by rw[aA,ho];simp
    cases hg:dP fo.ups j with
    | some y=>exact absurd rfl (k (j,y) (gO hg) _ pa)
    | none=>
     rw[hg]at g'
     have g'':oo=some o':=g'.symm.trans g
     subst g''
     have:=(hP.get _ (List.mem_of_getElem? pa) o' rfl).1
     have e':o=o':=Option.some.inj (e.symm.trans this)
     subst e'
     have:=(D.own _ _ g).2
     rwa[hr]at this
   ·have:=D.fr j o' g (Nat.not_lt.mp hj)
    exact absurd (Heap.lt_size e) (Nat.not_lt.mpr this)
  ·exact D.keep b o e λj o' g q=>hx ⟨j,o',g,q⟩
 ·obtain⟨hq,e⟩:=h2 q o e
  obtain⟨j,hj,ea⟩:=as_ q hq
  rw[ea]
  rw[List.getElem?_map,hj]at e
  exact(D.own j o (Option.some.inj e)).2
 ·obtain⟨j,hj,ea⟩:=as_ q hq
  rw[ea]
  have hm:=List.mem_of_getElem? hj
  obtain⟨o,ho⟩:=hsome j hm
  exact D.fr j o ho (iu hge j hm)
 ·obtain⟨j,hj,ea⟩:=as_ q hq
  obtain⟨j',hj',ea'⟩:=as_ q' Zp
  rw[ea,ea']at e
  obtain⟨o,ho⟩:=hsome j (List.mem_of_getElem? hj)
  obtain⟨o',ho'⟩:=hsome j' (List.mem_of_getElem? hj')
  have:=D.inj j j' o o' ho ho' e
  subst this
  have nd:=gT hes
  obtain⟨l1,g1⟩:=List.getElem?_eq_some_iff.mp hj
  obtain⟨l2,g2⟩:=List.getElem?_eq_some_iff.mp hj'
  have a1:=List.Nodup.idxOf_getElem nd q l1
  have a2:=List.Nodup.idxOf_getElem nd q' l2
  rw[g1]at a1
  rw[g2]at a2
  exact a1.symm.trans a2
noncomputable def bH:List (Option Obj)→Bool
 | []=>true
 | some _::l=>bH l
 | none::_=>false
theorem b9:∀{l:List (Option Obj)},bH l=true→∀x∈l,∃o,x=some o
 | [],_,x,h=>by cases h
 | some o::l,h,x,hx=>by
  rcases List.mem_cons.mp hx with rfl | hx
  ·exact⟨o,rfl⟩
  ·exact b9 (show bH l=true from h) x hx
 | none::l,h,_,_=>by cases h
theorem cm{x:Option Out}{r:Res}(h:res m₀ es x=some r):∃out,x=some out∧out.e=r.e∧eA out.T 0 m₀=r.old∧es.map out.T.get=r.new∧out.G=r.G∧out.ad=r.ad∧out.sd=r.sd:=by
 cases x with
 | none=>cases h
 | some o=>cases h;exact⟨o,rfl,rfl,rfl,rfl,rfl,rfl,rfl⟩
theorem ml{w:World}{lv:Nat}{s:ac}(es:List Nat)(n:Nat)(nw:Nm→List (Option Obj))(tl:Nm→List Nat)(zl:Nm→List Value)(ZC:List Orc)(sides:Nm→List ac)
  (hp:s.pre=av α objs 0) (hl:objs.length<1000000) (hes:aF es=true) (hge:bZ objs.length es=true) (hn:es.length=s.nn)
  (seg:∀ρ τ ζ,res objs.length es (iK (Tb w.params) ⟨pw,w.params⟩ (ay α ρ objs.length) τ ζ n s.c (aJ objs 0 .nil) objs.length 0 0 ZC s.G)=
   some ⟨.ret (s.F (cut s.nn (aa (es.map (ay α ρ objs.length)))) (cut s.nt (aa (tl ⟨ay α ρ objs.length,τ,ζ⟩))) (aq s.nz (aL (zl ⟨ay α ρ objs.length,τ,ζ⟩)))).r,
    jA objs 0 (s.F (cut s.nn (aa (es.map (ay α ρ objs.length)))) (cut s.nt (aa (tl ⟨ay α ρ objs.length,τ,ζ⟩))) (aq s.nz (aL (zl ⟨ay α ρ objs.length,τ,ζ⟩)))).ups,
    nw ⟨ay α ρ objs.length,τ,ζ⟩,s.G' (cut s.nn (aa (es.map (ay α ρ objs.length)))),cZ (ay α ρ objs.length) ZC,sides ⟨ay α ρ objs.length,τ,ζ⟩⟩)
  (hw:∀N,bH (nw N)=true) (hle:∀(N:Nm) (q:Nat) (o:Obj),(s.F (cut s.nn (aa (es.map N.r))) (cut s.nt (aa (tl N))) (aq s.nz (aL (zl N)))).news[q]? =some (some o)→(nw N)[q]? =some (some o))
  (hu:∀C U O,bU (s.F C U O).ups=true) (hs:∀N,∀x∈sides N,Ok w lv x):Ok w (lv+1) s:=by
 intro A R h gs d U os hA hG hB hP K
 rw[hp]at hP
 have D₀:=br hl hB hP
 refine cR (m₀:=objs.length) (h₀:=h) (i:=0) (z:=0) (τ₀:=λ_=>0) (ζ₀:=λ_=>.none) (ZC:=ZC) hA n (Nat.le_of_lt hl) D₀ hG λρ τ ζ a _ _=>?_
 have sg:=seg ρ τ ζ
 rw[cO a]at sg
 obtain⟨out,e,e1,e2,e3,e4,e5,e6⟩:=cm sg
 refine⟨out,e,by rw[e5];exact bq _ _,by rw[e6];exact hs _,λh' Zt ZM D Zq=>?_⟩
 rw[e1]
 have hsome:∀j∈es,∃o,out.T.get j=some o:=λj hj=>by
  have:=List.mem_map_of_mem (f:=out.T.get) hj
  rw[e3]at this
  exact b9 (hw _) _ this
 refine K h' Zt ZM (aa (es.map ρ)) (aa (tl ⟨ρ,τ,ζ⟩)) (aL (zl ⟨ρ,τ,ζ⟩)) (by rw[e4]at Zq;exact Zq) ?_
 rw[hp]
 refine eE hl a hP D e2 (λq o hq=>?_) (hu _ _ _) hes hge hn hsome
 have z:=hle ⟨ρ,τ,ζ⟩ q o hq
 rw[e3]
 refine⟨?_,z⟩
 have:=(List.getElem?_eq_some_iff.mp z).1
 have l3:=congrArg List.length e3
 rw[List.length_map,hn]at l3
 dsimp only at l3
 lia
end
section
open PySem PySem.W PySem.W.X
variable{lv lv':Nat}{w:World}{s:ac}
theorem Lv.mono{A:Around}(l:lv≤lv')(h:Lv A lv'):Lv A lv:=⟨h.hd,by have:=h.dp;lia,by have:=h.un;lia⟩
theorem Ok.mono(l:lv≤lv')(h:Ok w lv s):Ok w lv' s:=
 λA R hp gs d U os hA hG hB hP K=>h A R hp gs d U os (hA.mono l) hG hB hP K
noncomputable def ids(l:List Nat):List Orc:=l.map .id
noncomputable def orS(foot:List Nat)(f:Nm→ac):Orc:=
 .fn foot (f ⟨λ_=>0,λ_=>0,λ_=>.none⟩).nn (f ⟨λ_=>0,λ_=>0,λ_=>.none⟩).nt (f ⟨λ_=>0,λ_=>0,λ_=>.none⟩).nz (λN=>(f N).G') (λN=>(f N).F)
noncomputable def bx(u:List (Nat × Obj)):Nat→List (Option Obj)→List (Option Obj)→Prop
 | j,o::l,o'::l'=>(o=o'∨(dP u j).isSome=true)∧bx u (j+1) l l'
 | _,[],[]=>True
 | _,_,_=>False
theorem bY{u:List (Nat × Obj)}:∀{l l':List (Option Obj)} {j:Nat},bx u j l l'→∀(q:Nat) (o:Option Obj),l[q]? =some o→∃o',l'[q]? =some o'∧(o=o'∨(dP u (j+q)).isSome=true)
 | [],[],_,_,q,o,e=>by simp at e
 | [],_::_,_,h,_,_,_=>h.elim
 | _::_,[],_,h,_,_,_=>h.elim
 | a::l,b::l',j,h,0,o,e=>by
  cases e
  exact⟨b,rfl,h.1⟩
 | a::l,b::l',j,h,q+1,o,e=>by
  have:=bY h.2 q o (by simpa using e)
  obtain⟨o',e',h'⟩:=this
  exact⟨o',by simpa using e',by rw[show j+(q+1)=j+1+q by lia];exact h'⟩
theorem b8{u:List (Nat × Obj)}{j:Nat}(h:(dP u j).isSome=true):∃o,(j,o)∈u:=by
 cases q:dP u j with
 | none=>rw[q]at h;cases h
 | some o=>exact⟨o,gO q⟩
theorem jD{α:Nat→Addr}{objs:List (Option Obj)}(s':Nm→ac)(objs':Nm→List (Option Obj))(n:Nat)(ZC:List Orc)(sides:Nm→List ac)
  (hp:s.pre=av α objs 0) (hl:objs.length<1000000)
  (Zo:∀N,(∀q,q<objs.length→N.r q=α q)→(s' N).pre=av α (objs' N) 0)
  (seg:∀ρ τ ζ,res objs.length [] (iK (Tb w.params) ⟨pw,w.params⟩ (ay α ρ objs.length) τ ζ n s.c (aJ objs 0 .nil) objs.length 0 0 ZC s.G)=
   some ⟨.tail (s' ⟨ay α ρ objs.length,τ,ζ⟩).c,objs' ⟨ay α ρ objs.length,τ,ζ⟩,[],(s' ⟨ay α ρ objs.length,τ,ζ⟩).G,cZ (ay α ρ objs.length) ZC,sides ⟨ay α ρ objs.length,τ,ζ⟩⟩)
  (hF:∀N,(s' N).F=s.F∧(s' N).G'=s.G'∧(s' N).nn=s.nn∧(s' N).nt=s.nt∧(s' N).nz=s.nz)
  (hc:∀N C U O,bx (s.F C U O).ups 0 objs (objs' N))
  (hs:∀N,∀x∈sides N,Ok w lv x) (hn:∀N,Ok w (lv+1) (s' N)):Ok w (lv+1) s:=by
 intro A R h gs d U os hA hG hB hP K
 rw[hp]at hP
 have D₀:=br hl hB hP
 refine cR (m₀:=objs.length) (h₀:=h) (i:=0) (z:=0) (τ₀:=λ_=>0) (ζ₀:=λ_=>.none) (ZC:=ZC) hA n (Nat.le_of_lt hl) D₀ hG λρ τ ζ a _ _=>?_
 have sg:=seg ρ τ ζ
 rw[cO a]at sg
 obtain⟨out,e,e1,e2,e3,e4,e5,e6⟩:=cm sg
 refine⟨out,e,by rw[e5];exact bq _ _,by rw[e6];exact hs _,λh' Zt ZM D Zq=>?_⟩
 rw[e1]
 dsimp only at e2 e4
 show codeAny _ A (s' ⟨ρ,τ,ζ⟩).c R _
 obtain⟨f1,f2,f3,f4,f5⟩:=hF ⟨ρ,τ,ζ⟩
 have hp2:=Zo ⟨ρ,τ,ζ⟩ (λq hq=>a q hq)
 have gt:∀q,q<objs.length→(objs' ⟨ρ,τ,ζ⟩)[q]? =some (out.T.get q):=λq hq=>by
  have:=bI out.T objs.length 0 q
  rw[if_pos hq,e2,Nat.zero_add]at this
  exact this
 have gl:∀(q:Nat) (o:Option Obj),(objs' ⟨ρ,τ,ζ⟩)[q]? =some o→q<objs.length:=λq o hq=>by
  have:=bI out.T objs.length 0 q
  rw[e2,hq]at this
  split at this
  ·assumption
  ·cases this
 have gp:∀(q:Nat) (p:Addr × Option Obj),(av α (objs' ⟨ρ,τ,ζ⟩) 0)[q]? =some p→p=(ρ q,out.T.get q)∧q<objs.length:=λq p hq=>by
  rw[aA]at hq
  split at hq
  ·rename_i o ho
   have Zy:=gl q o ho
   rw[gt q Zy]at ho
   cases ho
   cases hq
   rw[Nat.zero_add,←a q Zy]
   exact⟨rfl,Zy⟩
  ·cases hq
 refine hn ⟨ρ,τ,ζ⟩ A R h' Zt d ZM os hA (by rw[←e4];exact Zq) D.base ?_ ?_
 ·rw[hp2]
  refine⟨λp hp o ho=>?_,λq q' p p' o o' hq Zp ho ho' x=>?_⟩
  ·obtain⟨q,hq⟩:=List.getElem?_of_mem hp
   obtain⟨rfl,Zy⟩:=gp q p hq
   exact⟨(D.own q o ho).2,D.nb q o ho⟩
  ·obtain⟨rfl,Zy⟩:=gp q p hq
   obtain⟨rfl,hlt'⟩:=gp q' p' Zp
   exact D.inj q q' o o' ho ho' x
 ·intro h'' gs'' tk'' C ZB O hG'' P
  rw[f1,f3,f4,f5]at P ⊢
  refine K h'' gs'' tk'' C ZB O (by rw[←f2,←f3];exact hG'') ?_
  rw[hp]
  rw[hp2]at P
  have cv:=hc ⟨ρ,τ,ζ⟩ (cut s.nn C) (cut s.nt ZB) (aq s.nz O)
  have pa:∀(q:Nat) (o:Option Obj),objs[q]? =some o→(av α objs 0)[q]? =some (α q,o):=λq o e=>by
   rw[aA,e];simp
  have pa':∀(q:Nat) (x:Addr × Option Obj),(av α objs 0)[q]? =some x→x.1=α q∧q<objs.length:=λq x e=>by
   rw[aA]at e
   split at e
   ·rename_i o ho
    cases e
    exact⟨by simp,(List.getElem?_eq_some_iff.mp ho).1⟩
   ·cases e
  refine⟨P.base,Nat.le_trans D.ge P.ge,λp hp x hx=>?_,λb o e k=>?_,P.new,λq hq=>Nat.le_trans D.ge (P.fresh q hq),P.ninj⟩
  ·obtain⟨hx1,hx2⟩:=pa' _ _ hx
   have:=P.ups p hp (ρ p.1,out.T.get p.1) (by rw[aA,gt _ hx2,Nat.zero_add,←a _ hx2])
   rw[hx1]
   dsimp only at this
   rwa[a _ hx2]at this
  ·have k':∀p∈(s.F (cut s.nn C) (cut s.nt ZB) (aq s.nz O)).ups,∀x,(av α (objs' ⟨ρ,τ,ζ⟩) 0)[p.1]? =some x→x.1≠b:=λp hp x hx=>by
    obtain⟨rfl,Zy⟩:=gp _ _ hx
    obtain⟨oo,hoo⟩:∃oo,objs[p.1]? =some oo:=⟨_,List.getElem?_eq_getElem Zy⟩
    have:=k p hp _ (pa _ _ hoo)
    rw[←a _ Zy]at this
    exact this
   refine P.keep b o ?_ k'
   by_cases hx:∃j o',out.T.get j=some o'∧ρ j=b
   ·obtain⟨j,o',g,rfl⟩:=hx
    by_cases hj:j<objs.length
    ·obtain⟨oo,hoo⟩:∃oo,objs[j]? =some oo:=⟨_,List.getElem?_eq_getElem hj⟩
     obtain⟨o2,h2,h3⟩:=bY cv j oo hoo
     rw[gt j hj]at h2
     cases h2
     rcases h3 with h3 | h3
     ·subst h3
      have:=(hP.get _ (List.mem_of_getElem? (pa j _ hoo)) o' g).1
      dsimp only at this
      have ha:ρ j=α j:=a j hj
      rw[←ha]at this
      have e':o=o':=Option.some.inj (e.symm.trans this)
      subst e'
      exact(D.own _ _ g).2
     ·rw[Nat.zero_add]at h3
      obtain⟨o3,h3⟩:=b8 h3
      exact absurd (a j hj).symm (k (j,o3) h3 _ (pa j oo hoo))
    ·have:=D.fr j o' g (Nat.not_lt.mp hj)
     exact absurd (Heap.lt_size e) (Nat.not_lt.mpr this)
   ·exact D.keep b o e λj o' g q=>hx ⟨j,o',g,q⟩
inductive It where
 | i (l:List Nat)
 | f (foot:List Nat) (s:Nm→ac)
 | n
noncomputable def itO:List It→List Orc→List Orc
 | [],t=>t
 | .i l::r,t=>ids l++itO r t
 | .f foot s::r,t=>orS foot s::itO r t
 | .n::r,t=>.nat::itO r t
noncomputable def itS(N:Nm):List It→List ac
 | []=>[]
 | .i _::r=>itS N r
 | .f _ s::r=>s N::itS N r
 | .n::r=>itS N r
noncomputable def bO(w:World)(lv:Nat)(N:Nm):List It→Prop
 | []=>True
 | .i _::r=>bO w lv N r
 | .f _ s::r=>Ok w lv (s N)∧bO w lv N r
 | .n::r=>bO w lv N r
theorem bp{w:World}{lv:Nat}{N:Nm}:∀{l:List It},bO w lv N l→∀x∈itS N l,Ok w lv x
 | [],_,x,hx=>nomatch hx
 | .i _::r,h,x,hx=>bp (l:=r) h x hx
 | .n::r,h,x,hx=>bp (l:=r) h x hx
 | .f _ s::r,h,x,hx=>by
  rcases List.mem_cons.mp hx with rfl | hx
  ·exact h.1
  ·exact bp (l:=r) h.2 x hx
noncomputable def ip(s:ac)(ρ:Nat→Addr)(τ:Nat→Tok)(ζ:Nat→Value)(objs:List (Option Obj))(es:List Nat)(tl:Nm→List Nat)(zl:Nm→List Value)(nw:Nm→List (Option Obj))(ZA:List It):Option Res:=
 let o:=s.F (cut s.nn (aa (es.map ρ))) (cut s.nt (aa (tl ⟨ρ,τ,ζ⟩))) (aq s.nz (aL (zl ⟨ρ,τ,ζ⟩)))
 some ⟨.ret o.r,jA objs 0 o.ups,nw ⟨ρ,τ,ζ⟩,s.G' (cut s.nn (aa (es.map ρ))),cZ ρ (itO ZA []),itS ⟨ρ,τ,ζ⟩ ZA⟩
noncomputable def hU(w:World)(s:ac)(ρ:Nat→Addr)(τ:Nat→Tok)(ζ:Nat→Value)(objs:List (Option Obj))(es:List Nat)(n:Nat)(ZA:List It)(t:List Orc):Option Res:=
 res objs.length es (iK (Tb w.params) ⟨pw,w.params⟩ ρ τ ζ n s.c (aJ objs 0 .nil) objs.length 0 0 (itO ZA t) s.G)
noncomputable def nwF(s:ac)(es:List Nat)(tl:Nm→List Nat)(zl:Nm→List Value)(N:Nm):List (Option Obj):=(s.F (cut s.nn (aa (es.map N.r))) (cut s.nt (aa (tl N))) (aq s.nz (aL (zl N)))).news
theorem gv(α:Nat→Addr)(objs:List (Option Obj))(es:List Nat)(n:Nat)(tl:Nm→List Nat)(zl:Nm→List Value)(ZA:List It)
  (hp:s.pre=av α objs 0) (hl:objs.length<1000000) (hes:aF es=true) (hge:bZ objs.length es=true) (hn:es.length=s.nn)
  (seg:∀ρ τ ζ,hU w s (ay α ρ objs.length) τ ζ objs es n ZA []=ip s (ay α ρ objs.length) τ ζ objs es tl zl (nwF s es tl zl) ZA)
  (hw:∀N,bH (nwF s es tl zl N)=true) (hu:∀C U O,bU (s.F C U O).ups=true) (hs:∀N,bO w lv N ZA):Ok w (lv+1) s:=
 ml es n (nwF s es tl zl) tl zl (itO ZA []) (λN=>itS N ZA) hp hl hes hge hn (λρ τ ζ=>seg ρ τ ζ) hw (λ_ _ _ h=>h) hu λN=>bp (hs N)
theorem o9(α:Nat→Addr)(objs:List (Option Obj))(s':Nm→ac)(objs':Nm→List (Option Obj))(n:Nat)(ZA:List It)
  (hp:s.pre=av α objs 0) (hl:objs.length<1000000)
  (Zo:∀N,(∀q,q<objs.length→N.r q=α q)→(s' N).pre=av α (objs' N) 0)
  (seg:∀ρ τ ζ,hU w s (ay α ρ objs.length) τ ζ objs [] n ZA [.tl]=some ⟨.tail (s' ⟨ay α ρ objs.length,τ,ζ⟩).c,objs' ⟨ay α ρ objs.length,τ,ζ⟩,[],(s' ⟨ay α ρ objs.length,τ,ζ⟩).G,cZ (ay α ρ objs.length) (itO ZA [.tl]),itS ⟨ay α ρ objs.length,τ,ζ⟩ ZA⟩)
  (hF:∀N,(s' N).F=s.F∧(s' N).G'=s.G'∧(s' N).nn=s.nn∧(s' N).nt=s.nt∧(s' N).nz=s.nz)
  (hc:∀N C U O,bx (s.F C U O).ups 0 objs (objs' N))
  (hs:∀N,bO w lv N ZA) (hn:∀N,Ok w (lv+1) (s' N)):Ok w (lv+1) s:=
 jD s' objs' n (itO ZA [.tl]) (λN=>itS N ZA) hp hl Zo (λρ τ ζ=>seg ρ τ ζ) hF hc (λN=>bp (hs N)) hn
structure SegIn where
 s:ac
 α:Nat→Addr
 objs:List (Option Obj)
structure Nxt where
 s:ac
 objs:List (Option Obj)
theorem okU(h:Ok w lv s)(l:lv≤lv':=by decide):Ok w lv' s:=h.mono l
theorem okS(S:SegIn)(es:List Nat)(n:Nat)(tl:Nm→List Nat)(zl:Nm→List Value)(ZA:List It)
  (seg:∀ρ τ ζ,hU w S.s (ay S.α ρ S.objs.length) τ ζ S.objs es n ZA []=ip S.s (ay S.α ρ S.objs.length) τ ζ S.objs es tl zl (nwF S.s es tl zl) ZA)
  (hs:∀N,bO w lv N ZA)
  (hp:S.s.pre=av S.α S.objs 0:=by rfl) (hl:Nat.blt S.objs.length 1000000=true:=by kernel_rfl) (hes:aF es=true:=by rfl) (hge:bZ S.objs.length es=true:=by rfl) (hn:es.length=S.s.nn:=by rfl)
  (hw:∀N,bH (nwF S.s es tl zl N)=true:=by exact λ_=>rfl) (hu:∀C U O,bU (S.s.F C U O).ups=true:=by exact λ_ _ _=>rfl):Ok w (lv+1) S.s:=
 gv S.α S.objs es n tl zl ZA hp (Nat.le_of_ble_eq_true hl) hes hge hn seg hw hu hs
theorem qz{lv:Nat}(S:SegIn)(X:(Nat→Addr)→(Nat→Tok)→(Nat→Value)→Nxt)(es:Nm→List Nat)(tl:Nm→List Nat)(zl:Nm→List Value)(n:Nat)(ZA:List It)
  (seg:∀ρ τ ζ,hU w S.s (ay S.α ρ S.objs.length) τ ζ S.objs [] n ZA [.tl]=
   let N:Nm:=⟨ay S.α ρ S.objs.length,τ,ζ⟩
   let x:=X (aa (es N)) (aa (tl N)) (aL (zl N))
   some ⟨.tail x.s.c,x.objs,[],x.s.G,cZ (ay S.α ρ S.objs.length) (itO ZA [.tl]),itS N ZA⟩)
  (hc:∀N C U O,bx (S.s.F C U O).ups 0 S.objs (X (aa (es N)) (aa (tl N)) (aL (zl N))).objs)
  (hs:∀N,bO w lv N ZA) (hn:∀C U O,Ok w (lv+1) (X C U O).s)
  (hp:S.s.pre=av S.α S.objs 0:=by rfl) (hl:Nat.blt S.objs.length 1000000=true:=by kernel_rfl)
  (Zo:∀C U O,(X C U O).s.pre=av S.α (X C U O).objs 0:=by exact λ_ _ _=>rfl)
  (hF:∀C U O,(X C U O).s.F=S.s.F∧(X C U O).s.G'=S.s.G'∧(X C U O).s.nn=S.s.nn∧(X C U O).s.nt=S.s.nt∧(X C U O).s.nz=S.s.nz:=by exact λ_ _ _=>⟨rfl,rfl,rfl,rfl,rfl⟩):Ok w (lv+1) S.s:=
 o9 S.α S.objs (λN=>(X (aa (es N)) (aa (tl N)) (aL (zl N))).s) (λN=>(X (aa (es N)) (aa (tl N)) (aL (zl N))).objs) n ZA hp (Nat.le_of_ble_eq_true hl) (λN _=>Zo _ _ _) seg (λN=>hF _ _ _) hc hs λN=>hn _ _ _
end
section
open PySem PySem.W PySem.W.X
noncomputable def fA(a:Nat)(f:Nat→Nat):Nat→Nat
 | 0=>a
 | q+1=>f q
noncomputable def fg(α:Nat→Addr)(m:Nat)(a:Addr)(q:Nat):Addr:=match Nat.blt q m with
 | true=>α q
 | false=>a
noncomputable def fE(t0 t1:Tok)(U:Nat→Tok)(q:Nat):Tok:=match Nat.blt q 8 with
 | true=>U q
 | false=>match Nat.beq q 8 with
  | true=>t0
  | false=>match Nat.beq q 9 with
   | true=>t1
   | false=>U (q-2)
noncomputable def gF:Obj:=⟨.none,none,.plain,⟨[]⟩⟩
theorem iC{w:World}{lv:Nat}{s:ac}{α:Nat→Addr}{objs:List (Option Obj)}(e:Nat)(s':Nm→ac)(old:Nm→List (Option Obj))(nw:Nm→Obj)(σ:Nm→(Nat→Tok)→Nat→Tok)(n:Nat)(ZC:List Orc)(sides:Nm→List ac)
  (hp:s.pre=av α objs 0) (hl:objs.length<1000000) (he:objs.length≤e)
  (Zo:∀N,(∀q,q<objs.length→N.r q=α q)→(s' N).pre=av (fg α objs.length (N.r e)) (old N++[some (nw N)]) 0)
  (seg:∀ρ τ ζ,res objs.length [e] (iK (Tb w.params) ⟨pw,w.params⟩ (ay α ρ objs.length) τ ζ n s.c (aJ objs 0 .nil) objs.length 0 0 ZC s.G)=
   some ⟨.tail (s' ⟨ay α ρ objs.length,τ,ζ⟩).c,old ⟨ay α ρ objs.length,τ,ζ⟩,[some (nw ⟨ay α ρ objs.length,τ,ζ⟩)],(s' ⟨ay α ρ objs.length,τ,ζ⟩).G,cZ (ay α ρ objs.length) ZC,sides ⟨ay α ρ objs.length,τ,ζ⟩⟩)
  (hF:∀N C U O,s.F (cut s.nn (fA (N.r e) C)) (cut s.nt (σ N U)) (aq s.nz O)=
   ⟨((s' N).F (cut (s' N).nn C) (cut (s' N).nt U) (aq (s' N).nz O)).r,((s' N).F (cut (s' N).nn C) (cut (s' N).nt U) (aq (s' N).nz O)).ups,some (nw N)::((s' N).F (cut (s' N).nn C) (cut (s' N).nt U) (aq (s' N).nz O)).news⟩)
  (hG:∀N a b,(s' N).G' a=s.G' b) (hn:∀N,s.nn=(s' N).nn+1)
  (hu:∀N C U O,∀p∈((s' N).F C U O).ups,p.1<objs.length)
  (hso:∀N,∀o∈old N,o.isSome=true)
  (hc:∀N C U O,bx ((s' N).F C U O).ups 0 objs (old N))
  (hs:∀N,∀x∈sides N,Ok w lv x) (hk:∀N,Ok w (lv+1) (s' N)):Ok w (lv+1) s:=by
 intro A R h gs d U os hA hG0 hB hP K
 rw[hp]at hP
 have D₀:=br hl hB hP
 refine cR (m₀:=objs.length) (h₀:=h) (i:=0) (z:=0) (τ₀:=λ_=>0) (ζ₀:=λ_=>.none) (ZC:=ZC) hA n (Nat.le_of_lt hl) D₀ hG0 λρ τ ζ a _ _=>?_
 have sg:=seg ρ τ ζ
 rw[cO a]at sg
 obtain⟨out,e0,e1,e2,e3,e4,e5,e6⟩:=cm sg
 refine⟨out,e0,by rw[e5];exact bq _ _,by rw[e6];exact hs _,λh' Zt ZM D Zq=>?_⟩
 rw[e1]
 dsimp only at e2 e3 e4
 show codeAny _ A (s' ⟨ρ,τ,ζ⟩).c R _
 have hp2:=Zo ⟨ρ,τ,ζ⟩ (λq hq=>a q hq)
 generalize hN:(⟨ρ,τ,ζ⟩:Nm)=N at*
 have hρ:N.r=ρ:=by rw[←hN]
 rw[hρ]at hp2
 have he3:out.T.get e=some (nw N):=by simpa using e3
 have ol:(old N).length=objs.length:=by
  have:=congrArg List.length e2
  rw[←this]
  have:∀(T:TT) (j n:Nat),(eA T j n).length=n:=by
   intro T j n
   induction n generalizing j with
   | zero=>rfl
   | succ n ih=>show(eA T (j+1) n).length+1=n+1;rw[ih]
  exact this _ _ _
 have gt:∀q,q<objs.length→(old N)[q]? =some (out.T.get q):=λq hq=>by
  have:=bI out.T objs.length 0 q
  rw[if_pos hq,e2,Nat.zero_add]at this
  exact this
 have gtA:∀(q:Nat) (p:Addr × Option Obj),(av (fg α objs.length (ρ e)) (old N++[some (nw N)]) 0)[q]? =some p→
   (q<objs.length∧p=(ρ q,out.T.get q))∨(q=objs.length∧p=(ρ e,some (nw N))):=λq p hq=>by
  rw[aA]at hq
  split at hq
  ·rename_i o ho
   cases hq
   rw[Nat.zero_add]
   by_cases Zy:q<objs.length
   ·refine .inl ⟨Zy,?_⟩
    rw[List.getElem?_append_left (by rw[ol];exact Zy),gt q Zy]at ho
    cases ho
    have:fg α objs.length (ρ e) q=ρ q:=by
     unfold fg
     rw[show Nat.blt q objs.length=true from Nat.ble_eq_true_of_le Zy]
     exact(a q Zy).symm
    rw[this]
   ·have hlen:=(List.getElem?_eq_some_iff.mp ho).1
    rw[List.length_append,ol]at hlen
    have hq:q=objs.length:=by simp only[List.length_cons,List.length_nil]at hlen;lia
    refine .inr ⟨hq,?_⟩
    rw[List.getElem?_append_right (by rw[ol];lia),ol,hq,Nat.sub_self]at ho
    cases ho
    have:fg α objs.length (ρ e) q=ρ e:=by
     unfold fg
     cases hb:Nat.blt q objs.length with
     | true=>exact absurd (Nat.le_of_ble_eq_true hb) (by lia)
     | false=>rfl
    rw[this]
  ·cases hq
 have preAt:∀q,q<objs.length→(av (fg α objs.length (ρ e)) (old N++[some (nw N)]) 0)[q]? =some (ρ q,out.T.get q):=λq hq=>by
  have hx:∃p,(av (fg α objs.length (ρ e)) (old N++[some (nw N)]) 0)[q]? =some p:=by
   rw[aA,List.getElem?_append_left (by rw[ol];exact hq),gt q hq]
   exact⟨_,rfl⟩
  obtain⟨p,hp⟩:=hx
  rcases gtA q p hp with⟨_,rfl⟩ | ⟨h,_⟩
  ·exact hp
  ·lia
 have own:∀(q:Nat) (p:Addr × Option Obj) (o:Obj),(av (fg α objs.length (ρ e)) (old N++[some (nw N)]) 0)[q]? =some p→p.2=some o→∃j,p.1=ρ j∧out.T.get j=some o∧((q<objs.length∧j=q)∨(q=objs.length∧j=e)):=λq p o hq ho=>by
  rcases gtA q p hq with⟨h1,rfl⟩ | ⟨h1,rfl⟩
  ·exact⟨q,rfl,ho,.inl ⟨h1,rfl⟩⟩
  ·cases ho
   exact⟨e,rfl,he3,.inr ⟨h1,rfl⟩⟩
 refine hk N A R h' Zt d ZM os hA (by rw[←e4];exact Zq) D.base ?_ ?_
 ·rw[hp2]
  refine⟨λp hp o ho=>?_,λq q' p p' o o' hq Zp ho ho' x=>?_⟩
  ·obtain⟨q,hq⟩:=List.getElem?_of_mem hp
   obtain⟨j,h1,h2,_⟩:=own q p o hq ho
   rw[h1]
   exact⟨(D.own j o h2).2,D.nb j o h2⟩
  ·obtain⟨j,h1,h2,h3⟩:=own q p o hq ho
   obtain⟨j',h1',h2',h3'⟩:=own q' p' o' Zp ho'
   rw[h1,h1']at x
   have:=D.inj j j' o o' h2 h2' x
   rcases h3 with⟨h3,h4⟩ | ⟨h3,h4⟩<;>rcases h3' with⟨h3',h4'⟩ | ⟨h3',h4'⟩<;>lia
 ·intro h'' gs'' tk'' C ZB O hG'' P
  have fe:=hF N C ZB O
  rw[hρ]at fe
  have K':=K h'' gs'' tk'' (fA (ρ e) C) (σ N ZB) O (hG N (cut (s' N).nn C) _▸hG'')
  rw[fe]at K'
  refine K' ?_
  clear K'
  rw[hp]
  rw[hp2]at P
  have cv:=hc N (cut (s' N).nn C) (cut (s' N).nt ZB) (aq (s' N).nz O)
  have hun:=hu N (cut (s' N).nn C) (cut (s' N).nt ZB) (aq (s' N).nz O)
  generalize(s' N).F (cut (s' N).nn C) (cut (s' N).nt ZB) (aq (s' N).nz O)=out' at P cv hun ⊢
  have pa:∀(q:Nat) (o:Option Obj),objs[q]? =some o→(av α objs 0)[q]? =some (α q,o):=λq o e=>by
   rw[aA,e];simp
  have pa':∀(q:Nat) (x:Addr × Option Obj),(av α objs 0)[q]? =some x→x.1=α q∧q<objs.length:=λq x e=>by
   rw[aA]at e
   split at e
   ·rename_i o ho
    cases e
    exact⟨by simp,(List.getElem?_eq_some_iff.mp ho).1⟩
   ·cases e
  have ege:h.objs.size≤ρ e:=D.fr e _ he3 he
  have elt:ρ e<h'.objs.size:=Heap.lt_size (D.own e _ he3).2
  have newKeep:∀p∈out'.ups,∀x,(av (fg α objs.length (ρ e)) (old N++[some (nw N)]) 0)[p.1]? =some x→x.1=ρ p.1:=λp hp x hx=>by
   have:=preAt p.1 (hun p hp)
   rw[this]at hx
   cases hx;rfl
  refine⟨P.base,Nat.le_trans D.ge P.ge,λp hp x hx=>?_,λb o ob k=>?_,λq o hq=>?_,λq hq=>?_,λq q' hq Zp x=>?_⟩
  ·obtain⟨hx1,hx2⟩:=pa' _ _ hx
   have:=P.ups p hp _ (preAt p.1 hx2)
   rw[hx1,←a _ hx2]
   exact this
  ·have k':∀p∈out'.ups,∀x,(av (fg α objs.length (ρ e)) (old N++[some (nw N)]) 0)[p.1]? =some x→x.1≠b:=λp hp x hx=>by
    rw[newKeep p hp x hx]
    have Zy:=hun p hp
    obtain⟨oo,hoo⟩:∃oo,objs[p.1]? =some oo:=⟨_,List.getElem?_eq_getElem Zy⟩
    have:=k p hp _ (pa _ _ hoo)
    rw[←a _ Zy]at this
    exact this
   refine P.keep b o ?_ k'
   by_cases hx:∃j o',out.T.get j=some o'∧ρ j=b
   ·obtain⟨j,o',g,rfl⟩:=hx
    by_cases hj:j<objs.length
    ·obtain⟨oo,hoo⟩:∃oo,objs[j]? =some oo:=⟨_,List.getElem?_eq_getElem hj⟩
     obtain⟨o2,h2,h3⟩:=bY cv j oo hoo
     rw[gt j hj]at h2
     cases h2
     rcases h3 with h3 | h3
     ·subst h3
      have:=(hP.get _ (List.mem_of_getElem? (pa j _ hoo)) o' g).1
      dsimp only at this
      have ha:ρ j=α j:=a j hj
      rw[←ha]at this
      have e':o=o':=Option.some.inj (ob.symm.trans this)
      subst e'
      exact(D.own _ _ g).2
     ·rw[Nat.zero_add]at h3
      obtain⟨o3,h3⟩:=b8 h3
      exact absurd (a j hj).symm (k (j,o3) h3 _ (pa j oo hoo))
    ·have:=D.fr j o' g (Nat.not_lt.mp hj)
     exact absurd (Heap.lt_size ob) (Nat.not_lt.mpr this)
   ·exact D.keep b o ob λj o' g q=>hx ⟨j,o',g,q⟩
  ·cases q with
   | zero=>
    have hq:some (some (nw N))=some (some o):=hq
    cases hq
    refine P.keep (ρ e) _ (D.own e _ he3).2 λp hp x hx y=>?_
    rw[newKeep p hp x hx]at y
    have Zy:=hun p hp
    have px:=preAt p.1 Zy
    have hup:=P.ups p hp _ px
    dsimp only at hup
    obtain⟨oo,hoo⟩:∃oo,objs[p.1]? =some oo:=⟨_,List.getElem?_eq_getElem Zy⟩
    cases hT:out.T.get p.1 with
    | some ov=>
     have:=D.inj p.1 e _ _ hT he3 y
     lia
    | none=>
     have:=hso N _ (List.mem_of_getElem? (gt p.1 Zy))
     rw[hT]at this
     cases this
   | succ q=>exact P.new q o (by simpa using hq)
  ·cases q with
   | zero=>exact ege
   | succ q=>
    have:q<(s' N).nn:=by have:=hn N;lia
    exact Nat.le_trans D.ge (P.fresh q this)
  ·have hnn:=hn N
   cases q with
   | zero=>cases q' with
    | zero=>rfl
    | succ q'=>
     have x:ρ e=C q':=x
     have:=P.fresh q' (by lia)
     lia
   | succ q=>cases q' with
    | zero=>
     have x:C q=ρ e:=x
     have:=P.fresh q (by lia)
     rw[x]at this
     exact absurd this (Nat.not_le.mpr elt)
    | succ q'=>
     have:=P.ninj q q' (by lia) (by lia) x
     lia
theorem uX{w:World}{lv:Nat}(S:SegIn)(X:(Nat→Addr)→(Nat→Tok)→(Nat→Value)→Nxt)(e:Nat)(tl:Nm→List Nat)(zl:Nm→List Value)(σ:Nm→(Nat→Tok)→Nat→Tok)(n:Nat)(ZA:List It)
  (seg:∀ρ τ ζ,res S.objs.length [e] (iK (Tb w.params) ⟨pw,w.params⟩ (ay S.α ρ S.objs.length) τ ζ n S.s.c (aJ S.objs 0 .nil) S.objs.length 0 0 (itO ZA [.tl]) S.s.G)=
   let N:Nm:=⟨ay S.α ρ S.objs.length,τ,ζ⟩
   let x:=X (aa [N.r e]) (aa (tl N)) (aL (zl N))
   some ⟨.tail x.s.c,x.objs.take S.objs.length,[some ((x.objs.getD S.objs.length none).getD gF)],x.s.G,cZ (ay S.α ρ S.objs.length) (itO ZA [.tl]),itS N ZA⟩)
  (hs:∀N,bO w lv N ZA) (hn:∀C U O,Ok w (lv+1) (X C U O).s)
  (hc:∀N C U O,bx ((X (aa [N.r e]) (aa (tl N)) (aL (zl N))).s.F C U O).ups 0 S.objs ((X (aa [N.r e]) (aa (tl N)) (aL (zl N))).objs.take S.objs.length))
  (hF:∀N C U O,S.s.F (cut S.s.nn (fA (N.r e) C)) (cut S.s.nt (σ N U)) (aq S.s.nz O)=
   let x:=X (aa [N.r e]) (aa (tl N)) (aL (zl N))
   ⟨(x.s.F (cut x.s.nn C) (cut x.s.nt U) (aq x.s.nz O)).r,(x.s.F (cut x.s.nn C) (cut x.s.nt U) (aq x.s.nz O)).ups,some ((x.objs.getD S.objs.length none).getD gF)::(x.s.F (cut x.s.nn C) (cut x.s.nt U) (aq x.s.nz O)).news⟩)
  (hp:S.s.pre=av S.α S.objs 0:=by rfl) (hl:Nat.blt S.objs.length 1000000=true:=by kernel_rfl) (he:Nat.ble S.objs.length e=true:=by kernel_rfl)
  (Zo:∀C U O,(X C U O).s.pre=av (fg S.α S.objs.length (C 0)) ((X C U O).objs.take S.objs.length++[some (((X C U O).objs.getD S.objs.length none).getD gF)]) 0:=by exact λ_ _ _=>rfl)
  (hG:∀C U O a b,(X C U O).s.G' a=S.s.G' b:=by exact λ_ _ _ _ _=>rfl) (hnn:∀C U O,S.s.nn=(X C U O).s.nn+1:=by exact λ_ _ _=>rfl)
  (hu:∀C U O as' ZM zs',((X C U O).s.F as' ZM zs').ups.all (λp=>Nat.blt p.1 S.objs.length)=true:=by exact λ_ _ _ _ _ _=>rfl)
  (hso:∀C U O,((X C U O).objs.take S.objs.length).all Option.isSome=true:=by exact λ_ _ _=>rfl):Ok w (lv+1) S.s:=
 iC e (λN=>(X (aa [N.r e]) (aa (tl N)) (aL (zl N))).s) (λN=>(X (aa [N.r e]) (aa (tl N)) (aL (zl N))).objs.take S.objs.length)
  (λN=>((X (aa [N.r e]) (aa (tl N)) (aL (zl N))).objs.getD S.objs.length none).getD gF) σ n (itO ZA [.tl]) (λN=>itS N ZA) hp (Nat.le_of_ble_eq_true hl) (Nat.le_of_ble_eq_true he)
  (λN _=>Zo _ _ _) seg (λN C U O=>hF N C U O) (λN=>hG _ _ _) (λN=>hnn _ _ _)
  (λN C U O p hp=>Nat.le_of_ble_eq_true (List.all_eq_true.mp (hu _ _ _ _ _ _) p hp)) (λN o ho=>List.all_eq_true.mp (hso _ _ _) o ho) hc (λN=>bp (hs N)) λN=>hn _ _ _
end
section
open PySem PySem.W PySem.W.X PySem.Builtin
noncomputable abbrev rV(v:Value):oZ:=⟨.ok (.ret v),[],[]⟩
noncomputable abbrev cB(id:String)(args:List Value)(pre:List (Addr × Option Obj))(G:GP)(nn nt:Nat)(F:FT):ac:=⟨.call (.builtin id) ⟨args,[]⟩,pre,G,λ_=>G,nn,nt,0,F⟩
noncomputable abbrev lO(xs:List Value)(n:Nat):Obj:=⟨.type "list",none,.seq ⟨xs⟩ n,⟨[]⟩⟩
variable{h:Heap}{pre:List (Addr × Option Obj)}{C:Nat→Addr}{r:Result}{o:Obj}{w:World}{lv:Nat}{s:ac}{id:String}{B:Builtin}{S:PySem.Spec}
theorem ax{Tb:KT}(hB:be Tb h):bE Tb h h pre 0 C ⟨r,[],[]⟩:=
 ⟨hB,Nat.le_refl _,λp hp=>(nomatch hp),λb o e _=>e,λq o e=>by simp at e,λq hq=>absurd hq (Nat.not_lt_zero _),λq q' hq=>absurd hq (Nat.not_lt_zero _)⟩
theorem gu{Tb:KT}{a:Addr}{f:Obj→Obj}(hB:be Tb h)(hP:cy Tb h ((a,some o)::pre))(hf:(f o).isFreed=false):
  bE Tb h (h.update a f) ((a,some o)::pre) 0 C ⟨r,[(0,f o)],[]⟩:=by
 have g:=hP.get _ (.head _) o rfl
 refine⟨λj o' e=>?_,by rw[Heap.size_after_update];exact Nat.le_refl _,λp hp x hx=>?_,λb o' e k=>?_,λq o e=>by simp at e,λq hq=>absurd hq (Nat.not_lt_zero _),λq q' hq=>absurd hq (Nat.not_lt_zero _)⟩
 ·have:a≠j:=λx=>by have:=g.2;dsimp only at this;rw[x,e]at this;cases this
  exact(Heap.get?_update_other h f this).trans (hB j o' e)
 ·rw[List.mem_singleton]at hp
  subst hp
  cases hx
  exact Heap.get?_update_self f g.1 hf
 ·exact(Heap.get?_update_other h f (k _ (.head _) _ rfl)).trans e
theorem bJ{Tb:KT}(hB:be Tb h)(hf:o.isFreed=false):
  bE Tb h (h.push o) pre 1 (λ_=>h.objs.size) ⟨r,[],[some o]⟩:=by
 refine⟨λj o' e=>Heap.get?_push_of_some _ (hB j o' e),by rw[Heap.size_push];lia,λp hp=>(nomatch hp),λb o' e _=>Heap.get?_push_of_some _ e,λq o' e=>?_,λq hq=>?_,λq q' hq Zp _=>by lia⟩
 ·cases q with
  | zero=>cases e;exact Heap.get?_push_size _ hf
  | succ q=>simp at e
 ·obtain rfl:q=0:=by lia
  exact Nat.le_refl _
noncomputable def Kp(w:World)(s:ac)(R:Result→Shared→Prop)(h:Heap)(d:Drawn)(os:OsState):Prop:=
 ∀h' Zt ZM (C:Nat→Addr) (ZB:Nat→Tok) (O:Nat→Value),s.G' (cut s.nn C) Zt→bE (Tb w.params) h h' s.pre s.nn C (s.F (cut s.nn C) (cut s.nt ZB) (aq s.nz O))→R (s.F (cut s.nn C) (cut s.nt ZB) (aq s.nz O)).r ⟨h',Zt,d,ZM,os⟩
theorem aN{T:String}{name:PySem.Str}{self:Value}{Z5:List Value}(slot:Slot T name id)(entry:entryFor table id=some B)(args:argsOk id ⟨self::Z5,[]⟩)
  (g:PySem.Meets (B ⟨self::Z5,[]⟩) S) (hc:s.c=.call (.builtin id) ⟨self::Z5,[]⟩)
  (H:∀(A:Around) (R:Result→Shared→Prop) (h:Heap) (gs:Array GenState) (d:Drawn) (U:Nat) (os:OsState),Lv A lv→s.G gs→be (Tb w.params) h→cy (Tb w.params) h s.pre→Kp w s R h d os→
   Shared.TypeIs ⟨h,gs,d,U,os⟩ self T∧S A R ⟨h,gs,d,U,os⟩):Ok w lv s:=by
 intro A R h gs d U os hA hG hB hP K
 rw[hc]
 obtain⟨h1,h2⟩:=H A R h gs d U os hA hG hB hP K
 exact codeAny_call_builtin slot.plain entry (slot.check _ _ _ _ _ _ _ _ h1 args (g pw w A R _ h2))
noncomputable def cLt(G:GP)(a b:Int)(t u:Tok)(v:Bool):ac:=cB "int.__lt__" [.int a t,.int b u] [] G 0 0 λ_ _ _=>rV (.bool v)
noncomputable def cGt(G:GP)(a b:Int)(t u:Tok)(v:Bool):ac:=cB "int.__gt__" [.int a t,.int b u] [] G 0 0 λ_ _ _=>rV (.bool v)
noncomputable def cEq(G:GP)(a b:Int)(t u:Tok)(v:Bool):ac:=cB "int.__eq__" [.int a t,.int b u] [] G 0 0 λ_ _ _=>rV (.bool v)
noncomputable def cNe(G:GP)(a b:Int)(t u:Tok)(v:Bool):ac:=cB "int.__ne__" [.int a t,.int b u] [] G 0 0 λ_ _ _=>rV (.bool v)
noncomputable def fp(G:GP)(a:Int)(b:Nat)(t u:Tok)(v:Int):ac:=cB "int.__mod__" [.int a t,.int (.ofNat (b+1)) u] [] G 0 1 λ_ U _=>rV (.int v (U 0))
section
variable{w:World}{lv:Nat}{G:GP}
theorem kLt{a b:Int}{t u:Tok}{v:Bool}(h:decide (a<b)=v):Ok w 1 (cLt G a b t u v):=by
 subst h
 exact gv (λ_=>0) [] [] 6 (λ_=>[]) (λ_=>[]) [] rfl (by decide) (by decide) (by decide) rfl (λρ τ ζ=>by kernel_rfl!) (λ_=>rfl) (λ_ _ _=>rfl) (λ_=>trivial)
theorem kGt{a b:Int}{t u:Tok}{v:Bool}(h:decide (a>b)=v):Ok w 1 (cGt G a b t u v):=by
 subst h
 exact gv (λ_=>0) [] [] 6 (λ_=>[]) (λ_=>[]) [] rfl (by decide) (by decide) (by decide) rfl (λρ τ ζ=>by kernel_rfl!) (λ_=>rfl) (λ_ _ _=>rfl) (λ_=>trivial)
theorem kEq{a b:Int}{t u:Tok}{v:Bool}(h:(a==b)=v):Ok w 1 (cEq G a b t u v):=by
 subst h
 exact gv (λ_=>0) [] [] 6 (λ_=>[]) (λ_=>[]) [] rfl (by decide) (by decide) (by decide) rfl (λρ τ ζ=>by kernel_rfl!) (λ_=>rfl) (λ_ _ _=>rfl) (λ_=>trivial)
theorem kNe{a b:Int}{t u:Tok}{v:Bool}(h:(a !=b)=v):Ok w 1 (cNe G a b t u v):=by
 subst h
 exact gv (λ_=>0) [] [] 6 (λ_=>[]) (λ_=>[]) [] rfl (by decide) (by decide) (by decide) rfl (λρ τ ζ=>by kernel_rfl!) (λ_=>rfl) (λ_ _ _=>rfl) (λ_=>trivial)
theorem b0{a:Int}{b:Nat}{t u:Tok}{v:Int}(h:Int.fmod a (.ofNat (b+1))=v):Ok w 1 (fp G a b t u v):=by
 subst h
 exact gv (λ_=>0) [] [] 6 (λN=>[N.t 0]) (λ_=>[]) [] rfl (by decide) (by decide) (by decide) rfl (λρ τ ζ=>by kernel_rfl!) (λ_=>rfl) (λ_ _ _=>rfl) (λ_=>trivial)
end
end
section
open PySem PySem.W PySem.W.X PySem.Builtin
noncomputable abbrev rgO(a b c:Int)(t u v:Tok):Obj:=⟨.type "range",none,.fields ⟨[.int a t,.int b u,.int c v]⟩,⟨[]⟩⟩
noncomputable abbrev riO(a b c:Int):Obj:=⟨.type "range_iterator",none,.fields ⟨[.int a 0,.int b 0,.int c 0]⟩,⟨[]⟩⟩
noncomputable def ak(G:GP)(r:Addr)(n:Nat)(t u v:Tok):ac:=cB "range.__iter__" [.ref r] [(r,some (rgO 0 (.ofNat n) 1 t u v))] G 1 0 λC _ _=>⟨.ok (.ret (.ref (C 0))),[],[some (riO 0 (.ofNat n) 1)]⟩
noncomputable def aY(G:GP)(a:Addr)(n m:Nat):ac:=cB "range_iterator.__next__" [.ref a] [(a,some (riO (.ofNat n) (.ofNat (m+1)) 1))] G 0 1 λ_ U _=>⟨.ok (.ret (.int (.ofNat n) (U 0))),[(0,riO (.ofNat (n+1)) (.ofNat m) 1)],[]⟩
noncomputable def cw(G:GP)(a:Addr)(xs:List Value)(dd:Option Addr)(n:Nat)(sl:Array (Option Value))(k:Nat)(t:Tok)(v:Value):ac:=cB "list.__getitem__" [.ref a,.int (.ofNat k) t] [(a,some ⟨.type "list",dd,.seq ⟨xs⟩ n,sl⟩)] G 0 0 λ_ _ _=>rV v
section
variable{w:World}{G:GP}
theorem ap{r:Addr}{n:Nat}{t u v:Tok}(h:n<2^20:=by first | assumption | lia | (simp only[List.length_cons,List.length_nil];lia) | decide):Ok w 1 (ak G r n t u v):=by
 have hs:Builtin.Range.rangeSize 0 (Int.ofNat n) 1=Int.ofNat n:=by
  unfold Builtin.Range.rangeSize
  have:(Int.ofNat n)=(n:Int):=rfl
  rw[this]
  simp
  try lia
 have hsm:Builtin.Range.small 0 (Int.ofNat n) 1=true:=by
  have e:(Int.ofNat n)=(n:Int):=rfl
  unfold Builtin.Range.small
  rw[hs]
  unfold Builtin.Range.rangeFitsLong
  rw[e]
  simp
  lia
 refine aN F.slot_range_iter F.entry_range_iter (F.args_range_iter_1 _) (AutoRange.range___iter___range_1 r 0 (.ofNat n) 1 t u v (by unfold Builtin.Range.small at hsm;rw[hsm];decide)) rfl λA R h gs d U os hA hG hB hP K=>?_
 have ho:=(hP.get _ (.head _) _ rfl).1
 refine⟨⟨_,ho,rfl⟩,ho,?_⟩
 unfold Builtin.Range.small at hsm
 simp only[hsm,if_true]
 rw[hs]
 exact K _ gs U (λ_=>h.objs.size) (λ_=>0) (λ_=>.none) hG (bJ hB rfl)
theorem kS{a:Addr}{x k:Int}(h:0<k):Ok w 1 (cB "range_iterator.__next__" [.ref a] [(a,some (riO x k 1))] G 0 1 λ_ U _=>⟨.ok (.ret (.int x (U 0))),[(0,riO (x+1) (k-1) 1)],[]⟩):=by
 refine aN F.slot_range_iterator_next F.entry_range_iterator_next (F.args_range_iterator_next_1 _) (AutoRange.range_iterator___next___range_iterator_1 a x k 1 (by lia)) rfl λA R h gs d U os hA hG hB hP K=>?_
 have ho:=(hP.get _ (.head _) _ rfl).1
 refine⟨⟨_,ho,rfl⟩,ho,?_⟩
 refine K _ gs (U+1) (λ_=>0) (λ_=>U) (λ_=>.none) hG ?_
 have p1:=gu (r:=.ok (.ret (.int x U))) (C:=λ_=>0) (f:=Obj.mapFields λy=>(y.setIfInBounds 0 (rawInt (x+1))).setIfInBounds 1 (rawInt (k-1))) hB hP rfl
 have e:((h.update a (Obj.mapFields λy=>y.setIfInBounds 0 (rawInt (x+1)))).update a (Obj.mapFields λy=>y.setIfInBounds 1 (rawInt (k-1))))=h.update a (Obj.mapFields λy=>(y.setIfInBounds 0 (rawInt (x+1))).setIfInBounds 1 (rawInt (k-1))):=by
  obtain⟨ob,l⟩:=h
  show Heap.mk _ _=Heap.mk _ _
  congr 1
  have ho':a<ob.size:=Heap.lt_size (h:=⟨ob,l⟩) ho
  apply Array.ext
  ·simp
  ·intro i h1 h2
   simp only[Array.getElem_modify]
   split
   ·rename_i hi
    subst hi
    generalize ob[a]=y
    obtain⟨c,dd,dt,sl⟩:=y
    cases dt<;>rfl
   ·rfl
 rw[e]
 exact p1
theorem aQ{a:Addr}{n m:Nat}:Ok w 1 (aY G a n m):=by
 have h:=kS (w:=w) (G:=G) (a:=a) (x:=.ofNat n) (k:=.ofNat (m+1)) (by have:Int.ofNat (m+1)=(m+1:Nat):=rfl;lia)
 rw[show Int.ofNat n+1=Int.ofNat (n+1)from rfl,show Int.ofNat (m+1)-1=Int.ofNat m by have h1:Int.ofNat (m+1)=((m+1:Nat):Int):=rfl;have h2:Int.ofNat m=(m:Int):=rfl;lia]at h
 exact h
theorem pI{prog:Program}{A:Around}{E:Value→Shared→Prop}{s:Shared}{a:Addr}{xs:Array Value}{o:Obj}{n:Nat}{i:Int}{t:Tok}{v:Value}{Q:PySem.Fin→Shared→Prop}(ho:s.heap.get? a=some o)(hd:o.data=.seq xs n)
  (h0:0≤i) (hfit:i<2^63) (h:xs[i.toNat]? =some v) (hQ:Q (.done (.ret v)) s):wpAny (model prog w) A (Builtin.«list.__getitem__» ⟨[.ref a,.int i t],[]⟩) Q E s:=by
 show wpAny _ _ (Builtin.List.listSubscript? (.int i t) >>= _) _ _ s
 refine wpAny_bind (wpAny_listSubscript_int (fitsIndex_of h0 hfit) ?_)
 clear hfit
 obtain⟨j,rfl⟩:=Int.eq_ofNat_of_zero_le h0
 have h':xs[j]? =some v:=h
 show wpAny _ _ ((seqItemAt a j >>= λr=>pure (r.map (j,·))) >>= _) _ _ s
 refine wpAny_bind (wpAny_bind (wpAny_seqItemAt ho hd (wpAny_pure ?_)))
 rw[h']
 first
  | exact wpAny_bind (wpAny_pure (wpAny_pure hQ))
  | exact wpAny_pure hQ
theorem aT{a:Addr}{xs:List Value}{dd:Option Addr}{n:Nat}{sl:Array (Option Value)}{k:Nat}{t:Tok}{v:Value}(h:xs[k]? =some v)(hk:k<2^20:=by first | assumption | lia | decide):
  Ok w 1 (cw G a xs dd n sl k t v):=by
 intro A R hp gs d U os hA hG hB hP K
 have ho:=(hP.get _ (.head _) _ rfl).1
 dsimp only at ho
 refine codeAny_call_builtin slot_list_getitem.plain entry_list_getitem (slot_list_getitem.check _ _ _ _ _ _ _ _ ⟨_,ho,rfl⟩ (args_list_getitem _ _) ?_)
 have h1:(0:Int)≤Int.ofNat k:=Int.natCast_nonneg k
 have h2:Int.ofNat k<2^63:=by have:(Int.ofNat k)=(k:Int):=rfl;rw[this];lia
 have h3:(Array.mk xs)[(Int.ofNat k).toNat]? =some v:=by show(Array.mk xs)[k]? =_;simpa using h
 clear hk h
 generalize Int.ofNat k=i at*
 exact pI ho rfl h1 h2 h3 (K hp gs U (λ_=>0) (λ_=>0) (λ_=>.none) hG (ax hB))
end
end
section
open PySem PySem.W PySem.W.X PySem.Builtin
noncomputable abbrev o0(w:World)(A:Around)(R:Result→Shared→Prop)(t:Sem PySem.Fin)(s:Shared):Prop:=
 wpAny (model pw w) A.in1 t (λfin s'=>∃v,fin=.done (.ret v)∧R (.ok (.ret v)) s') (λe s'=>R (.error e) s') s
variable{w:World}{lv:Nat}{s:ac}{id:String}{B:Builtin}{C:List Value}
theorem gx(hp:plainId id=true)(entry:entryFor table id=some B)(kind:builtinKind id=none)(args:argsOk id ⟨C,[]⟩)
  (hc:s.c=.call (.builtin id) ⟨C,[]⟩)
  (H:∀(A:Around) (R:Result→Shared→Prop) (h:Heap) (gs:Array GenState) (d:Drawn) (U:Nat) (os:OsState),Lv A lv→s.G gs→be (Tb w.params) h→cy (Tb w.params) h s.pre→Kp w s R h d os→
   o0 w A R (B ⟨C,[]⟩) ⟨h,gs,d,U,os⟩):Ok w lv s:=by
 intro A R h gs d U os hA hG hB hP K
 rw[hc]
 refine codeAny_call_builtin hp entry ?_
 have hfin:=wpAny_mono (H A R h gs d U os hA hG hB hP K) (Q':=λfin s'=>match fin with
   | .done f=>R (.ok f) s'
   | .again c'=>c'.quiet=true∧codeAny (model pw w) A c' R s')
  (λfin s' h'=>by obtain⟨v,rfl,hv⟩:=h';exact hv) λ_ _ h'=>h'
 simp only[checkBuiltinCall,kind]
 cases hsig:Manifest.signature? id with
 | none=>exact wpAny_pure hfin
 | some sig=>
  simp only[argsOk,hsig]at args
  have h2:Bind.checkArgs id sig ⟨C,[]⟩=pure ():=args
  show wpAny _ A.in1 (Bind.checkArgs id sig ⟨C,[]⟩) _ _ _
  rw[h2];exact wpAny_pure hfin
theorem zY(hp:plainId id=true)(entry:entryFor table id=some B)
  (hc:s.c=.builtin id ⟨C,[]⟩)
  (H:∀(A:Around) (R:Result→Shared→Prop) (h:Heap) (gs:Array GenState) (d:Drawn) (U:Nat) (os:OsState),Lv A lv→s.G gs→be (Tb w.params) h→cy (Tb w.params) h s.pre→Kp w s R h d os→
   o0 w A R (B ⟨C,[]⟩) ⟨h,gs,d,U,os⟩):Ok w lv s:=by
 intro A R h gs d U os hA hG hB hP K
 rw[hc]
 refine codeAny_builtin entry ?_
 rw[Around.under_plainId hp _]
 exact wpAny_mono (H A R h gs d U os hA hG hB hP K) (λfin s' h'=>by obtain⟨v,rfl,hv⟩:=h';exact hv) λ_ _ h'=>h'
theorem bv{T:String}{name:PySem.Str}{self:Value}{Z5:List Value}(slot:Slot T name id)(entry:entryFor table id=some B)(args:argsOk id ⟨self::Z5,[]⟩)
  (hc:s.c=.call (.builtin id) ⟨self::Z5,[]⟩)
  (H:∀(A:Around) (R:Result→Shared→Prop) (h:Heap) (gs:Array GenState) (d:Drawn) (U:Nat) (os:OsState),Lv A lv→s.G gs→be (Tb w.params) h→cy (Tb w.params) h s.pre→Kp w s R h d os→
   Shared.TypeIs ⟨h,gs,d,U,os⟩ self T∧o0 w A R (B ⟨self::Z5,[]⟩) ⟨h,gs,d,U,os⟩):Ok w lv s:=by
 intro A R h gs d U os hA hG hB hP K
 rw[hc]
 obtain⟨h1,h2⟩:=H A R h gs d U os hA hG hB hP K
 refine codeAny_call_builtin slot.plain entry (slot.check _ _ _ _ _ _ _ _ h1 args ?_)
 exact wpAny_mono h2 (λfin s' h'=>by obtain⟨v,rfl,hv⟩:=h';exact hv) λ_ _ h'=>h'
noncomputable def cPV(id:String)(args:List Value)(G:GP)(v:Value):ac:=cB id args [] G 0 0 λ_ _ _=>rV v
noncomputable def cPS(id:String)(args:List Value)(G:GP)(x:PySem.Str):ac:=cB id args [] G 0 1 λ_ U _=>rV (.str x (U 0))
noncomputable def cPI(id:String)(args:List Value)(G:GP)(i:Int):ac:=cB id args [] G 0 1 λ_ U _=>rV (.int i (U 0))
section
variable{w:World}{lv:Nat}{G:GP}
theorem nF{T:String}{name:PySem.Str}{id:String}{B:Builtin}{self:Value}{Z5:List Value}{v:Value}(slot:Slot T name id)(hT:∀s:Shared,s.TypeIs self T)(entry:entryFor table id=some B)(args:argsOk id ⟨self::Z5,[]⟩)
  (g:Gives (B ⟨self::Z5,[]⟩) (.val v)):Ok w 1 (cPV id (self::Z5) G v):=
 aN slot entry args g.meets rfl λA R h gs d U os hA hG hB hP K=>⟨hT _,K h gs U (λ_=>0) (λ_=>0) (λ_=>.none) hG (ax hB)⟩
theorem wj{T:String}{name:PySem.Str}{id:String}{B:Builtin}{self:Value}{Z5:List Value}{x:PySem.Str}(slot:Slot T name id)(hT:∀s:Shared,s.TypeIs self T)(entry:entryFor table id=some B)(args:argsOk id ⟨self::Z5,[]⟩)
  (g:Gives (B ⟨self::Z5,[]⟩) (.str x)) (hx:x.length≤sizeLine):Ok w 1 (cPS id (self::Z5) G x):=
 aN slot entry args g.meets rfl λA R h gs d U os hA hG hB hP K=>⟨hT _,hx,K h gs (U+1) (λ_=>0) (λ_=>U) (λ_=>.none) hG (ax hB)⟩
theorem qF{T:String}{name:PySem.Str}{id:String}{B:Builtin}{self:Value}{Z5:List Value}{i:Int}(slot:Slot T name id)(hT:∀s:Shared,s.TypeIs self T)(entry:entryFor table id=some B)(args:argsOk id ⟨self::Z5,[]⟩)
  (g:Gives (B ⟨self::Z5,[]⟩) (.int i)):Ok w 1 (cPI id (self::Z5) G i):=
 aN slot entry args g.meets rfl λA R h gs d U os hA hG hB hP K=>⟨hT _,K h gs (U+1) (λ_=>0) (λ_=>U) (λ_=>.none) hG (ax hB)⟩
noncomputable def cx(G:GP)(a:Addr)(xs:List Value)(e:Nat)(dd:Option Addr)(sl:Array (Option Value)):ac:=cB "len" [.ref a] [(a,some ⟨.type "list",dd,.seq ⟨xs⟩ e,sl⟩)] G 0 1 λ_ U _=>rV (.int (.ofNat xs.length) (U 0))
noncomputable def ra(G:GP)(a:Addr)(xs:List Value)(e:Nat)(dd:Option Addr)(sl:Array (Option Value)):ac:=⟨.builtin "len" ⟨[.ref a],[]⟩,[(a,some ⟨.type "list",dd,.seq ⟨xs⟩ e,sl⟩)],G,λ_=>G,0,1,0,λ_ U _=>rV (.int (.ofNat xs.length) (U 0))⟩
theorem hZ{A:Around}{R:Result→Shared→Prop}{h:Heap}{gs:Array GenState}{d:Drawn}{U:Nat}{os:OsState}{a:Addr}{xs:List Value}{e:Nat}{dd:Option Addr}{sl:Array (Option Value)}(hx:xs.length<2^20)
  (ho:h.get? a=some ⟨.type "list",dd,.seq ⟨xs⟩ e,sl⟩) (K:R (.ok (.ret (.int (.ofNat xs.length) (U+1)))) ⟨h,gs,d,U+1+1,os⟩):o0 w A R (Builtin.«len» ⟨[.ref a],[]⟩) ⟨h,gs,d,U,os⟩:=by
 have hl:Heap.IsList (Shared.heap ⟨h,gs,d,U,os⟩) a ⟨xs⟩:=⟨_,ho,rfl,_,rfl⟩
 have hs:((Array.mk xs).size:Int)<2^63:=by show((xs.length:Nat):Int)<2^63;lia
 clear hx
 exact wpAny_len_body_list hl hs K
theorem du{a:Addr}{xs:List Value}{e:Nat}{dd:Option Addr}{sl:Array (Option Value)}(hx:xs.length<2^20:=by first | assumption | lia | (simp only[List.length_cons,List.length_nil];lia) | decide):Ok w 1 (cx G a xs e dd sl):=
 gx plain_len entry_len kind_len (args_len1 _) rfl λA R h gs d U os hA hG hB hP K=>hZ hx (hP.get _ (.head _) _ rfl).1 (K h gs (U+1+1) (λ_=>0) (λ_=>U+1) (λ_=>.none) hG (ax hB))
theorem uy{a:Addr}{xs:List Value}{e:Nat}{dd:Option Addr}{sl:Array (Option Value)}(hx:xs.length<2^20:=by first | assumption | lia | (simp only[List.length_cons,List.length_nil];lia) | decide):Ok w 1 (ra G a xs e dd sl):=
 zY plain_len entry_len rfl λA R h gs d U os hA hG hB hP K=>hZ hx (hP.get _ (.head _) _ rfl).1 (K h gs (U+1+1) (λ_=>0) (λ_=>U+1) (λ_=>.none) hG (ax hB))
end
end
section
open PySem PySem.W PySem.W.X PySem.Builtin
theorem cn{Tb:KT}{h:Heap}{a:Addr}{o o':Obj}{pre:List (Addr × Option Obj)}{C:Nat→Addr}{r:Result}{f:Obj→Obj}(e:f o=o')(hB:be Tb h)(hP:cy Tb h ((a,some o)::pre))(hf:o'.isFreed=false):
  bE Tb h (h.update a f) ((a,some o)::pre) 0 C ⟨r,[(0,o')],[]⟩:=by
 subst e;exact gu hB hP hf
theorem fv{xs:List Value}(h:xs.length<2^20):(Array.mk xs).size≤sizeLine:=by
 show xs.length≤2^24;lia
noncomputable def eps(n a b:Nat):Nat:=if a==b then n else n+1
noncomputable def q8(G:GP)(a b:Addr)(xs ys:List Value)(n m:Nat):ac:=cB "list.__iadd__" [.ref a,.ref b] [(a,some (lO xs n)),(b,some (lO ys m))] G 0 1 λ_ U _=>⟨.ok (.ret (.ref a)),[(0,lO (xs++ys) (U 0))],[]⟩
noncomputable def hD(G:GP)(a b:Addr)(xs ys:List Value)(n m:Nat):ac:=cB "list.__add__" [.ref a,.ref b] [(a,some (lO xs n)),(b,some (lO ys m))] G 1 0 λC _ _=>⟨.ok (.ret (.ref (C 0))),[],[some (lO (xs++ys) 0)]⟩
noncomputable def dA(G:GP)(a b:Int)(t u:Tok)(v:Int):ac:=cB "int.__sub__" [.int a t,.int b u] [] G 0 1 λ_ U _=>rV (.int v (U 0))
noncomputable def fm(G:GP)(a b:Int)(t u:Tok):ac:=cB "int.__mul__" [.int a t,.int b u] [] G 0 1 λ_ U _=>rV (.int (a*b) (U 0))
section
variable{w:World}{G:GP}
theorem eJ{a b:Int}{t u:Tok}(h:a.natAbs<2^20:=by first | assumption | decide | lia):Ok w 1 (fm G a b t u):=by
 have hm:IntMulOk a b:=IntMulOk.of_left (intBits_le_64 (by lia) (by lia))
 clear h
 exact qF F.slot_int_mul (λs=>typeIs_int s a t) F.entry_int_mul (F.args_int_mul_2 _ _) (AutoIntG1.int___mul___int_int_0 a t b u hm)
theorem xK{a b:Addr}{xs ys:List Value}{n m:Nat}(hx:xs.length<2^20:=by first | assumption | lia | (simp only[List.length_cons,List.length_nil];lia) | decide)(hy:ys.length<2^20:=by first | assumption | lia | (simp only[List.length_cons,List.length_nil];lia) | decide):Ok w 1 (q8 G a b xs ys n m):=by
 have h1:¬(!(Array.mk xs).isEmpty&&Builtin.List.listTooLong ((Array.mk xs).size+(Array.mk ys).size))=true:=by
  have:Builtin.List.listTooLong ((Array.mk xs).size+(Array.mk ys).size)=false:=by
   unfold Builtin.List.listTooLong
   show decide (xs.length+ys.length>sizeLine)=false
   exact decide_eq_false (by show ¬xs.length+ys.length>2^24;lia)
  rw[this,Bool.and_false];decide
 have h2:(Array.mk xs).size+(Array.mk ys).size≤sizeLine+1:=by show xs.length+ys.length≤2^24+1;lia
 have h3:=fv hx
 clear hx hy
 refine aN F.slot_list_iadd F.entry_list_iadd (F.args_list_iadd_2 _ _) (AutoSeq1.list___iadd___list_list_0 a ⟨xs⟩ n b ⟨ys⟩ m h1 h3 h2) rfl λA R h gs d U os hA hG hB hP K=>?_
 have ho:=(hP.get _ (.head _) _ rfl).1
 have ho2:=(hP.get _ (.tail _ (.head _)) _ rfl).1
 refine⟨⟨_,ho,rfl⟩,ho,ho2,?_⟩
 refine K _ gs U (λ_=>0) (λ_=>eps n (Array.mk (xs++ys)).size (Array.mk xs).size) (λ_=>.none) hG (cn ?_ hB hP rfl)
 show Obj.mk _ _ (.seq ((Array.mk xs)++(Array.mk ys)) (if((Array.mk xs)++(Array.mk ys)).size==(Array.mk xs).size then n else n+1)) _=_
 have:(Array.mk xs)++(Array.mk ys)=Array.mk (xs++ys):=by simp
 rw[this]
 rfl
theorem gZ{a b:Addr}{xs ys:List Value}{n m:Nat}(hx:xs.length<2^20:=by first | assumption | lia | (simp only[List.length_cons,List.length_nil];lia) | decide)(hy:ys.length<2^20:=by first | assumption | lia | (simp only[List.length_cons,List.length_nil];lia) | decide):Ok w 1 (hD G a b xs ys n m):=by
 have h2:(Array.mk xs).size+(Array.mk ys).size≤sizeLine:=by show xs.length+ys.length≤2^24;lia
 clear hx hy
 refine aN F.slot_list_add F.entry_list_add (F.args_list_add_2 _ _) (AutoSeq1.list___add___list_list_0 a ⟨xs⟩ n b ⟨ys⟩ m h2) rfl λA R h gs d U os hA hG hB hP K=>?_
 have ho:=(hP.get _ (.head _) _ rfl).1
 have ho2:=(hP.get _ (.tail _ (.head _)) _ rfl).1
 refine⟨⟨_,ho,rfl⟩,ho,ho2,?_⟩
 have:(Array.mk xs)++(Array.mk ys)=Array.mk (xs++ys):=by simp
 rw[this]
 exact K _ gs U (λ_=>h.objs.size) (λ_=>0) (λ_=>.none) hG (bJ hB rfl)
theorem bV{a b:Int}{t u:Tok}{v:Int}(h:a-b=v):Ok w 1 (dA G a b t u v):=by
 subst h
 exact gv (λ_=>0) [] [] 6 (λN=>[N.t 0]) (λ_=>[]) [] rfl (by decide) (by decide) (by decide) rfl (λρ τ ζ=>by kernel_rfl!) (λ_=>rfl) (λ_ _ _=>rfl) (λ_=>trivial)
end
end
section
open PySem PySem.W PySem.W.X PySem.Builtin
noncomputable def slS(x:PySem.Str)(a b:Nat):List Nat:=(x.cps.toList.drop a).take (b-a)
theorem m4(x:PySem.Str)(a b:Nat)(h:a≤b):(Builtin.Str.strSliceIndices (some (a:Int)) (some (b:Int)) 1 x.length).filterMap (x.cps[·]?)=slS x a b:=by
 have e:∀n:Nat,Builtin.Str.strSliceIndices (some (a:Int)) (some (b:Int)) 1 n=Builtin.Str.strSliceIndices (some ((min a n:Nat):Int)) (some ((min b n:Nat):Int)) 1 n:=λn=>by
  have h1:¬((a:Int)<0):=by lia
  have h2:¬((b:Int)<0):=by lia
  have h3:¬(((min a n:Nat):Int)<0):=by lia
  have h4:¬(((min b n:Nat):Int)<0):=by lia
  have e1:max (0:Int) (min (a:Int) (n:Int))=max (0:Int) (min ((min a n:Nat):Int) (n:Int)):=by lia
  have e2:max (0:Int) (min (b:Int) (n:Int))=max (0:Int) (min ((min b n:Nat):Int) (n:Int)):=by lia
  simp only[Builtin.Str.strSliceIndices,h1,h2,h3,h4,if_false,e1,e2,show((1:Int)>0)=True from by simp,if_true]
 rw[e]
 rw[PySem.StrLaws.sliced_plain x (a:=min a x.length) (b:=min b x.length) (by lia) (by lia)]
 unfold slS
 have hl:x.cps.toList.length=x.length:=by simp[PySem.Str.length]
 generalize x.cps.toList=l at hl
 rw[←hl]
 by_cases ha:a≤l.length
 ·rw[Nat.min_eq_left ha]
  by_cases hb:b≤l.length
  ·rw[Nat.min_eq_left hb]
  ·rw[Nat.min_eq_right (by lia)]
   rw[List.take_of_length_le (by simp),List.take_of_length_le (by simp;lia)]
 ·rw[Nat.min_eq_right (by lia)]
  rw[List.drop_of_length_le (by lia:l.length≤a)]
  simp
  lia
noncomputable abbrev slO(a b:Int)(t u:Tok):Obj:=⟨.type "slice",none,.fields ⟨[.int a t,.int b u,.none]⟩,⟨[]⟩⟩
noncomputable def ar(G:GP)(x:PySem.Str)(t:Tok)(s:Addr)(a b:Nat)(u v:Tok)(ys:List Nat):ac:=
 cB "str.__getitem__" [.str x t,.ref s] [(s,some (slO (.ofNat a) (.ofNat b) u v))] G 0 1 λ_ U _=>rV (.str ⟨⟨ys⟩⟩ (U 0))
section
variable{w:World}{G:GP}
theorem af{x:PySem.Str}{t:Tok}{s:Addr}{a b:Nat}{u v:Tok}{ys:List Nat}(h:slS x a b=ys)(hab:a≤b:=by first | assumption | lia | decide)(hx:x.length<2^20:=by first | assumption | lia | decide):Ok w 1 (ar G x t s a b u v ys):=by
 have hx':x.length≤sizeLine:=by show x.length≤2^24;lia
 clear hx
 refine aN F.slot_str_getitem F.entry_str_getitem (F.args_str_getitem_2 _ _) (meets_str_getitem_slice x t s (some (.ofNat a,u)) (some (.ofNat b,v)) none rfl) rfl λA R h₀ gs d U os hA hG hB hP K=>?_
 have ho:=(hP.get _ (.head _) _ rfl).1
 refine⟨typeIs_str _ x t,⟨_,ho,rfl,rfl⟩,?_⟩
 have hpk:(slicePicked x (some (.ofNat a,u)) (some (.ofNat b,v)) none).filterMap (x.cps[·]?)=ys:=(m4 x a b hab).trans h
 unfold sliceMade
 split
 ·rename_i hw
  have hlen:(slicePicked x (some (.ofNat a,u)) (some (.ofNat b,v)) none).length=x.length:=by
   have:=(Bool.and_eq_true_iff.mp hw).2
   exact beq_iff_eq.mp this
  have hle:(Builtin.Str.strSliceIndices (some (a:Int)) (some (b:Int)) 1 x.length).length=x.length:=hlen
  have:ys=x.cps.toList:=by
   rw[←h]
   have hl:x.cps.toList.length=x.length:=by simp[PySem.Str.length]
   by_cases h0:x.length=0
   ·unfold slS
    have:x.cps.toList=[]:=List.eq_nil_of_length_eq_zero (by lia)
    rw[this];simp
   ·have e1:(Builtin.Str.strSliceIndices (some (a:Int)) (some (b:Int)) 1 x.length).filterMap (x.cps[·]?)=slS x a b:=m4 x a b hab
    have hin:∀(l:List Nat),(∀i∈l,i<x.length)→(l.filterMap (x.cps[·]?)).length=l.length:=λl=>by
     induction l with
     | nil=>intro _;rfl
     | cons i l ih=>
      intro hi
      have:i<x.cps.size:=hi i (.head _)
      rw[List.filterMap_cons,Array.getElem?_eq_getElem this]
      simp only[List.length_cons]
      rw[ih λj hj=>hi j (.tail _ hj)]
    have h1:¬((a:Int)<0):=by lia
    have h2:¬((b:Int)<0):=by lia
    have hlen2:(slS x a b).length=x.length:=by
     rw[←e1,hin,hle]
     intro i hi
     by_cases ha:a≤x.length
     ·have e:Builtin.Str.strSliceIndices (some (a:Int)) (some (b:Int)) 1 x.length=(List.range (min b x.length-a)).map (λk=>a+k):=by
       have:=PySem.StrLaws.strSliceIndices_plain (a:=a) (b:=min b x.length) (len:=x.length) (by lia) (by lia)
       rw[←this]
       have h4:¬(((min b x.length:Nat):Int)<0):=by lia
       have e2:max (0:Int) (min (b:Int) (x.length:Int))=max (0:Int) (min ((min b x.length:Nat):Int) (x.length:Int)):=by lia
       simp only[Builtin.Str.strSliceIndices,h1,h2,h4,if_false,e2,show((1:Int)>0)=True from by simp,if_true]
      rw[e]at hi
      obtain⟨k,hk,rfl⟩:=List.mem_map.mp hi
      rw[List.mem_range]at hk
      lia
     ·exfalso
      have e:Builtin.Str.strSliceIndices (some (a:Int)) (some (b:Int)) 1 x.length=[]:=by
       have:=PySem.StrLaws.strSliceIndices_plain (a:=x.length) (b:=x.length) (len:=x.length) (by lia) (by lia)
       rw[Nat.sub_self]at this
       rw[show([]:List Nat)=(List.range 0).map (λk=>x.length+k)from rfl,←this]
       have h4:¬((x.length:Int)<0):=by lia
       have e1:max (0:Int) (min (a:Int) (x.length:Int))=max (0:Int) (min (x.length:Int) (x.length:Int)):=by lia
       have e2:max (0:Int) (min (b:Int) (x.length:Int))=max (0:Int) (min (x.length:Int) (x.length:Int)):=by lia
       simp only[Builtin.Str.strSliceIndices,h1,h2,h4,if_false,e1,e2,show((1:Int)>0)=True from by simp,if_true]
      rw[e]at hle
      simp at hle;lia
    unfold slS at hlen2 ⊢
    have hd:((x.cps.toList.drop a).take (b-a)).length=x.cps.toList.length:=by rw[hlen2,hl]
    have h3:=List.length_take_le' (b-a) (x.cps.toList.drop a)
    have h4:(x.cps.toList.drop a).length=x.cps.toList.length-a:=List.length_drop
    rw[hd,h4,hl]at h3
    have ha0:a=0:=by lia
    subst ha0
    rw[List.drop_zero]at hd ⊢
    rw[List.length_take]at hd
    rw[List.take_of_length_le (by lia)]
  subst this
  exact K _ gs U (λ_=>0) (λ_=>t) (λ_=>.none) hG (ax hB)
 ·refine⟨?_,?_⟩
  ·rw[hpk]
   show ys.length≤sizeLine
   rw[←h]
   unfold slS
   have hl:x.cps.toList.length=x.length:=by simp[PySem.Str.length]
   exact Nat.le_trans (List.length_take_le' _ _) (by rw[List.length_drop,hl];exact Nat.le_trans (Nat.sub_le _ _) hx')
  ·rw[hpk]
   exact K _ gs (U+1) (λ_=>0) (λ_=>U) (λ_=>.none) hG (ax hB)
theorem g9{prog:Program}{A:Around}{c:Code}{R:Result→Shared→Prop}{s:Shared}(h:codeAny (model prog w) A c (wants (λv s'=>R (.ok (.ret v)) s') (λe s'=>R (.error e) s')) s):codeAny (model prog w) A c R s:=
 codeAny_mono h λr s' x=>by
  unfold wants at x
  split at x
  ·exact x
  ·exact x.elim
  ·exact x
noncomputable def ko(G:GP)(a:Value):ac:=cB "list.__new__" [.type "list",a] [] G 1 0 λC _ _=>⟨.ok (.ret (.ref (C 0))),[],[some (lO [] 0)]⟩
theorem eK{a:Value}:Ok w 1 (ko G a):=λA R h gs d U os hA hG hB hP K=>
 g9 (code_list_new a (K _ gs U (λ_=>h.objs.size) (λ_=>0) (λ_=>.none) hG (bJ hB rfl)))
noncomputable def aW(G:GP)(x:List Nat)(t:Tok):ac:=cB "len" [.str (mS x) t] [] G 0 1 λ_ U _=>rV (.int (.ofNat x.length) (U 0))
theorem mq{A:Around}{R:Result→Shared→Prop}{h:Heap}{gs:Array GenState}{d:Drawn}{U:Nat}{os:OsState}{x:List Nat}{t:Tok}(hx:x.length<2^20)
  (K:R (.ok (.ret (.int (.ofNat x.length) (U+1)))) ⟨h,gs,d,U+1+1,os⟩):o0 w A R (Builtin.«len» ⟨[.str (mS x) t],[]⟩) ⟨h,gs,d,U,os⟩:=by
 have h0:¬(((mS x).length:Int)<0):=by lia
 have h1:¬(((mS x).length:Int)≥2^63):=by show ¬((x.length:Int)≥2^63);lia
 clear hx
 exact wpAny_len_body (typeIs_str _ (mS x) t) F.slot_str_len F.entry_str_len (F.args_str_len_1 _) (gives_str_len (mS x) t) h0 h1 K
theorem ah{x:List Nat}{t:Tok}(hx:x.length<2^20:=by first | assumption | lia | (simp only[List.length_cons,List.length_nil,List.length_append];lia) | decide):Ok w 1 (aW G x t):=
 gx plain_len entry_len kind_len (args_len1 _) rfl λA R h gs d U os hA hG hB hP K=>mq hx (K h gs (U+1+1) (λ_=>0) (λ_=>U+1) (λ_=>.none) hG (ax hB))
noncomputable def aX(G:GP)(x y:List Nat)(t u:Tok):ac:=cB "str.__add__" [.str (mS x) t,.str (mS y) u] [] G 0 1 λ_ U _=>rV (.str (mS (x++y)) (U 0))
theorem bi{x y:List Nat}{t u:Tok}(hx:x.length<2^20:=by first | assumption | lia | (simp only[List.length_cons,List.length_nil,List.length_append];lia) | decide)(hy:y.length<2^20:=by first | assumption | lia | (simp only[List.length_cons,List.length_nil,List.length_append];lia) | decide):Ok w 1 (aX G x y t u):=by
 refine aN F.slot_str_add F.entry_str_add (F.args_str_add_2 _ _) (gives_str_add (mS x) (mS y) t u).meets rfl λA R h gs d U os hA hG hB hP K=>⟨typeIs_str _ _ t,?_⟩
 show Made.post (if(mS x).length==0 then .val (.str (mS y) u)else if(mS y).length==0 then .val (.str (mS x) t)else .str (mS x++mS y)) _ _
 split
 ·rename_i e
  have:x=[]:=List.eq_nil_of_length_eq_zero (beq_iff_eq.mp e)
  subst this
  exact K h gs U (λ_=>0) (λ_=>u) (λ_=>.none) hG (ax hB)
 ·split
  ·rename_i e
   have:y=[]:=List.eq_nil_of_length_eq_zero (beq_iff_eq.mp e)
   subst this
   have:=K h gs U (λ_=>0) (λ_=>t) (λ_=>.none) hG (ax hB)
   dsimp only[aX]at this
   rw[List.append_nil]at this
   exact this
  ·have e:mS x++mS y=mS (x++y):=by
    show PySem.Str.mk (Array.mk x++Array.mk y)=_
    simp
   rw[e]
   exact⟨by show(x++y).length≤2^24;rw[List.length_append];lia,K h gs (U+1) (λ_=>0) (λ_=>U) (λ_=>.none) hG (ax hB)⟩
noncomputable def uv(G:GP)(c:Nat)(t:Tok):ac:=cB "chr" [.int (.ofNat c) t] [] G 0 1 λ_ U _=>rV (.str (mS [c]) (U 0))
theorem mz{c:Nat}{t:Tok}(h:c<1114112:=by first | assumption | decide | lia):Ok w 1 (uv G c t):=by
 have hc:(decide ((.ofNat c:Int)<0)||decide ((.ofNat c:Int)>0x10FFFF))=false:=by
  have e:(Int.ofNat c)=(c:Int):=rfl
  rw[e,Bool.or_eq_false_iff]
  exact⟨decide_eq_false (by lia),decide_eq_false (by lia)⟩
 clear h
 refine gx F.plain_chr F.entry_chr F.kind_chr (F.args_chr1 _) rfl λA R h gs d U os hA hG hB hP K=>?_
 show wpAny _ _ (if(decide ((.ofNat c:Int)<0)||decide ((.ofNat c:Int)>0x10FFFF))=true then _ else retStr ⟨#[(Int.ofNat c).toNat]⟩) _ _ _
 rw[hc]
 exact wpAny_bind (wpAny_mkStr (wpAny_pure ⟨_,rfl,K h gs (U+1) (λ_=>0) (λ_=>U) (λ_=>.none) hG (ax hB)⟩) (by show 1≤2^24;decide))
end
end
section
open PySem PySem.W PySem.W.X PySem.Builtin
noncomputable abbrev frO(es:List DictEntry)(n:Nat):Obj:=⟨.type "frame",none,.dict ⟨es⟩ n,⟨[]⟩⟩
noncomputable def bdS:Stmt→List Stmt
 | .FunctionDef _ _ b _ _ _ _ _ _ _=>b
 | _=>[]
noncomputable def scS:Stmt→Scope
 | .FunctionDef _ _ _ _ _ _ sc _ _ _=>sc
 | _=>{kind:=.function,names:=[],isGenerator:=false,isCoroutine:=false,more:=[]}
noncomputable def nmS:Stmt→PySem.Str
 | .FunctionDef n _ _ _ _ _ _ _ _ _=>n
 | _=>mS []
noncomputable def cM(st:Stmt)(it:Value)(env:Env):Code:=match st with
 | .For t _ b o _=>.forLoop t it b o env
 | _=>.block [] env
noncomputable def bN(st:Stmt)(env:Env):Code:=match st with
 | .While t b o _=>.whileLoop t b o env
 | _=>.block [] env
noncomputable def bdW:Stmt→List Stmt
 | .While _ b _ _=>b
 | .For _ _ b _ _=>b
 | .If _ b _ _=>b
 | _=>[]
noncomputable def noE:PySem.Expr:=.Constant .none 0 ⟨0,0,0,0⟩
noncomputable def exV:Stmt→PySem.Expr
 | .AugAssign _ _ v _=>v
 | .Assign _ v _=>v
 | .Return (some v) _=>v
 | _=>noE
noncomputable def scE:PySem.Expr→Scope
 | .ListComp _ _ sc _=>sc
 | _=>scS (.Pass ⟨0,0,0,0⟩)
noncomputable def fc:List (PySem.Str × NameKind)→List (PySem.Str × NameKind)
 | []=>[]
 | x::l=>(match x.2 with
  | .free=>(x.1,.cell)
  | _=>x)::fc l
noncomputable def g7(st:Stmt)(e:PySem.Expr)(cd:Addr)(loc dct:Addr)(cells:List (PySem.Str × Addr)):Env:={scope:={scE e with names:=fc (scE e).names},locals:=dct,globals:=3,cells:=cells,qual:=nmS st++eH,func:=none,code:=.ref cd,frame:=some loc,builtins:=0}
noncomputable abbrev diO(es:List DictEntry)(n:Nat):Obj:=⟨.type "dict",none,.dict ⟨es⟩ n,⟨[]⟩⟩
noncomputable abbrev tuO(xs:List Value):Obj:=⟨.type "tuple",none,.seq ⟨xs⟩ 0,⟨[]⟩⟩
noncomputable abbrev ceO(v:Option Value):Obj:=⟨.type "cell",none,.cell v,⟨[]⟩⟩
noncomputable def kX(st:Stmt)(fn cd:Addr)(loc:Addr):Env:={scope:=scS st,locals:=loc,globals:=3,cells:=[],qual:=nmS st++eH,func:=some fn,code:=.ref cd,frame:=some loc,builtins:=0}
noncomputable def sd(c:Code)(α:Nat→Addr)(objs:List (Option Obj))(G G':GP)(nn nt nz:Nat)(F:FT):ac:=⟨c,av α objs 0,G,λ_=>G',nn,nt,nz,F⟩
noncomputable abbrev bu:List Nat:=[115,99,114,105,112,116]
noncomputable abbrev bt:List Nat:=[116,111,116,97,108,115]
noncomputable abbrev s_k:List Nat:=[107]
noncomputable def pc(P:Params)(a2 a3:Addr)(t1 t2:Tok)(kv:List DictEntry)(e1:Nat)(xs:List Value)(dd:Option Addr)(e2:Nat)(sl:Array (Option Value))(x0 x1 x2 x3:Value)(n m:Nat):List (Option Obj):=
 [some (riO (.ofNat n) (.ofNat m) 1),some (frO ([en P bu t1 (.ref a2),en P bt t2 (.ref a3)]++kv) e1),some ⟨.type "list",dd,.seq ⟨xs⟩ e2,sl⟩,some (lO [x0,x1,x2,x3] 0)]
noncomputable def eQ(P:Params)(a2 a3:Addr)(t1 t2:Tok)(N:Nat)(y0 y1 y2 y3:Int):FT:=λ_ U O=>
 ⟨.ok .next,[(0,riO (.ofNat N) 0 1),(1,frO [en P bu t1 (.ref a2),en P bt t2 (.ref a3),en P s_k (U 4) (O 0)] (U 5)),(3,lO [.int y0 (U 0),.int y1 (U 1),.int y2 (U 2),.int y3 (U 3)] 0)],[]⟩
noncomputable def zd(a0 a1:Addr):Code:=cM (b4 (bdS (stA 11)) 1) (.ref a0) (kX (stA 11) 134 133 a1)
noncomputable def eP(P:Params)(G:GP)(a0 a1 a2 a3:Addr)(t1 t2:Tok)(kv:List DictEntry)(e1:Nat)(xs:List Value)(dd:Option Addr)(e2:Nat)(sl:Array (Option Value))(x0 x1 x2 x3:Value)(n m:Nat)(F:FT):ac:=
 sd (zd a0 a1) (aa [a0,a1,a2,a3]) (pc P a2 a3 t1 t2 kv e1 xs dd e2 sl x0 x1 x2 x3 n m) G G 0 6 1 F
end
section
open PySem PySem.W PySem.W.X PySem.Builtin
theorem gr{Tb:KT}{h:Heap}{a:Addr}{o o' o1 o2:Obj}{pre:List (Addr × Option Obj)}{r:Result}{f:Obj→Obj}(e:f o=o')(hB:be Tb h)(hP:cy Tb h ((a,some o)::pre))(hf:o'.isFreed=false)(h1:o1.isFreed=false)(h2:o2.isFreed=false):
  bE Tb h (((h.update a f).push o1).push o2) ((a,some o)::pre) 2 (λq=>h.objs.size+q) ⟨r,[(0,o')],[some o1,some o2]⟩:=by
 have p:=gu (r:=r) (C:=λ_=>0) (f:=f) hB hP (by rw[e];exact hf)
 have hz:(h.update a f).objs.size=h.objs.size:=Heap.size_after_update ..
 refine⟨λj x hx=>?_,?_,λp' hp x hx=>?_,λb x hx k=>?_,λq x hx=>?_,λq hq=>?_,λq q' hq Zp x=>?_⟩
 ·exact Heap.get?_push_of_some _ (Heap.get?_push_of_some _ (p.base j x hx))
 ·rw[Heap.size_push,Heap.size_push,hz];lia
 ·rw[List.mem_singleton]at hp
  subst hp
  exact Heap.get?_push_of_some _ (Heap.get?_push_of_some _ (p.ups (0,o') (by rw[e];exact .head _) x hx))
 ·refine Heap.get?_push_of_some _ (Heap.get?_push_of_some _ (p.keep b x hx ?_))
  intro p' hp y hy
  rw[List.mem_singleton]at hp
  subst hp
  exact k (0,o') (.head _) y hy
 ·match q,hx with
  | 0,hx=>
   cases hx
   have:=Heap.get?_push_size (h.update a f) (o:=o1) h1
   rw[hz]at this
   exact Heap.get?_push_of_some _ this
  | 1,hx=>
   cases hx
   have:=Heap.get?_push_size ((h.update a f).push o1) (o:=o2) h2
   rw[Heap.size_push,hz]at this
   exact this
  | q+2,hx=>simp at hx
 ·exact Nat.le_add_right _ _
 ·exact Nat.add_left_cancel x
noncomputable abbrev dZ(T:String)(v:Value)(i:Nat):Obj:=⟨.type T,none,.fields ⟨[v,.int (.ofNat i) 0]⟩,⟨[]⟩⟩
noncomputable abbrev dc(a:Addr):Obj:=⟨.type "StopIteration",none,.fields ⟨[.ref a,.none,.none,.none,.bool false,.none]⟩,⟨[]⟩⟩
noncomputable abbrev dY:Obj:=⟨.type "tuple",none,.seq ⟨[]⟩ 0,⟨[]⟩⟩
noncomputable def cU(G:GP)(x:List Nat)(t:Tok):ac:=cB "str.__iter__" [.str (mS x) t] [] G 1 0 λC _ _=>⟨.ok (.ret (.ref (C 0))),[],[some (dZ "str_ascii_iterator" (.str (mS x) t) 0)]⟩
noncomputable def cT(G:GP)(x:List Nat)(t:Tok):ac:=cB "str.__iter__" [.str (mS x) t] [] G 1 0 λC _ _=>⟨.ok (.ret (.ref (C 0))),[],[some (dZ "str_iterator" (.str (mS x) t) 0)]⟩
noncomputable def cW(G:GP)(it:Addr)(x:List Nat)(t:Tok)(i c:Nat):ac:=cB "str_ascii_iterator.__next__" [.ref it] [(it,some (dZ "str_ascii_iterator" (.str (mS x) t) i))] G 0 1 λ_ U _=>⟨.ok (.ret (.str (mS [c]) (U 0))),[(0,dZ "str_ascii_iterator" (.str (mS x) t) (i+1))],[]⟩
noncomputable def cV(G:GP)(it:Addr)(x:List Nat)(t:Tok)(i c:Nat):ac:=cB "str_iterator.__next__" [.ref it] [(it,some (dZ "str_iterator" (.str (mS x) t) i))] G 0 1 λ_ U _=>⟨.ok (.ret (.str (mS [c]) (U 0))),[(0,dZ "str_iterator" (.str (mS x) t) (i+1))],[]⟩
noncomputable def k4(G:GP)(it:Addr)(x:List Nat)(t:Tok)(i:Nat):ac:=cB "str_ascii_iterator.__next__" [.ref it] [(it,some (dZ "str_ascii_iterator" (.str (mS x) t) i))] G 2 0 λC _ _=>⟨.error (.ref (C 1)),[(0,dZ "str_ascii_iterator" .none i)],[some dY,some (dc (C 0))]⟩
noncomputable def kZ(G:GP)(it:Addr)(x:List Nat)(t:Tok)(i:Nat):ac:=cB "str_iterator.__next__" [.ref it] [(it,some (dZ "str_iterator" (.str (mS x) t) i))] G 2 0 λC _ _=>⟨.error (.ref (C 1)),[(0,dZ "str_iterator" .none i)],[some dY,some (dc (C 0))]⟩
section
variable{w:World}{G:GP}
theorem dJ{x:List Nat}{t:Tok}(h:x.all (λc=>Nat.blt c 128)=true):Ok w 1 (cU G x t):=by
 have ha:(mS x).cps.all (· <128)=true:=by
  rw[←Array.all_toList]
  rw[List.all_eq_true]at h ⊢
  intro c hc
  exact decide_eq_true (Nat.le_of_ble_eq_true (h c hc))
 refine bv F.slot_str_iter F.entry_str_iter (F.args_str_iter_1 _) rfl λA R h gs d U os hA hG hB hP K=>⟨typeIs_str _ _ _,?_⟩
 show wpAny _ _ (do ret (←newFields (if(true&&(mS x).cps.all (· <128))=true then "str_ascii_iterator" else "str_iterator") [.str (mS x) t,rawInt 0])) _ _ _
 rw[ha]
 exact wpAny_bind (wpAny_newObj_type (wpAny_pure ⟨_,rfl,K _ gs U (λ_=>h.objs.size) (λ_=>0) (λ_=>.none) hG (bJ hB rfl)⟩))
theorem dI{x:List Nat}{t:Tok}(h:x.all (λc=>Nat.blt c 128)=false):Ok w 1 (cT G x t):=by
 have ha:(mS x).cps.all (· <128)=false:=by
  rw[←Array.all_toList]
  rw[List.all_eq_false]at h ⊢
  obtain⟨c,hc,h⟩:=h
  refine⟨c,hc,λy=>h ?_⟩
  exact Nat.ble_eq_true_of_le (of_decide_eq_true y)
 refine bv F.slot_str_iter F.entry_str_iter (F.args_str_iter_1 _) rfl λA R h gs d U os hA hG hB hP K=>⟨typeIs_str _ _ _,?_⟩
 show wpAny _ _ (do ret (←newFields (if(true&&(mS x).cps.all (· <128))=true then "str_ascii_iterator" else "str_iterator") [.str (mS x) t,rawInt 0])) _ _ _
 rw[ha]
 exact wpAny_bind (wpAny_newObj_type (wpAny_pure ⟨_,rfl,K _ gs U (λ_=>h.objs.size) (λ_=>0) (λ_=>.none) hG (bJ hB rfl)⟩))
theorem eN{x:List Nat}{i:Nat}{c:Option Nat}(h:x[i]? =c):(mS x).cps[i]? =c:=by
 show(Array.mk x)[i]? =c
 simpa using h
theorem dq{it:Addr}{x:List Nat}{t:Tok}{i c:Nat}(h:x[i]? =some c):Ok w 1 (cW G it x t i c):=by
 have hx:=eN h
 refine bv F.slot_str_ascii_iterator_next F.entry_str_ascii_iterator_next (F.args_str_ascii_iterator_next_1 _) rfl λA R h gs d U os hA hG hB hP K=>?_
 have ho:=(hP.get _ (.head _) _ rfl).1
 refine⟨⟨_,ho,rfl⟩,?_⟩
 show wpAny _ _ (field (.ref it) 0 >>= _) _ _ _
 refine wpAny_bind (wpAny_field ho rfl (x:=.str (mS x) t) rfl ?_)
 show wpAny _ _ (field (.ref it) 1 >>= _) _ _ _
 refine wpAny_bind (wpAny_field ho rfl (x:=.int (.ofNat i) 0) rfl ?_)
 simp only[show(Int.ofNat i).toNat=i from rfl,hx]
 refine wpAny_bind (wpAny_setField ho rfl (by simp) (wpAny_bind (wpAny_mkStr (wpAny_pure ⟨_,rfl,?_⟩) (by show 1≤sizeLine;decide))))
 exact K _ gs (U+1) (λ_=>0) (λ_=>U) (λ_=>.none) hG (cn rfl hB hP rfl)
theorem dm{it:Addr}{x:List Nat}{t:Tok}{i c:Nat}(h:x[i]? =some c):Ok w 1 (cV G it x t i c):=by
 have hx:=eN h
 refine bv F.slot_str_iterator_next F.entry_str_iterator_next (F.args_str_iterator_next_1 _) rfl λA R h gs d U os hA hG hB hP K=>?_
 have ho:=(hP.get _ (.head _) _ rfl).1
 refine⟨⟨_,ho,rfl⟩,?_⟩
 show wpAny _ _ (field (.ref it) 0 >>= _) _ _ _
 refine wpAny_bind (wpAny_field ho rfl (x:=.str (mS x) t) rfl ?_)
 show wpAny _ _ (field (.ref it) 1 >>= _) _ _ _
 refine wpAny_bind (wpAny_field ho rfl (x:=.int (.ofNat i) 0) rfl ?_)
 simp only[show(Int.ofNat i).toNat=i from rfl,hx]
 refine wpAny_bind (wpAny_setField ho rfl (by simp) (wpAny_bind (wpAny_mkStr (wpAny_pure ⟨_,rfl,?_⟩) (by show 1≤sizeLine;decide))))
 exact K _ gs (U+1) (λ_=>0) (λ_=>U) (λ_=>.none) hG (cn rfl hB hP rfl)
theorem nX{it:Addr}{x:List Nat}{t:Tok}{i:Nat}(h:x[i]? =none):Ok w 1 (k4 G it x t i):=by
 have hx:=eN h
 refine bv F.slot_str_ascii_iterator_next F.entry_str_ascii_iterator_next (F.args_str_ascii_iterator_next_1 _) rfl λA R h gs d U os hA hG hB hP K=>?_
 have ho:=(hP.get _ (.head _) _ rfl).1
 refine⟨⟨_,ho,rfl⟩,?_⟩
 show wpAny _ _ (field (.ref it) 0 >>= _) _ _ _
 refine wpAny_bind (wpAny_field ho rfl (x:=.str (mS x) t) rfl ?_)
 show wpAny _ _ (field (.ref it) 1 >>= _) _ _ _
 refine wpAny_bind (wpAny_field ho rfl (x:=.int (.ofNat i) 0) rfl ?_)
 simp only[show(Int.ofNat i).toNat=i from rfl,hx]
 refine wpAny_bind (wpAny_rule (wpAny_bind (wpAny_setField ho rfl (by simp) (wpAny_bind (wpAny_letGo ?_)))))
 show wpAny _ _ (newExc (.type "StopIteration") [] >>= _) _ _ _
 refine wpAny_bind ?_
 simp only[newExc,newTuple]
 refine wpAny_bind (wpAny_newObj_type ?_ (by size_fits))
 refine wpAny_bind (m:=firstArgMember _ _) (wpAny_of_eq (a:=Value.none) (by first | rfl | (simp only[firstArgMember];rfl)) ?_)
 refine wpAny_newObj_type ?_ (by size_fits)
 refine wpAny_raiseNew_none hA.hd ?_
 have:=K _ gs U (λq=>h.objs.size+q) (λ_=>0) (λ_=>.none) hG (gr (f:=Obj.mapFields λvs=>vs.setIfInBounds 0 Value.none) (o':=dZ "str_ascii_iterator" .none i) (o1:=dY) (o2:=dc h.objs.size) rfl hB hP rfl rfl rfl)
 have e:((h.update it (Obj.mapFields λvs=>vs.setIfInBounds 0 Value.none)).push dY).objs.size=h.objs.size+1:=by rw[Heap.size_push,Heap.size_after_update]
 rw[Heap.size_after_update,e]
 exact this
theorem nW{it:Addr}{x:List Nat}{t:Tok}{i:Nat}(h:x[i]? =none):Ok w 1 (kZ G it x t i):=by
 have hx:=eN h
 refine bv F.slot_str_iterator_next F.entry_str_iterator_next (F.args_str_iterator_next_1 _) rfl λA R h gs d U os hA hG hB hP K=>?_
 have ho:=(hP.get _ (.head _) _ rfl).1
 refine⟨⟨_,ho,rfl⟩,?_⟩
 show wpAny _ _ (field (.ref it) 0 >>= _) _ _ _
 refine wpAny_bind (wpAny_field ho rfl (x:=.str (mS x) t) rfl ?_)
 show wpAny _ _ (field (.ref it) 1 >>= _) _ _ _
 refine wpAny_bind (wpAny_field ho rfl (x:=.int (.ofNat i) 0) rfl ?_)
 simp only[show(Int.ofNat i).toNat=i from rfl,hx]
 refine wpAny_bind (wpAny_rule (wpAny_bind (wpAny_setField ho rfl (by simp) (wpAny_bind (wpAny_letGo ?_)))))
 show wpAny _ _ (newExc (.type "StopIteration") [] >>= _) _ _ _
 refine wpAny_bind ?_
 simp only[newExc,newTuple]
 refine wpAny_bind (wpAny_newObj_type ?_ (by size_fits))
 refine wpAny_bind (m:=firstArgMember _ _) (wpAny_of_eq (a:=Value.none) (by first | rfl | (simp only[firstArgMember];rfl)) ?_)
 refine wpAny_newObj_type ?_ (by size_fits)
 refine wpAny_raiseNew_none hA.hd ?_
 have:=K _ gs U (λq=>h.objs.size+q) (λ_=>0) (λ_=>.none) hG (gr (f:=Obj.mapFields λvs=>vs.setIfInBounds 0 Value.none) (o':=dZ "str_iterator" .none i) (o1:=dY) (o2:=dc h.objs.size) rfl hB hP rfl rfl rfl)
 have e:((h.update it (Obj.mapFields λvs=>vs.setIfInBounds 0 Value.none)).push dY).objs.size=h.objs.size+1:=by rw[Heap.size_push,Heap.size_after_update]
 rw[Heap.size_after_update,e]
 exact this
end
noncomputable def au:Value→List Nat
 | .str s _=>s.cps.toList
 | _=>[]
noncomputable def a9(v:Value):Value:=.str (mS (au v).tail) 0
noncomputable def qSL:List (List Nat)→Value→List Value
 | [],_=>[]
 | y::ys,v=>.str (mS y) ((au v).headD 0)::qSL ys (a9 v)
theorem f9(t:Tok)(v:Value)(y:Tok):a9 (.str (mS (t::au v)) y)=.str (mS (au v)) 0:=rfl
theorem jM:∀(ys:List (List Nat)) (v v':Value),au v=au v'→qSL ys v=qSL ys v'
 | [],_,_,_=>rfl
 | y::ys,v,v',h=>by
  unfold qSL
  rw[h]
  congr 1
  exact jM ys _ _ (by show(au v).tail=(au v').tail;rw[h])
theorem aR:∀(ys:List (List Nat)) (v:Value) (y:List Nat) (t:Tok),∃v',qSL (ys++[y]) v'=qSL ys v++[.str (mS y) t]
 | [],v,y,t=>⟨.str (mS [t]) 0,rfl⟩
 | z::ys,v,y,t=>by
  obtain⟨v',h⟩:=aR ys (a9 v) y t
  refine⟨.str (mS ((au v).headD 0::au v')) 0,?_⟩
  show Value.str (mS z) ((au v).headD 0)::qSL (ys++[y]) (a9 (.str (mS ((au v).headD 0::au v')) 0))=Value.str (mS z) ((au v).headD 0)::(qSL ys (a9 v)++[.str (mS y) t])
  rw[f9,←h]
  congr 1
  exact jM _ _ _ rfl
theorem bG:∀(ys:List (List Nat)) (v:Value),(qSL ys v).length=ys.length
 | [],_=>rfl
 | _::ys,v=>by
  show(qSL ys (a9 v)).length+1=ys.length+1
  rw[bG ys]
noncomputable def prs:List (List Nat)→List Nat→List (PySem.Str × Tok)
 | [],_=>[]
 | y::ys,ts=>(mS y,ts.headD 0)::prs ys ts.tail
theorem gm:∀(ys:List (List Nat)) (v:Value),strValues (prs ys (au v))=qSL ys v
 | [],_=>rfl
 | y::ys,v=>by
  show Value.str (mS y) ((au v).headD 0)::strValues (prs ys (au (a9 v)))=_
  rw[gm ys (a9 v)];first | done | rfl
theorem iR:∀(ys:List (List Nat)) (ts:List Nat),(prs ys ts).map (·.1)=ys.map mS
 | [],_=>rfl
 | y::ys,ts=>by
  show mS y::(prs ys ts.tail).map (·.1)=_
  rw[iR ys];rfl
theorem il:∀(ys:List (List Nat)) (a:List Nat),(ys.map mS).foldl (λZ9 p=>Z9++(mS []).cps++p.cps) (Array.mk a)=Array.mk (a++ys.flatten)
 | [],a=>by simp
 | y::ys,a=>by
  rw[List.map_cons,List.foldl_cons]
  have:(Array.mk a++(mS []).cps++(mS y).cps)=Array.mk (a++y):=by
   show Array.mk a++Array.mk []++Array.mk y=_
   simp
  rw[this,il ys,List.flatten_cons,List.append_assoc]
theorem mG(ys:List (List Nat)):Builtin.Str.glued (mS []) (ys.map mS)=mS ys.flatten:=by
 cases ys with
 | nil=>rfl
 | cons y ys=>
  show PySem.Str.mk ((ys.map mS).foldl (λZ9 p=>Z9++(mS []).cps++p.cps) (Array.mk y))=_
  rw[il];rfl
theorem kb:∀(ys:List (List Nat)) (a:Nat),(ys.map mS).foldl (λn s=>n+s.length+(mS []).length) a=a+ys.flatten.length
 | [],a=>rfl
 | y::ys,a=>by
  rw[List.map_cons,List.foldl_cons,kb ys,List.flatten_cons,List.length_append]
  show a+y.length+0+ys.flatten.length=_
  lia
noncomputable def am(G:GP)(a:Addr)(xs:List Value)(n:Nat)(v:Value):ac:=cB "list.append" [.ref a,v] [(a,some (lO xs n))] G 0 1 λ_ U _=>⟨.ok (.ret .none),[(0,lO (xs++[v]) (U 0))],[]⟩
theorem ao{w:World}{G:GP}{a:Addr}{xs:List Value}{n:Nat}{v:Value}(hx:xs.length<2^20:=by first | assumption | lia | (simp only[List.length_cons,List.length_nil,List.length_append];lia) | decide):Ok w 1 (am G a xs n v):=by
 have h3:=fv hx
 clear hx
 refine aN F.slot_list_append F.entry_list_append (F.args_list_append_2 _ _) (AutoListH.list_append_list_val_0 a ⟨xs⟩ n v h3) rfl λA R h gs d U os hA hG hB hP K=>?_
 have ho:=(hP.get _ (.head _) _ rfl).1
 refine⟨⟨_,ho,rfl⟩,ho,?_⟩
 refine K _ gs U (λ_=>0) (λ_=>eps n (Array.mk (xs++[v])).size (Array.mk xs).size) (λ_=>.none) hG (cn ?_ hB hP rfl)
 show Obj.mk _ _ (.seq ((Array.mk xs).push v) (if((Array.mk xs).push v).size==(Array.mk xs).size then n else n+1)) _=_
 have:(Array.mk xs).push v=Array.mk (xs++[v]):=by simp
 rw[this]
 rfl
noncomputable def lJ(G:GP)(L:Addr)(ys:List (List Nat))(v:Value)(t:Tok)(e:Nat):ac:=cB "str.join" [.str (mS []) t,.ref L] [(L,some (lO (qSL ys v) e))] G 0 1 λ_ U _=>rV (.str (mS ys.flatten) (U 0))
theorem jZ{w:World}{G:GP}{L:Addr}{ys:List (List Nat)}{v:Value}{t:Tok}{e:Nat}(h:ys.flatten.length<2^20):Ok w 1 (lJ G L ys v t e):=by
 have h1:Builtin.Str.tooLong ((((prs ys (au v)).map (·.1)).toArray).foldl (λ(n:Nat) (s:PySem.Str)=>n+s.length+(mS []).length) 0)=false:=by
  rw[iR,List.foldl_toArray,kb]
  show decide (_>sizeLine)=false
  exact decide_eq_false (by show ¬(0+ys.flatten.length>2^24);lia)
 refine aN F.slot_str_join F.entry_str_join (F.args_str_join_2 _ _) (meets_str_join_list (mS []) t L (prs ys (au v)) h1) rfl λA R h₀ gs d U os hA hG hB hP K=>?_
 have ho:=(hP.get _ (.head _) _ rfl).1
 refine⟨typeIs_str _ _ _,⟨_,ho,rfl,e,?_⟩,?_⟩
 ·show Data.seq (Array.mk (qSL ys v)) e=Data.seq (strValues (prs ys (au v))).toArray e
  rw[gm]
 ·have big:∀l:List (PySem.Str × Tok),l=prs ys (au v)→(∀p,l≠[p])→(joinMade (mS []) l).post (λv s'=>R (.ok (.ret v)) s') ⟨h₀,gs,d,U,os⟩:=λl hl hp=>by
   have:joinMade (mS []) l=.str (mS ys.flatten):=by
    match l,hl,hp with
    | [],hl,_=>
     show Made.str (Builtin.Str.glued (mS []) ([]:List PySem.Str))=_
     have:ys=[]:=by cases ys with
      | nil=>rfl
      | cons y ys=>cases hl
     subst this;rfl
    | [p],_,hp=>exact absurd rfl (hp p)
    | p::q::r,hl,_=>
     show Made.str (Builtin.Str.glued (mS []) ((p::q::r).map (·.1)))=_
     rw[hl,iR,mG]
   rw[this]
   exact⟨by show ys.flatten.length≤2^24;lia,K h₀ gs (U+1) (λ_=>0) (λ_=>U) (λ_=>.none) hG (ax hB)⟩
  cases ys with
  | nil=>exact big _ rfl (λp hp=>by cases hp)
  | cons y ys=>cases ys with
   | nil=>
    show(Made.val (.str (mS y) ((au v).headD 0))).post _ _
    have:=K h₀ gs U (λ_=>0) (λ_=>(au v).headD 0) (λ_=>.none) hG (ax hB)
    dsimp only[lJ]at this
    rw[show[y].flatten=y by simp]at this
    exact this
   | cons z ys=>exact big _ rfl (λp hp=>by cases hp)
end
section
open PySem PySem.W PySem.W.X PySem.Builtin
noncomputable def lH(G:GP)(x:List Nat)(t:Tok)(k:Nat)(u:Tok)(c:Nat):ac:=cPS "str.__getitem__" [.str (mS x) t,.int (.ofNat k) u] G (mS [c])
noncomputable def fF(G:GP)(x y:List Nat)(t u:Tok)(v:Bool):ac:=cPV "str.__eq__" [.str (mS x) t,.str (mS y) u] G (.bool v)
noncomputable def uu(G:GP)(x y:List Nat)(t u:Tok)(v:Bool):ac:=cPV "str.__ne__" [.str (mS x) t,.str (mS y) u] G (.bool v)
noncomputable def kn(G:GP)(x y:List Nat)(t u:Tok)(v:Bool):ac:=cPV "str.__contains__" [.str (mS x) t,.str (mS y) u] G (.bool v)
noncomputable def ee(G:GP)(x y:List Nat)(t u:Tok)(n:Nat):ac:=cPI "str.count" [.str (mS x) t,.str (mS y) u] G (.ofNat n)
noncomputable def oK(G:GP)(x:List Nat)(n:Nat)(t u:Tok):ac:=cB "str.__mul__" [.str (mS x) t,.int (.ofNat n) u] [] G 0 1 λ_ U _=>rV (.str (mS (List.replicate n x).flatten) (U 0))
noncomputable def inS(x y:List Nat):Bool:= !(Builtin.Str.occurrences (mS x) (mS y) 0 x.length 1).isEmpty
noncomputable def aG(x y:List Nat):Nat:=(Builtin.Str.occurrences (mS x) (mS y) 0 x.length (x.length+1)).length
theorem gP:∀(l:List (Array Nat)) (a:Array Nat),l.foldl (· ++·) a=Array.mk (a.toList++(l.map Array.toList).flatten)
 | [],a=>by simp
 | y::l,a=>by
  rw[List.foldl_cons,gP l]
  simp
section
variable{w:World}{G:GP}
theorem lq{x:List Nat}{t:Tok}{k:Nat}{u:Tok}{c:Nat}(h:x[k]? =some c)(hk:k<2^20:=by first | assumption | lia | decide):Ok w 1 (lH G x t k u c):=by
 have hr:(decide ((.ofNat k:Int)< -(2^63:Int))||decide ((.ofNat k:Int)≥2^63))=false:=by
  have e:(Int.ofNat k)=(k:Int):=rfl
  rw[e,Bool.or_eq_false_iff]
  exact⟨decide_eq_false (by lia),decide_eq_false (by lia)⟩
 have hs:(seqIndex? (.ofNat k) (mS x).length).bind ((mS x).cps[·]?)=some c:=by
  have hl:k<x.length:=(List.getElem?_eq_some_iff.mp h).1
  have e:seqIndex? (.ofNat k) (mS x).length=some k:=by
   unfold seqIndex?
   have e1:¬((Int.ofNat k)<0):=by show ¬((k:Int)<0);lia
   rw[if_neg e1]
   have e2:(0≤Int.ofNat k&&Int.ofNat k<((mS x).length:Int))=true:=by
    rw[Bool.and_eq_true]
    exact⟨decide_eq_true (by show(0:Int)≤(k:Int);lia),decide_eq_true (by show((k:Int))<(x.length:Int);lia)⟩
   rw[if_pos e2];rfl
  rw[e]
  exact eN h
 clear hk
 exact wj F.slot_str_getitem (λs=>typeIs_str s _ _) F.entry_str_getitem (F.args_str_getitem_2 _ _) (gives_str_getitem (mS x) (.ofNat k) t u c hr hs) (by show 1≤2^24;decide)
theorem gN{x y:List Nat}{t u:Tok}{v:Bool}(h:(x==y)=v):Ok w 1 (fF G x y t u v):=by
 subst h
 exact nF F.slot_str_eq (λs=>typeIs_str s _ _) F.entry_str_eq (F.args_str_eq_2 _ _) (gives_str_eq (mS x) (mS y) t u)
theorem dO{x y:List Nat}{t u:Tok}{v:Bool}(h:(x !=y)=v):Ok w 1 (uu G x y t u v):=by
 subst h
 exact nF F.slot_str_ne (λs=>typeIs_str s _ _) F.entry_str_ne (F.args_str_ne_2 _ _) (gives_str_ne (mS x) (mS y) t u)
theorem kR{x y:List Nat}{t u:Tok}{v:Bool}(h:inS x y=v):Ok w 1 (kn G x y t u v):=by
 subst h
 exact nF F.slot_str_contains (λs=>typeIs_str s _ _) F.entry_str_contains (F.args_str_contains_2 _ _) (gives_str_contains (mS x) (mS y) t u)
theorem aK{x y:List Nat}{t u:Tok}{n:Nat}(h:aG x y=n):Ok w 1 (ee G x y t u n):=by
 subst h
 exact qF F.slot_str_count (λs=>typeIs_str s _ _) F.entry_str_count (F.args_str_count_2 _ _) (gives_str_count (mS x) (mS y) t u)
theorem xA{x:List Nat}{n:Nat}{t u:Tok}(hx:x.length<2^10:=by first | assumption | lia | decide)(hn:n<2^10:=by first | assumption | lia | decide):Ok w 1 (oK G x n t u):=by
 have e:(Int.ofNat n)=(n:Int):=rfl
 have hm:x.length*n<2^20:=Nat.lt_of_le_of_lt (Nat.mul_le_mul (Nat.le_of_lt_succ hx) (Nat.le_of_lt_succ hn)) (by decide)
 have hr:(decide ((.ofNat n:Int)< -(2^63:Int))||decide ((.ofNat n:Int)≥2^63))=false:=by
  rw[e,Bool.or_eq_false_iff]
  exact⟨decide_eq_false (by lia),decide_eq_false (by lia)⟩
 have hb:¬((.ofNat n:Int)<1)→((.ofNat n:Int)==1||(mS x).length==0)=false→¬(((mS x).length:Int)>(2^63-1) / (.ofNat n)):=by
  intro h1 _
  rw[e]at h1 ⊢
  have:(2:Int)^43≤(2^63-1) / (n:Int):=by
   apply Int.le_ediv_of_mul_le (by lia)
   have:(n:Int)≤2^10:=by lia
   calc (2:Int)^43*n≤2^43*2^10:=Int.mul_le_mul_of_nonneg_left this (by decide)
    _≤2^63-1:=by decide
  have h2:((mS x).length:Int)<2^10:=by show((x.length:Nat):Int)<2^10;lia
  lia
 have hl:¬((.ofNat n:Int)<1)→((.ofNat n:Int)==1||(mS x).length==0)=false→Builtin.Str.tooLong ((mS x).length*(Int.ofNat n).toNat)=false:=by
  intro _ _
  show decide (_>sizeLine)=false
  exact decide_eq_false (by show ¬(x.length*n>2^24);lia)
 refine aN F.slot_str_mul F.entry_str_mul (F.args_str_mul_2 _ _) (gives_str_mul (mS x) (.ofNat n) t u hr hb hl).meets rfl λA R h gs d U os hA hG hB hP K=>⟨typeIs_str _ _ _,?_⟩
 have fin:∀y:PySem.Str,y=mS (List.replicate n x).flatten→y.length≤sizeLine→(Made.str y).post (λv s'=>R (.ok (.ret v)) s') ⟨h,gs,d,U,os⟩:=λy hy hl=>by
  subst hy
  exact⟨hl,K h gs (U+1) (λ_=>0) (λ_=>U) (λ_=>.none) hG (ax hB)⟩
 have hlen:(mS (List.replicate n x).flatten).length≤sizeLine:=by
  show(List.replicate n x).flatten.length≤2^24
  rw[List.length_flatten,List.map_replicate,List.sum_replicate_nat]
  rw[Nat.mul_comm]at hm
  lia
 split
 ·rename_i h1
  have:n=0:=by rw[e]at h1;lia
  subst this
  exact fin _ rfl (by decide)
 ·split
  ·rename_i h1 h2
   have h3:(List.replicate n x).flatten=x:=by
    rcases Bool.or_eq_true_iff.mp h2 with h2 | h2
    ·have:n=1:=by have:=beq_iff_eq.mp h2;rw[e]at this;lia
     subst this;simp
    ·have:x=[]:=List.eq_nil_of_length_eq_zero (beq_iff_eq.mp h2)
     subst this;simp
   have:=K h gs U (λ_=>0) (λ_=>t) (λ_=>.none) hG (ax hB)
   dsimp only[oK]at this
   rw[h3]at this
   exact this
  ·refine fin _ ?_ ?_
   ·show PySem.Str.mk ((List.replicate n (Array.mk x)).foldl (· ++·) #[])=_
    rw[gP]
    simp
   ·show(PySem.Str.mk ((List.replicate n (Array.mk x)).foldl (· ++·) #[])).length≤_
    rw[gP]
    have e2:(List.map Array.toList (List.replicate n (Array.mk x)))=List.replicate n x:=by simp
    rw[e2]
    exact hlen
end
end
section
open PySem PySem.W PySem.W.X PySem.Builtin
theorem dX{M:Model}{A:Around}{f:Value}{pos:List Value}{Q:Value→Shared→Prop}{E:Value→Shared→Prop}{s:Shared}
  (hc:codeAny M A (.call f ⟨pos,[]⟩) (λr s'=>match r with | .ok (.ret v)=>Q v s' | .ok _=>False | .error e=>E e s') s):
  wpAny M A (callBorrowed f pos) Q E s:=λΓ p hΓ=>by
 unfold callBorrowed
 rw[Sem.wp_call]
 refine codeAny_mono hc (λr s' h=>?_) _ p rfl (hΓ.enter _ none p (by intro x;cases x))
 cases r with
 | error e=>rw[Sem.wp];exact h
 | ok f=>cases f with
  | ret v=>rw[Sem.wp];exact h
  | _=>exact h.elim
noncomputable def up1(l:List (Nat × Obj)):List (Nat × Obj):=l.map λp=>(p.1+1,p.2)
theorem mi{Tb:KT}{h h1 h2:Heap}{pre:List (Addr × Option Obj)}{n1 n:Nat}{as1 C:Nat→Addr}{r1 r:Result}{ups1:List (Nat × Obj)}{a:Addr}{o o':Obj}{news:List (Option Obj)}
  (P:bE Tb h h1 pre n1 as1 ⟨r1,ups1,[]⟩) (hP:cy Tb h ((a,some o)::pre)) (hs:∀x∈pre,x.2.isSome=true)
  (ha:h2.get? a=some o') (hk:∀b x,b≠a→h1.get? b=some x→h2.get? b=some x) (hz:h1.objs.size≤h2.objs.size)
  (hn:∀(q:Nat) (o:Obj),news[q]? =some (some o)→h2.get? (C q)=some o) (hf:∀q,q<n→h.objs.size≤C q) (hj:∀q q',q<n→q'<n→C q=C q'→q=q'):
  bE Tb h h2 ((a,some o)::pre) n C ⟨r,(0,o')::up1 ups1,news⟩:=by
 have Zz:∀(k:Nat) (x:Addr × Option Obj),pre[k]? =some x→x.1≠a:=λk x hx e=>by
  obtain⟨y,hy⟩:=Option.isSome_iff_exists.mp (hs x (List.mem_of_getElem? hx))
  have:=hP.inj (k+1) 0 x (a,some o) y o (by simpa using hx) rfl hy rfl e
  lia
 have haT:=(hP.get _ (.head _) o rfl).2
 refine⟨λj x hx=>?_,Nat.le_trans P.ge hz,λp hp x hx=>?_,λb x hx k=>?_,hn,hf,hj⟩
 ·refine hk j x (λe=>?_) (P.base j x hx)
  subst e
  rw[haT]at hx;cases hx
 ·rcases List.mem_cons.mp hp with rfl | hp
  ·cases hx;exact ha
  ·obtain⟨p1,hp1,rfl⟩:=List.mem_map.mp hp
   have hx':pre[p1.1]? =some x:=by simpa using hx
   exact hk _ _ (Zz _ _ hx') (P.ups p1 hp1 x hx')
 ·have hb:b≠a:=λe=>k (0,o') (.head _) _ rfl e.symm
  refine hk b x hb (P.keep b x hx λp hp y hy=>?_)
  exact k (p.1+1,p.2) (.tail _ (List.mem_map.mpr ⟨p,hp,rfl⟩)) y (by simpa using hy)
theorem co:Manifest.owners.lookup (String.ofList ['r','o','t','a','r','e','t','i','_','e','l','b','a','l','l','a','c'].reverse)=some Manifest.sig_callable_iterator:=by kernel_rfl
theorem iG:Slot "callable_iterator" "__next__" "callable_iterator.__next__":=
 .of (owner:="callable_iterator") (n:="__next__") (by rw[typeLookup_type,builtinLookup_eq_fast];kernel_rfl) (by decide+kernel) (by decide+kernel) (by decide+kernel)
  (by first | exact .inl (by decide+kernel) | exact .inr (by decide+kernel)) (by rw[isSubtype_type];kernel_rfl)
theorem g8:entryFor table "callable_iterator.__next__"=some Builtin.«callable_iterator.__next__»:=entryFor_of_tree (by kernel_rfl)
theorem jx(a:Value):argsOk "callable_iterator.__next__" ⟨[a],[]⟩:=by
 unfold argsOk;rw[signature?_of (id:="callable_iterator.__next__") (n:=['_','_','t','x','e','n','_','_']) (o:=['r','o','t','a','r','e','t','i','_','e','l','b','a','l','l','a','c']) (by kernel_rfl) co];kernel_rfl
noncomputable abbrev mtO(f L:Addr):Obj:=⟨.type "method",none,.fields ⟨[.ref f,.ref L]⟩,⟨[]⟩⟩
noncomputable abbrev ciO(BM:Addr)(ts:Tok):Obj:=⟨.type "callable_iterator",none,.fields ⟨[.ref BM,.str (mS []) ts,.bool false]⟩,⟨[]⟩⟩
noncomputable abbrev ciE:Obj:=⟨.type "callable_iterator",none,.fields ⟨[.none,.none,.bool true]⟩,⟨[]⟩⟩
noncomputable def sY(G:GP)(CI BM:Addr)(ts:Tok)(pre:List (Addr × Option Obj))(nt:Nat)(ups:(Nat→Tok)→List (Nat × Obj)):ac:=
 ⟨.call (.builtin "callable_iterator.__next__") ⟨[.ref CI],[]⟩,(CI,some (ciO BM ts))::pre,G,λ_=>G,2,nt,0,λC U _=>⟨.error (.ref (C 1)),(0,ciE)::up1 (ups U),[some dY,some (dc (C 0))]⟩⟩
theorem nG{w:World}{lv:Nat}{G:GP}{CI BM L f:Addr}{ts:Tok}{of:Obj}{fd:FuncData}{pre:List (Addr × Option Obj)}{nt:Nat}{ups:(Nat→Tok)→List (Nat × Obj)}
  (hb:Ok w lv ⟨.call (.ref BM) ⟨[],[]⟩,pre,G,λ_=>G,0,nt,0,λ_ U _=>⟨.ok (.ret (.str (mS []) (U 0))),ups U,[]⟩⟩)
  (hm:pre[0]? =some (BM,some (mtO f L))) (hf:(Tb w.params).get f=some of) (hfd:of.data=.func fd) (hs:∀x∈pre,x.2.isSome=true) (hu:∀U,∀p∈ups U,p.1≠0):
  Ok w (lv+1) (sY G CI BM ts pre nt ups):=by
 refine bv iG g8 (jx _) rfl λA R h gs d U os hA hG hB hP K=>?_
 have ho:=(hP.get _ (.head _) _ rfl).1
 dsimp only at ho
 have hPt:cy (Tb w.params) h pre:=⟨λp hp=>hP.get p (.tail _ hp),λq q' p p' o o' h1 h2=>λh3 h4 h5=>by
  have:=hP.inj (q+1) (q'+1) p p' o o' (show((CI,some (ciO BM ts))::pre)[q+1]? =some p by simpa using h1) (show((CI,some (ciO BM ts))::pre)[q'+1]? =some p' by simpa using h2) h3 h4 h5
  lia⟩
 have hmg:=(hP.get _ (.tail _ (List.mem_of_getElem? hm)) _ rfl).1
 have hmT:=(hP.get _ (.tail _ (List.mem_of_getElem? hm)) _ rfl).2
 dsimp only at hmg hmT
 have hff:=hB f of hf
 have Zz:CI≠BM:=λe=>by
  have:=hP.inj 0 1 _ _ _ _ rfl (show((CI,some (ciO BM ts))::pre)[0+1]? =_ by simpa using hm) rfl rfl e
  lia
 refine⟨⟨_,ho,rfl⟩,?_⟩
 have hbor:∀{A':Around} {Q:Bool→Shared→Prop} {E:Value→Shared→Prop} {s:Shared},s.heap.get? BM=some (mtO f L)→s.heap.get? f=some of→Q true s→wpAny (model pw w) A' (borrowsExactly (.ref BM)) Q E s:=by
  intro A' Q E s h1 h2 hq
  unfold borrowsExactly
  show wpAny _ _ (load BM >>= _) _ _ _
  refine wpAny_bind (wpAny_load h1 ?_)
  show wpAny _ _ (if((Value.type "method")==.type "method")=true then _ else _) _ _ _
  rw[if_pos (by decide)]
  show wpAny _ _ (load f >>= _) _ _ _
  refine wpAny_bind (wpAny_load h2 ?_)
  rw[hfd]
  exact wpAny_pure hq
 show wpAny _ _ (field (.ref CI) 2 >>= _) _ _ _
 refine wpAny_bind (wpAny_field ho rfl (x:=.bool false) rfl ?_)
 show wpAny _ _ (if(Value.bool false==.bool true)=true then _ else _) _ _ _
 rw[if_neg (by decide)]
 show wpAny _ _ (field (.ref CI) 0 >>= λx=>Sem.attempt (callOutOfASlot x) >>= _) _ _ _
 refine wpAny_bind (wpAny_field ho rfl (x:=.ref BM) rfl ?_)
 refine wpAny_bind (wpAny_attempt ?_)
 unfold callOutOfASlot
 refine wpAny_bind (hbor hmg hff ?_)
 rw[if_pos rfl]
 refine dX ?_
 refine hb _ _ h gs d U os ?_ hG hB hPt λh1 gs1 tk1 C ZB O hG1 P=>?_
 ·exact⟨hA.hd,by have:=hA.dp;show A.depth+_≤_;lia,by have:=hA.un;show A.units+1+_≤_;lia⟩
 have hci1:h1.get? CI=some (ciO BM ts):=P.keep CI _ ho λp hp x hx e=>by
  obtain⟨y,hy⟩:=Option.isSome_iff_exists.mp (hs x (List.mem_of_getElem? hx))
  have:=hP.inj (p.1+1) 0 x _ y _ (show((CI,some (ciO BM ts))::pre)[p.1+1]? =some x by simpa using hx) rfl hy rfl e
  lia
 have hbm1:h1.get? BM=some (mtO f L):=P.keep BM _ hmg λp hp x hx e=>by
  obtain⟨y,hy⟩:=Option.isSome_iff_exists.mp (hs x (List.mem_of_getElem? hx))
  have:=hPt.inj p.1 0 x _ y _ hx hm hy rfl e
  exact hu _ p hp this
 have hf1:h1.get? f=some of:=P.base f of hf
 show wpAny _ _ (field (.ref CI) 2 >>= _) _ _ _
 refine wpAny_bind (wpAny_field hci1 rfl (x:=.bool false) rfl ?_)
 show wpAny _ _ (if(Value.bool false==.bool true)=true then _ else _) _ _ _
 rw[if_neg (by decide)]
 show wpAny _ _ (field (.ref CI) 1 >>= λx=>holding [.str (mS []) (cut nt ZB 0)] (eqBool x (.str (mS []) (cut nt ZB 0))) >>= _) _ _ _
 refine wpAny_bind (wpAny_field hci1 rfl (x:=.str (mS []) ts) rfl ?_)
 refine wpAny_bind (wpAny_holding (wpAny_eqBool_str ?_))
 rw[show(!(decide (mS []=mS [])))=false from by decide,if_neg (by decide)]
 refine wpAny_bind (wpAny_rule ?_)
 show wpAny _ _ ((field (.ref CI) 0 >>= λx=>slotLetsGo "callable_iterator.__next__" x _ >>= λ_=>setField (.ref CI) 0 .none >>= λ_=>setField (.ref CI) 1 .none >>= λ_=>setField (.ref CI) 2 (.bool true)) >>= λ_=>SmallTypes.stopIteration) _ _ _
 refine wpAny_bind (wpAny_bind (wpAny_field hci1 rfl (x:=.ref BM) rfl ?_))
 refine wpAny_bind ?_
 unfold slotLetsGo
 show wpAny _ _ (borrowsExactly (.ref BM) >>= _) _ _ _
 refine wpAny_bind (hbor hbm1 hf1 ?_)
 rw[if_pos rfl]
 refine wpAny_pure ?_
 refine wpAny_bind (wpAny_setField hci1 rfl (by simp) ?_)
 have c1:=Heap.get?_update_self (Obj.mapFields (·.setIfInBounds 0 Value.none)) hci1 rfl
 refine wpAny_bind (wpAny_setField c1 rfl (by simp[Obj.mapFields]) ?_)
 have c2:=Heap.get?_update_self (Obj.mapFields (·.setIfInBounds 1 Value.none)) c1 rfl
 refine wpAny_setField c2 rfl (by simp[Obj.mapFields]) ?_
 have c3:=Heap.get?_update_self (Obj.mapFields (·.setIfInBounds 2 (Value.bool true))) c2 rfl
 have k3:∀b x,b≠CI→h1.get? b=some x→(((h1.update CI (Obj.mapFields (·.setIfInBounds 0 Value.none))).update CI (Obj.mapFields (·.setIfInBounds 1 Value.none))).update CI (Obj.mapFields (·.setIfInBounds 2 (Value.bool true)))).get? b=some x:=λb x hb e=>
  (Heap.get?_update_other _ _ (Ne.symm hb)).trans ((Heap.get?_update_other _ _ (Ne.symm hb)).trans ((Heap.get?_update_other _ _ (Ne.symm hb)).trans e))
 have z3:(((h1.update CI (Obj.mapFields (·.setIfInBounds 0 Value.none))).update CI (Obj.mapFields (·.setIfInBounds 1 Value.none))).update CI (Obj.mapFields (·.setIfInBounds 2 (Value.bool true)))).objs.size=h1.objs.size:=by
  rw[Heap.size_after_update,Heap.size_after_update,Heap.size_after_update]
 generalize((h1.update CI (Obj.mapFields (·.setIfInBounds 0 Value.none))).update CI (Obj.mapFields (·.setIfInBounds 1 Value.none))).update CI (Obj.mapFields (·.setIfInBounds 2 (Value.bool true)))=h3 at*
 show wpAny _ _ (newExc (.type "StopIteration") [] >>= _) _ _ _
 refine wpAny_bind ?_
 simp only[newExc,newTuple]
 refine wpAny_bind (wpAny_newObj_type ?_ (by size_fits))
 refine wpAny_bind (m:=firstArgMember _ _) (wpAny_of_eq (a:=Value.none) (by first | rfl | (simp only[firstArgMember];rfl)) ?_)
 refine wpAny_newObj_type ?_ (by size_fits)
 refine wpAny_raiseNew_none hA.hd ?_
 have hz4:(h3.push dY).objs.size=h1.objs.size+1:=by rw[Heap.size_push,z3]
 have g1:((h3.push dY).push (dc h1.objs.size)).get? h1.objs.size=some dY:=by
  have:=Heap.get?_push_size h3 (o:=dY) rfl
  rw[z3]at this
  exact Heap.get?_push_of_some _ this
 have g2:((h3.push dY).push (dc h1.objs.size)).get? (h1.objs.size+1)=some (dc h1.objs.size):=by
  have:=Heap.get?_push_size (h3.push dY) (o:=dc h1.objs.size) rfl
  rw[hz4]at this
  exact this
 have Q:=K ((h3.push dY).push (dc h1.objs.size)) gs1 tk1 (λq=>h1.objs.size+q) ZB (λ_=>.none) hG1
  (mi (o':=ciE) P hP hs (Heap.get?_push_of_some _ (Heap.get?_push_of_some _ c3)) (λb x hb e=>Heap.get?_push_of_some _ (Heap.get?_push_of_some _ (k3 b x hb e)))
   (by rw[Heap.size_push,hz4];lia)
   (λq o hq=>by
    match q,hq with
    | 0,hq=>cases hq;exact g1
    | 1,hq=>cases hq;exact g2
    | q+2,hq=>simp at hq)
   (λq _=>Nat.le_trans P.ge (Nat.le_add_right _ _)) (λq q' _ _ e=>Nat.add_left_cancel e))
 have e3:(h3.push {cls:=Value.type "tuple",data:=Data.seq ([]:List Value).toArray}).objs.size=h1.objs.size+1:=hz4
 rw[z3,e3]
 exact Q
end
section
open PySem PySem.W PySem.W.X PySem.Builtin
noncomputable def unE(P:Params):Array (Int × Value):=match(pC P).data with
 | .set es _ _=>es
 | _=>#[]
noncomputable def oR(P:Params):Array DictEntry:=match(pB P).data with
 | .dict es _=>es
 | _=>#[]
noncomputable def cK(P:Params)(c:Int):Bool:=(unE P).toList.any λe=>Value.isInt c e.2
noncomputable def b3W(P:Params)(c:Int):Value:=(((oR P).toList.find? λe=>Value.isInt c e.key).map (·.val)).getD .none
theorem uC(P:Params)(c:Int):(findBy Value.isInt (oR P) c).getD .none=b3W P c:=by
 unfold b3W findBy
 rw[Array.find?_toList]
noncomputable def isE(h:Int)(v:Value):Bool:=match v with
 | .int k _=>h==hashInt k
 | _=>false
theorem lu{h:Int}{v:Value}(x:isE h v=true):∃k t,v=.int k t∧h=hashInt k:=by
 unfold isE at x
 split at x
 ·rename_i k t
  exact⟨k,t,rfl,beq_iff_eq.mp x⟩
 ·cases x
theorem rj(P:Params):(unE P).toList.all (λe=>isE e.1 e.2)=true:=by kernel_rfl
theorem uB(P:Params):(oR P).toList.all (λe=>isE e.hash e.key)=true:=by kernel_rfl
theorem ri{w:World}{h:Heap}(ho:h.get? 71=some (pC w.params)):h.SetOf (intKind pw w) 71 (cK w.params) 27:=by
 refine⟨_,unE w.params,_,_,ho,⟨rfl,rfl,rfl⟩,rfl,λe he=>?_,λk=>?_,by show 27<scanBound;decide+kernel,rfl,rfl⟩
 ·have:=List.all_eq_true.mp (rj w.params) e he
  obtain⟨k,t,h1,h2⟩:=lu this
  refine⟨⟨k,?_,h2⟩,?_⟩
  ·rw[h1];simp[intKind,Value.isInt]
  ·rw[h1];rfl
 ·unfold cK
  rw[List.any_eq_true];rfl
theorem uz{w:World}{h:Heap}(ho:h.get? 82=some (pB w.params)):h.MapOf (intKind pw w) 82 (λk=>findBy Value.isInt (oR w.params) k):=by
 refine⟨_,oR w.params,_,ho,⟨rfl,rfl,rfl⟩,rfl,λe he=>?_,λk=>rfl⟩
 have:=List.all_eq_true.mp (uB w.params) e (Array.mem_toList_iff.mpr he)
 obtain⟨k,t,h1,h2⟩:=lu this
 exact⟨k,by rw[h1];simp[intKind,Value.isInt],h2⟩
noncomputable def gX(G:GP)(c:Int)(t:Tok)(v:Value):ac:=cB "dict.get" [.ref 82,.int c t] [] G 0 0 λ_ _ _=>rV v
noncomputable def oJ(G:GP)(c:Int)(t:Tok)(v:Bool):ac:=cB "set.__contains__" [.ref 71,.int c t] [] G 0 0 λ_ _ _=>rV (.bool v)
section
variable{w:World}{Z V:Bool}{G:GP}
theorem jj{c:Int}{t:Tok}{v:Value}(h:b3W (Pw w Z V) c=v):Ok (W2 w Z V) 1 (gX G c t v):=by
 rw[←uC]at h
 subst h
 intro A R h gs d U os hA hG hB hP K
 have ho:=hB 82 _ (show(Tb (Pw w Z V)).get 82=some (pB (Pw w Z V))from rfl)
 have hk:(intKind pw (W2 w Z V)).is c (.int c t)=true:=by simp[intKind,Value.isInt]
 have g:=meets_dict_get (knd:=intKind pw (W2 w Z V)) (k:=c) (key:=.int c t) 82 hk (by decide+kernel)
 exact codeAny_call_builtin F.slot_dict_get.plain F.entry_dict_get (F.slot_dict_get.check _ _ _ _ _ _ _ _ ⟨_,ho,rfl⟩ (F.args_dict_get_2 _ _)
  (g A R ⟨h,gs,d,U,os⟩ ⟨_,uz ho,K h gs (U+1) (λ_=>0) (λ_=>0) (λ_=>.none) hG (ax hB)⟩))
theorem tA{c:Int}{t:Tok}{v:Bool}(h:cK (Pw w Z V) c=v):Ok (W2 w Z V) 1 (oJ G c t v):=by
 subst h
 refine bv F.slot_set_contains entry_set_contains (F.args_set_contains_2 _ _) rfl λA R h gs d U os hA hG hB hP K=>?_
 have ho:=hB 71 _ (show(Tb (Pw w Z V)).get 71=some (pC (Pw w Z V))from rfl)
 refine⟨⟨_,ho,rfl⟩,?_⟩
 have hk:(intKind pw (W2 w Z V)).is c (.int c t)=true:=by simp[intKind,Value.isInt]
 show wpAny _ _ (Builtin.«frozenset.__contains__» ⟨[.ref 71,.int c t],[]⟩) _ _ _
 unfold Builtin.«frozenset.__contains__» Builtin.Frozenset.oneOther
 simp only[List.isEmpty_nil,bind_assoc]
 unfold Builtin.Frozenset.addrOf Builtin.Frozenset.withSetAsKey setContains
 refine wpAny_bind (wpAny_pure ?_)
 try dsimp only
 refine wpAny_bind (wpAny_pure ?_)
 try dsimp only
 refine wpAny_bind (wpAny_tryCatch ?_)
 refine wpAny_holding ?_
 refine wpAny_bind ((intKind pw (W2 w Z V)).pyHash hk ?_)
 refine wpAny_bind (wpAny_setFind_of (s:=⟨h,gs,d,U+1,os⟩) hk rfl (ri ho) λr hr=>?_)
 refine wpAny_pure ?_
 show wpAny _ _ (ret (Value.bool r.isSome)) _ _ _
 rw[hr]
 exact wpAny_pure ⟨_,rfl,K h gs (U+1) (λ_=>0) (λ_=>0) (λ_=>.none) hG (ax hB)⟩
end
end
section
open PySem PySem.W PySem.W.X PySem.Builtin
open AutoSeq1 (wpAny_loadPart')
theorem s8{l b:Addr}{xs ys:Array Value}{n m:Nat}(hsz:xs.size=ys.size)(k:Nat):∀i:Nat,xs.size-i=k→Meets (Builtin.«list.__eq__.loop» ⟨[.ref l,.ref b,rawInt i,rawInt 3],[]⟩)
  (λA R s=>s.heap.get? l=some {cls:=.type "list",dict:=none,data:=.seq xs n,slots:=#[]}∧s.heap.get? b=some {cls:=.type "list",dict:=none,data:=.seq ys m,slots:=#[]}∧
   (∀j (h1:j<xs.size) (h2:j<ys.size),SeqAt.EqAt A.in1 s xs[j] ys[j] true)∧R (.ok (.ret (.bool false))) s):=by
 induction k with
 | zero=>
  intro i hk prog w A R s h
  obtain⟨hp,g,d,U,os⟩:=s
  obtain⟨hl,hb,he,h⟩:=h
  wp_walk using wpAny_loadPart' hl,wpAny_loadPart' hb
  rw[show xs[((i:Nat):Int).toNat]? =none by simp;lia,show ys[((i:Nat):Int).toNat]? =none by simp;lia]
  wp_walk using wpAny_loadPart' hl,wpAny_loadPart' hb
  show R (.ok (.ret (.bool (xs.size !=ys.size)))) _
  rw[hsz]
  simpa using h
 | succ k ih=>
  intro i hk prog w A R s h
  obtain⟨hp,g,d,U,os⟩:=s
  obtain⟨hl,hb,he,h⟩:=h
  have h1:i<xs.size:=by lia
  have h2:i<ys.size:=by lia
  wp_walk using wpAny_loadPart' hl,wpAny_loadPart' hb
  rw[show xs[((i:Nat):Int).toNat]? =some xs[i]by simp[h1],show ys[((i:Nat):Int).toNat]? =some ys[i]by simp[h2]]
  refine wpAny_bind (he i h1 h2 prog w _ _ ?_)
  wp_walk
  rw[show((i:Int)+1)=((i+1:Nat):Int)by push_cast;rfl]
  exact⟨plainId_quiet MeetsSeq3.plain_eq_loop _,codeAny_builtin MeetsSeq3.entry_eq_loop (by
   rw[Around.under_plainId MeetsSeq3.plain_eq_loop _]
   exact ih (i+1) (by lia) prog w A R _ ⟨hl,hb,he,h⟩)⟩
theorem lk{l b:Addr}{xs ys:Array Value}{n m:Nat}(hsz:xs.size=ys.size):Meets (Builtin.«list.__ne__» ⟨[.ref l,.ref b],[]⟩)
  (λA R s=>s.heap.get? l=some {cls:=.type "list",dict:=none,data:=.seq xs n,slots:=#[]}∧s.heap.get? b=some {cls:=.type "list",dict:=none,data:=.seq ys m,slots:=#[]}∧
   (∀j (h1:j<xs.size) (h2:j<ys.size),SeqAt.EqAt A.in1 s xs[j] ys[j] true)∧R (.ok (.ret (.bool false))) s):=by
 intro prog w A R s h
 obtain⟨hp,g,d,U,os⟩:=s
 obtain⟨hl,hb,h⟩:=h
 have f3:=AutoSeq1.sub_list_list
 have Zz:¬(xs.size !=ys.size)=true:=by simp[hsz]
 wp_walk using wpAny_loadPart' hl,wpAny_loadPart' hb
 exact⟨plainId_quiet MeetsSeq3.plain_eq_loop _,codeAny_builtin MeetsSeq3.entry_eq_loop (by
  rw[Around.under_plainId MeetsSeq3.plain_eq_loop _]
  exact s8 hsz _ 0 rfl prog w A R _ ⟨hl,hb,h⟩)⟩
noncomputable def qIL:List Nat→Value→List Value
 | [],_=>[]
 | k::ns,v=>.int (.ofNat k) ((au v).headD 0)::qIL ns (a9 v)
theorem jN:∀(ns:List Nat) (v v':Value),au v=au v'→qIL ns v=qIL ns v'
 | [],_,_,_=>rfl
 | k::ns,v,v',h=>by
  unfold qIL
  rw[h]
  congr 1
  exact jN ns _ _ (by show(au v).tail=(au v').tail;rw[h])
theorem aI:∀(ns:List Nat) (v:Value) (k:Nat) (t:Tok),∃v',qIL (ns++[k]) v'=qIL ns v++[.int (.ofNat k) t]
 | [],v,k,t=>⟨.str (mS [t]) 0,rfl⟩
 | z::ns,v,k,t=>by
  obtain⟨v',h⟩:=aI ns (a9 v) k t
  refine⟨.str (mS ((au v).headD 0::au v')) 0,?_⟩
  show Value.int (.ofNat z) ((au v).headD 0)::qIL (ns++[k]) (a9 (.str (mS ((au v).headD 0::au v')) 0))=Value.int (.ofNat z) ((au v).headD 0)::(qIL ns (a9 v)++[.int (.ofNat k) t])
  rw[f9,←h]
  congr 1
  exact jN _ _ _ rfl
theorem az:∀(ns:List Nat) (v:Value),(qIL ns v).length=ns.length
 | [],_=>rfl
 | _::ns,v=>by
  show(qIL ns (a9 v)).length+1=ns.length+1
  rw[az ns]
theorem iQ:∀(ns:List Nat) (v:Value) (j:Nat) (k:Nat),ns[j]? =some k→∃t,(qIL ns v)[j]? =some (.int (.ofNat k) t)
 | [],_,_,_,h=>by simp at h
 | z::ns,v,0,k,h=>by
  have:z=k:=by simpa using h
  subst this
  exact⟨_,rfl⟩
 | z::ns,v,j+1,k,h=>by
  have:=iQ ns (a9 v) j k (by simpa using h)
  exact this
theorem lg(c:Nat):∀(ns:List Nat) (v:Value),(qIL ns v).any (λy=>match y with | .int i _=>i==.ofNat c | _=>false)=ns.contains c
 | [],_=>rfl
 | z::ns,v=>by
  show((Int.ofNat z==Int.ofNat c)||(qIL ns (a9 v)).any _)=_
  rw[lg c ns,List.contains_cons]
  congr 1
  rw[Bool.eq_iff_iff,beq_iff_eq,beq_iff_eq]
  constructor
  ·intro h;exact(Int.ofNat.inj h).symm
  ·intro h;rw[h]
noncomputable def qm(G:GP)(a b:Addr)(ns:List Nat)(v v':Value)(n m:Nat):ac:=cB "list.__ne__" [.ref a,.ref b] [(a,some (lO (qIL ns v) n)),(b,some (lO (qIL ns v') m))] G 0 0 λ_ _ _=>rV (.bool false)
noncomputable def oL(G:GP)(a:Addr)(ns:List Nat)(v:Value)(n:Nat)(c:Nat)(t:Tok)(r:Bool):ac:=cB "list.__contains__" [.ref a,.int (.ofNat c) t] [(a,some (lO (qIL ns v) n))] G 0 0 λ_ _ _=>rV (.bool r)
noncomputable def qZ(G:GP)(a:Addr)(v:Value)(vs:List Value)(n:Nat)(t:Tok):ac:=cB "list.pop" [.ref a,.int 0 t] [(a,some (lO (v::vs) n))] G 0 1 λ_ U _=>⟨.ok (.ret v),[(0,lO vs (U 0))],[]⟩
noncomputable def aU(G:GP)(r:Addr)(n:Nat)(t u v:Tok):ac:=cB "range.__iter__" [.ref r] [(r,some (rgO 1 (.ofNat (n+1)) 1 t u v))] G 1 0 λC _ _=>⟨.ok (.ret (.ref (C 0))),[],[some (riO (.ofNat 1) (.ofNat n) 1)]⟩
section
variable{w:World}{G:GP}
theorem pS{a b:Addr}{ns:List Nat}{v v':Value}{n m:Nat}:Ok w 1 (qm G a b ns v v' n m):=by
 have hsz:(Array.mk (qIL ns v)).size=(Array.mk (qIL ns v')).size:=by
  show(qIL ns v).length=(qIL ns v').length
  rw[az,az]
 refine aN F.slot_list_ne F.entry_list_ne (F.args_list_ne_2 _ _) (lk (n:=n) (m:=m) hsz) rfl λA R h gs d U os hA hG hB hP K=>?_
 have ho:=(hP.get _ (.head _) _ rfl).1
 have ho2:=(hP.get _ (.tail _ (.head _)) _ rfl).1
 refine⟨⟨_,ho,rfl⟩,ho,ho2,λj h1 h2=>?_,K h gs U (λ_=>0) (λ_=>0) (λ_=>.none) hG (ax hB)⟩
 have h1':j<(qIL ns v).length:=h1
 have h2':j<(qIL ns v').length:=h2
 have hj:j<ns.length:=by rw[az]at h1';exact h1'
 obtain⟨t,e1⟩:=iQ ns v j ns[j] (List.getElem?_eq_getElem hj)
 obtain⟨t',e2⟩:=iQ ns v' j ns[j] (List.getElem?_eq_getElem hj)
 have g1:(Array.mk (qIL ns v))[j]=.int (.ofNat ns[j]) t:=by
  rw[List.getElem?_eq_getElem h1']at e1
  exact Option.some.inj e1
 have g2:(Array.mk (qIL ns v'))[j]=.int (.ofNat ns[j]) t':=by
  rw[List.getElem?_eq_getElem h2']at e2
  exact Option.some.inj e2
 rw[g1,g2]
 have:=(MeetsSeq.EqGives.int (.ofNat ns[j]) (.ofNat ns[j]) t t').at A.in1 ⟨h,gs,d,U,os⟩
 rwa[beq_self_eq_true]at this
theorem pU{a:Addr}{ns:List Nat}{v:Value}{n c:Nat}{t:Tok}{r:Bool}(hr:ns.contains c=r):Ok w 1 (oL G a ns v n c t r):=by
 subst hr
 refine aN F.slot_list_contains F.entry_list_contains (F.args_list_contains_2 _ _)
  (MeetsSeq.list_contains a ⟨qIL ns v⟩ n (.int (.ofNat c) t) (λy=>match y with | .int i _=>i==.ofNat c | _=>false) λy hy=>?_) rfl λA R h gs d U os hA hG hB hP K=>?_
 ·have hy:y∈qIL ns v:=by simpa using hy
  have:∀(ns:List Nat) (v:Value),y∈qIL ns v→∃k t,y=.int (.ofNat k) t:=by
   intro ns
   induction ns with
   | nil=>intro v h;cases h
   | cons k ns ih=>
    intro v h
    rcases List.mem_cons.mp h with h | h
    ·exact⟨_,_,h⟩
    ·exact ih _ h
  obtain⟨k,t',rfl⟩:=this ns v hy
  exact MeetsSeq.EqGives.int _ _ _ _
 ·have ho:=(hP.get _ (.head _) _ rfl).1
  refine⟨⟨_,ho,rfl⟩,ho,?_⟩
  have e:(Array.mk (qIL ns v)).any (λy=>match y with | .int i _=>i==.ofNat c | _=>false)=ns.contains c:=by
   rw[←lg c ns v,←Array.any_toList]
  rw[e]
  exact K h gs U (λ_=>0) (λ_=>0) (λ_=>.none) hG (ax hB)
theorem xD{a:Addr}{v:Value}{vs:List Value}{n:Nat}{t:Tok}(hv:vs.length<2^20:=by first | assumption | lia | (simp only[List.length_cons,List.length_nil,List.length_append];lia) | decide):Ok w 1 (qZ G a v vs n t):=by
 have hz:(Array.mk (v::vs)).size≤sizeLine:=by show vs.length+1≤2^24;lia
 clear hv
 have hk:seqIndex? 0 (Array.mk (v::vs)).size=some 0:=by
  show(if(0≤(0:Int)&&(0:Int)<((vs.length+1:Nat):Int))=true then some (0:Int).toNat else none)=some 0
  rw[if_pos (by rw[Bool.and_eq_true];exact⟨by decide,decide_eq_true (by lia)⟩)];rfl
 refine aN F.slot_list_pop F.entry_list_pop (F.args_list_pop_2 _ _) (MeetsSeq.list_pop_at a ⟨v::vs⟩ n 0 t 0 v (by decide+kernel) hk rfl hz) rfl λA R h gs d U os hA hG hB hP K=>?_
 have ho:=(hP.get _ (.head _) _ rfl).1
 refine⟨⟨_,ho,rfl⟩,ho,?_⟩
 refine K _ gs U (λ_=>0) (λ_=>eps n vs.length (vs.length+1)) (λ_=>.none) hG (cn ?_ hB hP rfl)
 show Obj.mk _ _ (.seq ((Array.mk (v::vs)).eraseIdxIfInBounds 0) (if((Array.mk (v::vs)).eraseIdxIfInBounds 0).size==(Array.mk (v::vs)).size then n else n+1)) _=_
 have:(Array.mk (v::vs)).eraseIdxIfInBounds 0=Array.mk vs:=by simp[Array.eraseIdxIfInBounds]
 rw[this]
 rfl
theorem aO{r:Addr}{n:Nat}{t u v:Tok}(h:n<2^20:=by first | assumption | lia | decide):Ok w 1 (aU G r n t u v):=by
 have e:(Int.ofNat (n+1))=(n:Int)+1:=rfl
 have hs:Builtin.Range.rangeSize 1 (Int.ofNat (n+1)) 1=Int.ofNat n:=by
  unfold Builtin.Range.rangeSize
  rw[e]
  simp
  try lia
 have hsm:Builtin.Range.small 1 (Int.ofNat (n+1)) 1=true:=by
  unfold Builtin.Range.small
  rw[hs]
  unfold Builtin.Range.rangeFitsLong
  rw[e]
  simp
  lia
 refine aN F.slot_range_iter F.entry_range_iter (F.args_range_iter_1 _) (AutoRange.range___iter___range_1 r 1 (.ofNat (n+1)) 1 t u v (by unfold Builtin.Range.small at hsm;rw[hsm];decide)) rfl λA R h gs d U os hA hG hB hP K=>?_
 have ho:=(hP.get _ (.head _) _ rfl).1
 refine⟨⟨_,ho,rfl⟩,ho,?_⟩
 unfold Builtin.Range.small at hsm
 simp only[hsm,if_true]
 rw[hs]
 exact K _ gs U (λ_=>h.objs.size) (λ_=>0) (λ_=>.none) hG (bJ hB rfl)
end
end
section
open PySem PySem.W PySem.W.X
noncomputable abbrev evT:=@PySem.W.Fast.tw14044960220447912780
noncomputable abbrev exT:=@PySem.W.Fast.tw12563942051412417395
noncomputable abbrev itT:=@PySem.W.Fast.tw15418851999007992765
noncomputable abbrev trT:=@PySem.W.Fast.tw15245631507167962100
noncomputable abbrev bdT{α β:Type}(m:Sem α)(f:α→Sem β):Sem β:=@Bind.bind Sem (@Monad.toBind Sem PySem.W.Fast.tw12456147031677567982) α β m f
theorem bD{α β:Type}(m:Sem α)(f:α→Sem β):bdT m f=(m >>= f):=by
 unfold bdT
 rw[←PySem.W.Fast.te12456147031677567982]
theorem jq:@PySem.eval=@evT:=PySem.W.Fast.te14044960220447912780
theorem oG:@PySem.execs=@exT:=PySem.W.Fast.te12563942051412417395
theorem n6:@PySem.isTrue=@itT:=PySem.W.Fast.te15418851999007992765
theorem rp:@PySem.truthy=@trT:=PySem.W.Fast.te15245631507167962100
noncomputable def vU(op:CmpOp)(a b:Value):{K:Unit→Sem Value // PySem.W.Fast.tw9423741818375054981 op a b=PySem.W.Fast.tw17359229931016689406 [a,b] (bdT (PySem.W.Fast.tw13383273872528276517 SL.s11780134324901847377x10 [a,b]) K)}:=by
 delta PySem.W.Fast.tw9423741818375054981
 exact⟨_,rfl⟩
noncomputable def sG(op:CmpOp)(a b:Value):Sem Value:=(vU op a b).1 ()
section
variable{w:World}{Γ:Ctx}
noncomputable def Le{α:Type}(w:World)(Γ:Ctx)(t t':Sem α):Prop:=∀(Q:α→Pos→Shared→Prop) (E:Value→Pos→Shared→Prop) (p:Pos) (s:Shared),Sem.wp (model pw w) Γ t' Q E p s→Sem.wp (model pw w) Γ t Q E p s
theorem Le.refl{α:Type}(t:Sem α):Le w Γ t t:=λ_ _ _ _ h=>h
theorem Le.of_eq{α:Type}{t t':Sem α}(e:t=t'):Le w Γ t t':=e▸Le.refl _
theorem Le.trans{α:Type}{t t' t'':Sem α}(h:Le w Γ t t')(h':Le w Γ t' t''):Le w Γ t t'':=λQ E p s x=>h Q E p s (h' Q E p s x)
theorem Le.bind{α β:Type}{t t':Sem α}{f f':α→Sem β}(h:Le w Γ t t')(hf:∀a,Le w Γ (f a) (f' a)):Le w Γ (t >>= f) (t' >>= f'):=λQ E p s x=>by
 rw[Sem.wp_bind']at x ⊢
 exact h _ _ _ _ (Sem.wp_mono _ _ _ (λa p s y=>hf a Q E p s y) (λ_ _ _ y=>y) _ _ x)
theorem vV(hu:Γ.units<cLine)(op:CmpOp)(a b:Value):Le w Γ (richCompare op a b) (sG op a b):=λQ E p s x=>by
 have e:richCompare op a b=holding [a,b] (cRoomFor SL.s11780134324901847377x10 [a,b] >>= λ_=>sG op a b):=by
  rw[PySem.W.Fast.te9423741818375054981,PySem.W.Fast.te17359229931016689406,PySem.W.Fast.te13383273872528276517]
  rw[←bD]
  exact(vU op a b).2
 rw[e,Sem.wp_holding,Sem.wp_bind']
 exact Sem.wp_cRoomFor _ _ hu x
noncomputable def mI(l:Expr)(op:CmpOp)(r:Expr)(pos:Pos)(env:Env):Sem Bool:=bdT (evT l env) λa=>bdT (evT r env) λb=>bdT (standAt pos) λ_=>bdT (sG op a b) λc=>trT c
theorem ju(hu:Γ.units<cLine){l:Expr}{op:CmpOp}{r:Expr}{pos:Pos}{env:Env}{whole:Sem Value}(hop:op=.NotEq∨op=.Eq)(hm:behindInMarks op r=false):Le w Γ (isTrue (.Compare l [op] [r] pos) env whole) (mI l op r pos env):=λQ E p s x=>by
 unfold mI at x
 simp only[bD]at x
 rw[←jq,←rp]at x
 simp only[isTrue_Compare1,markedBehindIn_of_false hm,Sem.wp_bind',Sem.wp_holding,Sem.wp_cmd_standAt,Sem.wp_operate]at x ⊢
 refine Sem.wp_mono _ _ _ (λa p s y=>Sem.wp_mono _ _ _ (λb p s z=>?_) (λ_ _ _ y=>y) _ _ y) (λ_ _ _ y=>y) _ _ x
 have e:compareOp op a b=richCompare op a b:=by rcases hop with rfl | rfl<;>rfl
 rw[e]
 exact vV hu op a b _ _ _ _ z
end
noncomputable def okO(R:Result→Shared→Prop):Result→Shared→Prop:=λr s=>match r with
 | .ok f=>R (.ok f) s
 | .error _=>False
noncomputable def bk(w:World)(c:Code)(T:Sem PySem.Fin):Prop:=∀(A:Around) (R:Result→Shared→Prop) (s:Shared),A.units+10<cLine→
 wpOwn (model pw w) A c T (postC pw w A (okO R)) (postE (okO R)) s→codeAny (model pw w) A c R s
theorem nH{w:World}{A:Around}{c:Code}{R:Result→Shared→Prop}{s:Shared}(h:codeAny (model pw w) A c (okO R) s):codeAny (model pw w) A c R s:=
 codeAny_mono h λr s' x=>by
  cases r with
  | ok f=>exact x
  | error e=>exact x.elim
theorem jC{Γ:Ctx}{A:Around}{c:Code}(hc:Γ.code=c)(hΓ:Γ.Below A)(h3:c.cUnits≤3)(hu:A.units+10<cLine):Γ.units<cLine:=by
 have:unitsOf Γ.below≤A.units:=hΓ.2.2.2.2
 unfold Ctx.units
 rw[hc];lia
theorem f6{w:World}{c:Code}{t T:Sem PySem.Fin}{H:Value→Sem Unit}(h3:c.cUnits≤3)(e:denote table c=t.onRaise H)(hL:∀Γ:Ctx,Γ.units<cLine→Le w Γ t T):bk w c T:=by
 intro A R s hu h
 refine y_code pw w A R s c ?_
 intro Γ p hc hΓ
 have hx:=h Γ p hc hΓ
 rw[e,Sem.wp_onRaise]
 have hG:=jC hc hΓ h3 hu
 refine hL Γ hG _ _ _ _ (Sem.wp_mono _ _ _ (λfin p s y=>?_) (λv p s y=>?_) _ _ hx)
 ·cases fin with
  | done f=>exact y
  | again c'=>exact⟨y.1,nH y.2⟩
 ·exact y.elim
noncomputable def whF(test:Expr)(body orelse:List Stmt)(env:Env):{K:Bool→Sem PySem.Fin // PySem.W.Fast.tw12362719219628433562 test body orelse env=bdT (itT test env (evT test env)) K}:=by
 delta PySem.W.Fast.tw12362719219628433562
 exact⟨_,rfl⟩
noncomputable def whT(l:Expr)(op:CmpOp)(r:Expr)(pos:Pos)(body orelse:List Stmt)(env:Env):Sem PySem.Fin:=bdT (mI l op r pos env) (whF (.Compare l [op] [r] pos) body orelse env).1
theorem o4{w:World}{l:Expr}{op:CmpOp}{r:Expr}{pos:Pos}{body orelse:List Stmt}{env:Env}(hop:op=.NotEq∨op=.Eq)(hm:behindInMarks op r=false):bk w (.whileLoop (.Compare l [op] [r] pos) body orelse env) (whT l op r pos body orelse env):=
 f6 (t:=whileTurn (.Compare l [op] [r] pos) body orelse env) (Nat.zero_le _) rfl λΓ hu=>by
  have e:whileTurn (.Compare l [op] [r] pos) body orelse env=(isTrue (.Compare l [op] [r] pos) env (eval (.Compare l [op] [r] pos) env) >>= (whF (.Compare l [op] [r] pos) body orelse env).1):=by
   rw[PySem.W.Fast.te12362719219628433562,n6,jq]
   rw[←bD]
   exact(whF (.Compare l [op] [r] pos) body orelse env).2
  rw[e]
  unfold whT
  rw[bD]
  exact Le.bind (ju hu hop hm) λ_=>Le.refl _
end
section
open PySem PySem.W PySem.W.X
variable{w:World}{lv:Nat}{R:Result→Shared→Prop}{d:Drawn}{os:OsState}{Tr:Sem PySem.Fin}{s:ac}
theorem fZ{m₀:Nat}{A:Around}{h₀:Heap}{c:Code}(HT:bk w c Tr)(hA:Lv A (lv+1))(n:Nat){T:TT}{m i z:Nat}{ZC:List Orc}{G:GP}{ρ₀:Nat→Addr}{τ₀:Nat→Tok}{ζ₀:Nat→Value}{h:Heap}{gs:Array GenState}{U:Nat}
  (hm:m≤1000000) (D₀:Rp (Tb w.params) m₀ ρ₀ h₀ h T m) (hG:G gs) (H:∀ρ τ ζ,Ag ρ ρ₀ m→Ag τ τ₀ i→AgV ζ ζ₀ z→Good pw w (Tb w.params) lv m₀ A (okO R) h₀ d os ρ (run (Tb w.params) ⟨pw,w.params⟩ ρ τ ζ n c .base Tr T m i z ZC G)):
  codeAny (model pw w) A c R ⟨h,gs,d,U,os⟩:=
 HT A R _ (by have:=hA.un;show A.units+10<9900;lia) (dF hA n c .base Tr T m i z ZC G ρ₀ τ₀ ζ₀ h gs U hm trivial D₀ hG H)
noncomputable def jK(w:World)(Tr:Sem PySem.Fin)(s:ac)(ρ:Nat→Addr)(τ:Nat→Tok)(ζ:Nat→Value)(objs:List (Option Obj))(es:List Nat)(n:Nat)(ZA:List It)(t:List Orc):Option Res:=
 res objs.length es (run (Tb w.params) ⟨pw,w.params⟩ ρ τ ζ n s.c .base Tr (aJ objs 0 .nil) objs.length 0 0 (itO ZA t) s.G)
theorem qL{h:Heap}(hok:∀C U O,(∃f,(s.F C U O).r=.ok f))
  (K:∀h' Zt ZM (C:Nat→Addr) (ZB:Nat→Tok) (O:Nat→Value),s.G' (cut s.nn C) Zt→bE (Tb w.params) h h' s.pre s.nn C (s.F (cut s.nn C) (cut s.nt ZB) (aq s.nz O))→R (s.F (cut s.nn C) (cut s.nt ZB) (aq s.nz O)).r ⟨h',Zt,d,ZM,os⟩):
  ∀h' Zt ZM (C:Nat→Addr) (ZB:Nat→Tok) (O:Nat→Value),s.G' (cut s.nn C) Zt→bE (Tb w.params) h h' s.pre s.nn C (s.F (cut s.nn C) (cut s.nt ZB) (aq s.nz O))→okO R (s.F (cut s.nn C) (cut s.nt ZB) (aq s.nz O)).r ⟨h',Zt,d,ZM,os⟩:=
 λh' Zt ZM C ZB O hG P=>by
  have k:=K h' Zt ZM C ZB O hG P
  obtain⟨f,e⟩:=hok (cut s.nn C) (cut s.nt ZB) (aq s.nz O)
  rw[e]at k ⊢
  exact k
theorem okT(S:SegIn)(Tr:Sem PySem.Fin)(HT:bk w S.s.c Tr)(es:List Nat)(n:Nat)(tl:Nm→List Nat)(zl:Nm→List Value)(ZA:List It)
  (seg:∀ρ τ ζ,jK w Tr S.s (ay S.α ρ S.objs.length) τ ζ S.objs es n ZA []=ip S.s (ay S.α ρ S.objs.length) τ ζ S.objs es tl zl (nwF S.s es tl zl) ZA)
  (hs:∀N,bO w lv N ZA)
  (hok:∀C U O,(∃f,(S.s.F C U O).r=.ok f):=by exact λ_ _ _=>⟨_,rfl⟩)
  (hp:S.s.pre=av S.α S.objs 0:=by rfl) (hl:Nat.blt S.objs.length 1000000=true:=by kernel_rfl) (hes:aF es=true:=by rfl) (hge:bZ S.objs.length es=true:=by rfl) (hn:es.length=S.s.nn:=by rfl)
  (hw:∀N,bH (nwF S.s es tl zl N)=true:=by exact λ_=>rfl) (hu:∀C U O,bU (S.s.F C U O).ups=true:=by exact λ_ _ _=>rfl):Ok w (lv+1) S.s:=by
 have hl:=Nat.le_of_ble_eq_true hl
 intro A R h gs d U os hA hG hB hP K
 rw[hp]at hP
 have D₀:=br hl hB hP
 have K:=qL hok K
 refine fZ (m₀:=S.objs.length) (h₀:=h) (i:=0) (z:=0) (τ₀:=λ_=>0) (ζ₀:=λ_=>.none) (ZC:=itO ZA []) HT hA n (Nat.le_of_lt hl) D₀ hG λρ τ ζ a _ _=>?_
 have sg:=seg ρ τ ζ
 unfold jK ip at sg
 rw[cO a]at sg
 obtain⟨out,e,e1,e2,e3,e4,e5,e6⟩:=cm sg
 refine⟨out,e,by rw[e5];exact bq _ _,by rw[e6];exact bp (hs _),λh' Zt ZM D Zq=>?_⟩
 rw[e1]
 have hsome:∀j∈es,∃o,out.T.get j=some o:=λj hj=>by
  have:=List.mem_map_of_mem (f:=out.T.get) hj
  rw[e3]at this
  exact b9 (hw _) _ this
 refine K h' Zt ZM (aa (es.map ρ)) (aa (tl ⟨ρ,τ,ζ⟩)) (aL (zl ⟨ρ,τ,ζ⟩)) (by rw[e4]at Zq;exact Zq) ?_
 rw[hp]
 refine eE hl a hP D e2 (λq o hq=>?_) (hu _ _ _) hes hge hn hsome
 have z:(nwF S.s es tl zl ⟨ρ,τ,ζ⟩)[q]? =some (some o):=hq
 rw[e3]
 refine⟨?_,z⟩
 have:=(List.getElem?_eq_some_iff.mp z).1
 have l3:=congrArg List.length e3
 rw[List.length_map,hn]at l3
 dsimp only at l3
 lia
theorem iB{α:Nat→Addr}{objs:List (Option Obj)}(HT:bk w s.c Tr)(s':Nm→ac)(objs':Nm→List (Option Obj))(n:Nat)(ZC:List Orc)(sides:Nm→List ac)
  (hp:s.pre=av α objs 0) (hl:objs.length<1000000)
  (Zo:∀N,(∀q,q<objs.length→N.r q=α q)→(s' N).pre=av α (objs' N) 0)
  (seg:∀ρ τ ζ,res objs.length [] (run (Tb w.params) ⟨pw,w.params⟩ (ay α ρ objs.length) τ ζ n s.c .base Tr (aJ objs 0 .nil) objs.length 0 0 ZC s.G)=
   some ⟨.tail (s' ⟨ay α ρ objs.length,τ,ζ⟩).c,objs' ⟨ay α ρ objs.length,τ,ζ⟩,[],(s' ⟨ay α ρ objs.length,τ,ζ⟩).G,cZ (ay α ρ objs.length) ZC,sides ⟨ay α ρ objs.length,τ,ζ⟩⟩)
  (hok:∀C U O,(∃f,(s.F C U O).r=.ok f))
  (hF:∀N,(s' N).F=s.F∧(s' N).G'=s.G'∧(s' N).nn=s.nn∧(s' N).nt=s.nt∧(s' N).nz=s.nz)
  (hc:∀N C U O,bx (s.F C U O).ups 0 objs (objs' N))
  (hs:∀N,∀x∈sides N,Ok w lv x) (hn:∀N,Ok w (lv+1) (s' N)):Ok w (lv+1) s:=by
 intro A R h gs d U os hA hG hB hP K
 rw[hp]at hP
 have D₀:=br hl hB hP
 have K:=qL hok K
 refine fZ (m₀:=objs.length) (h₀:=h) (i:=0) (z:=0) (τ₀:=λ_=>0) (ζ₀:=λ_=>.none) (ZC:=ZC) HT hA n (Nat.le_of_lt hl) D₀ hG λρ τ ζ a _ _=>?_
 have sg:=seg ρ τ ζ
 rw[cO a]at sg
 obtain⟨out,e,e1,e2,e3,e4,e5,e6⟩:=cm sg
 refine⟨out,e,by rw[e5];exact bq _ _,by rw[e6];exact hs _,λh' Zt ZM D Zq=>?_⟩
 rw[e1]
 dsimp only at e2 e4
 show codeAny _ A (s' ⟨ρ,τ,ζ⟩).c (okO R) _
 obtain⟨f1,f2,f3,f4,f5⟩:=hF ⟨ρ,τ,ζ⟩
 have hp2:=Zo ⟨ρ,τ,ζ⟩ (λq hq=>a q hq)
 have gt:∀q,q<objs.length→(objs' ⟨ρ,τ,ζ⟩)[q]? =some (out.T.get q):=λq hq=>by
  have:=bI out.T objs.length 0 q
  rw[if_pos hq,e2,Nat.zero_add]at this
  exact this
 have gl:∀(q:Nat) (o:Option Obj),(objs' ⟨ρ,τ,ζ⟩)[q]? =some o→q<objs.length:=λq o hq=>by
  have:=bI out.T objs.length 0 q
  rw[e2,hq]at this
  split at this
  ·assumption
  ·cases this
 have gp:∀(q:Nat) (p:Addr × Option Obj),(av α (objs' ⟨ρ,τ,ζ⟩) 0)[q]? =some p→p=(ρ q,out.T.get q)∧q<objs.length:=λq p hq=>by
  rw[aA]at hq
  split at hq
  ·rename_i o ho
   have Zy:=gl q o ho
   rw[gt q Zy]at ho
   cases ho
   cases hq
   rw[Nat.zero_add,←a q Zy]
   exact⟨rfl,Zy⟩
  ·cases hq
 refine hn ⟨ρ,τ,ζ⟩ A (okO R) h' Zt d ZM os hA (by rw[←e4];exact Zq) D.base ?_ ?_
 ·rw[hp2]
  refine⟨λp hp o ho=>?_,λq q' p p' o o' hq Zp ho ho' x=>?_⟩
  ·obtain⟨q,hq⟩:=List.getElem?_of_mem hp
   obtain⟨rfl,Zy⟩:=gp q p hq
   exact⟨(D.own q o ho).2,D.nb q o ho⟩
  ·obtain⟨rfl,Zy⟩:=gp q p hq
   obtain⟨rfl,hlt'⟩:=gp q' p' Zp
   exact D.inj q q' o o' ho ho' x
 ·intro h'' gs'' tk'' C ZB O hG'' P
  rw[f1,f3,f4,f5]at P ⊢
  refine K h'' gs'' tk'' C ZB O (by rw[←f2,←f3];exact hG'') ?_
  rw[hp]
  rw[hp2]at P
  have cv:=hc ⟨ρ,τ,ζ⟩ (cut s.nn C) (cut s.nt ZB) (aq s.nz O)
  have pa:∀(q:Nat) (o:Option Obj),objs[q]? =some o→(av α objs 0)[q]? =some (α q,o):=λq o e=>by
   rw[aA,e];simp
  have pa':∀(q:Nat) (x:Addr × Option Obj),(av α objs 0)[q]? =some x→x.1=α q∧q<objs.length:=λq x e=>by
   rw[aA]at e
   split at e
   ·rename_i o ho
    cases e
    exact⟨by simp,(List.getElem?_eq_some_iff.mp ho).1⟩
   ·cases e
  refine⟨P.base,Nat.le_trans D.ge P.ge,λp hp x hx=>?_,λb o e k=>?_,P.new,λq hq=>Nat.le_trans D.ge (P.fresh q hq),P.ninj⟩
  ·obtain⟨hx1,hx2⟩:=pa' _ _ hx
   have:=P.ups p hp (ρ p.1,out.T.get p.1) (by rw[aA,gt _ hx2,Nat.zero_add,←a _ hx2])
   rw[hx1]
   dsimp only at this
   rwa[a _ hx2]at this
  ·have k':∀p∈(s.F (cut s.nn C) (cut s.nt ZB) (aq s.nz O)).ups,∀x,(av α (objs' ⟨ρ,τ,ζ⟩) 0)[p.1]? =some x→x.1≠b:=λp hp x hx=>by
    obtain⟨rfl,Zy⟩:=gp _ _ hx
    obtain⟨oo,hoo⟩:∃oo,objs[p.1]? =some oo:=⟨_,List.getElem?_eq_getElem Zy⟩
    have:=k p hp _ (pa _ _ hoo)
    rw[←a _ Zy]at this
    exact this
   refine P.keep b o ?_ k'
   by_cases hx:∃j o',out.T.get j=some o'∧ρ j=b
   ·obtain⟨j,o',g,rfl⟩:=hx
    by_cases hj:j<objs.length
    ·obtain⟨oo,hoo⟩:∃oo,objs[j]? =some oo:=⟨_,List.getElem?_eq_getElem hj⟩
     obtain⟨o2,h2,h3⟩:=bY cv j oo hoo
     rw[gt j hj]at h2
     cases h2
     rcases h3 with h3 | h3
     ·subst h3
      have:=(hP.get _ (List.mem_of_getElem? (pa j _ hoo)) o' g).1
      dsimp only at this
      have ha:ρ j=α j:=a j hj
      rw[←ha]at this
      have e':o=o':=Option.some.inj (e.symm.trans this)
      subst e'
      exact(D.own _ _ g).2
     ·rw[Nat.zero_add]at h3
      obtain⟨o3,h3⟩:=b8 h3
      exact absurd (a j hj).symm (k (j,o3) h3 _ (pa j oo hoo))
    ·have:=D.fr j o' g (Nat.not_lt.mp hj)
     exact absurd (Heap.lt_size e) (Nat.not_lt.mpr this)
   ·exact D.keep b o e λj o' g q=>hx ⟨j,o',g,q⟩
theorem uW{lv:Nat}(S:SegIn)(X:(Nat→Addr)→(Nat→Tok)→(Nat→Value)→Nxt)(Tr:Sem PySem.Fin)(HT:bk w S.s.c Tr)(es:Nm→List Nat)(tl:Nm→List Nat)(zl:Nm→List Value)(n:Nat)(ZA:List It)
  (seg:∀ρ τ ζ,jK w Tr S.s (ay S.α ρ S.objs.length) τ ζ S.objs [] n ZA [.tl]=
   let N:Nm:=⟨ay S.α ρ S.objs.length,τ,ζ⟩
   let x:=X (aa (es N)) (aa (tl N)) (aL (zl N))
   some ⟨.tail x.s.c,x.objs,[],x.s.G,cZ (ay S.α ρ S.objs.length) (itO ZA [.tl]),itS N ZA⟩)
  (hc:∀N C U O,bx (S.s.F C U O).ups 0 S.objs (X (aa (es N)) (aa (tl N)) (aL (zl N))).objs)
  (hs:∀N,bO w lv N ZA) (hn:∀C U O,Ok w (lv+1) (X C U O).s)
  (hok:∀C U O,(∃f,(S.s.F C U O).r=.ok f):=by exact λ_ _ _=>⟨_,rfl⟩)
  (hp:S.s.pre=av S.α S.objs 0:=by rfl) (hl:Nat.blt S.objs.length 1000000=true:=by kernel_rfl)
  (Zo:∀C U O,(X C U O).s.pre=av S.α (X C U O).objs 0:=by exact λ_ _ _=>rfl)
  (hF:∀C U O,(X C U O).s.F=S.s.F∧(X C U O).s.G'=S.s.G'∧(X C U O).s.nn=S.s.nn∧(X C U O).s.nt=S.s.nt∧(X C U O).s.nz=S.s.nz:=by exact λ_ _ _=>⟨rfl,rfl,rfl,rfl,rfl⟩):Ok w (lv+1) S.s:=
 iB HT (λN=>(X (aa (es N)) (aa (tl N)) (aL (zl N))).s) (λN=>(X (aa (es N)) (aa (tl N)) (aL (zl N))).objs) n (itO ZA [.tl]) (λN=>itS N ZA) hp (Nat.le_of_ble_eq_true hl) (λN _=>Zo _ _ _) seg hok (λN=>hF _ _ _) hc (λN=>bp (hs N)) λN=>hn _ _ _
end
section
open PySem PySem.W PySem.W.X
noncomputable abbrev RT:=(Nat→Addr)→(Nat→Tok)→(Nat→Value)→Option Res
noncomputable def sB(L:Bool→RT):(Nat→Addr)→(Nat→Tok)→(Nat→Value)→Option Res × Option Res:=λρ τ ζ=>(L false ρ τ ζ,L true ρ τ ζ)
@[elab_as_elim] theorem sE {motive:Bool→Prop} (h:∀b,motive b) (b:Bool):motive b:=h b
@[elab_as_elim] theorem sF {motive:Bool→Bool→Prop} (h:∀b c,motive b c) (b c:Bool):motive b c:=h b c
theorem sg1{L R:Bool→RT}(h:sB L=sB R)(b:Bool)(ρ:Nat→Addr)(τ:Nat→Tok)(ζ:Nat→Value):L b ρ τ ζ=R b ρ τ ζ:=by
 have h:=congrFun (congrFun (congrFun h ρ) τ) ζ
 cases b
 ·exact congrArg (·.1) h
 ·exact congrArg (·.2) h
noncomputable def sC(L:Bool→Bool→RT):(Nat→Addr)→(Nat→Tok)→(Nat→Value)→(Option Res × Option Res) × (Option Res × Option Res):=λρ τ ζ=>(sB (L false) ρ τ ζ,sB (L true) ρ τ ζ)
theorem sg2{L R:Bool→Bool→RT}(h:sC L=sC R)(b c:Bool):∀(ρ:Nat→Addr) (τ:Nat→Tok) (ζ:Nat→Value),L b c ρ τ ζ=R b c ρ τ ζ:=by
 have h:=λa b c=>congrFun (congrFun (congrFun h a) b) c
 cases b
 ·exact sg1 (by funext x y z;exact congrArg (·.1) (h x y z)) c
 ·exact sg1 (by funext x y z;exact congrArg (·.2) (h x y z)) c
section
variable{w:World}{lv:Nat}{c:Code}{α:Nat→Addr}{objs:List (Option Obj)}{G G':GP}{nn nt nz:Nat}{F:FT}
theorem okC(es:List Nat)(n:Nat)(tl:Nm→List Nat)(zl:Nm→List Value)(ZA:List It)
  (seg:∀ρ τ ζ,hU w (sd c α objs G G' nn nt nz F) (ay α ρ objs.length) τ ζ objs es n ZA []=ip (sd c α objs G G' nn nt nz F) (ay α ρ objs.length) τ ζ objs es tl zl (nwF (sd c α objs G G' nn nt nz F) es tl zl) ZA)
  (hs:∀N,bO w lv N ZA) (hl:Nat.blt objs.length 1000000=true:=by kernel_rfl) (hes:aF es=true:=by rfl) (hge:bZ objs.length es=true:=by rfl) (hn:es.length=nn:=by rfl)
  (hw:∀N,bH (nwF (sd c α objs G G' nn nt nz F) es tl zl N)=true:=by exact λ_=>rfl) (hu:∀C U O,bU (F C U O).ups=true:=by exact λ_ _ _=>rfl):Ok w (lv+1) (sd c α objs G G' nn nt nz F):=
 okS ⟨sd c α objs G G' nn nt nz F,α,objs⟩ es n tl zl ZA seg hs rfl hl hes hge hn hw hu
theorem fD(Tr:Sem PySem.Fin)(HT:bk w c Tr)(es:List Nat)(n:Nat)(tl:Nm→List Nat)(zl:Nm→List Value)(ZA:List It)
  (seg:∀ρ τ ζ,jK w Tr (sd c α objs G G' nn nt nz F) (ay α ρ objs.length) τ ζ objs es n ZA []=ip (sd c α objs G G' nn nt nz F) (ay α ρ objs.length) τ ζ objs es tl zl (nwF (sd c α objs G G' nn nt nz F) es tl zl) ZA)
  (hs:∀N,bO w lv N ZA) (hok:∀C U O,(∃f,(F C U O).r=.ok f):=by exact λ_ _ _=>⟨_,rfl⟩) (hl:Nat.blt objs.length 1000000=true:=by kernel_rfl) (hes:aF es=true:=by rfl) (hge:bZ objs.length es=true:=by rfl) (hn:es.length=nn:=by rfl)
  (hw:∀N,bH (nwF (sd c α objs G G' nn nt nz F) es tl zl N)=true:=by exact λ_=>rfl) (hu:∀C U O,bU (F C U O).ups=true:=by exact λ_ _ _=>rfl):Ok w (lv+1) (sd c α objs G G' nn nt nz F):=
 okT ⟨sd c α objs G G' nn nt nz F,α,objs⟩ Tr HT es n tl zl ZA seg hs hok rfl hl hes hge hn hw hu
variable{c':(Nat→Addr)→(Nat→Tok)→(Nat→Value)→Code}{objs':(Nat→Addr)→(Nat→Tok)→(Nat→Value)→List (Option Obj)}{G1:(Nat→Addr)→(Nat→Tok)→(Nat→Value)→GP}
noncomputable def nxC(c':(Nat→Addr)→(Nat→Tok)→(Nat→Value)→Code)(α:Nat→Addr)(objs':(Nat→Addr)→(Nat→Tok)→(Nat→Value)→List (Option Obj))(G1:(Nat→Addr)→(Nat→Tok)→(Nat→Value)→GP)(G':GP)(nn nt nz:Nat)(F:FT):(Nat→Addr)→(Nat→Tok)→(Nat→Value)→Nxt:=
 λC U O=>⟨sd (c' C U O) α (objs' C U O) (G1 C U O) G' nn nt nz F,objs' C U O⟩
theorem aj(nx:∀C U O,Ok w (lv+1) (sd (c' C U O) α (objs' C U O) (G1 C U O) G' nn nt nz F))(es:Nm→List Nat)(tl:Nm→List Nat)(zl:Nm→List Value)(n:Nat)(ZA:List It)
  (seg:∀ρ τ ζ,hU w (sd c α objs G G' nn nt nz F) (ay α ρ objs.length) τ ζ objs [] n ZA [.tl]=
   let N:Nm:=⟨ay α ρ objs.length,τ,ζ⟩
   let x:=nxC c' α objs' G1 G' nn nt nz F (aa (es N)) (aa (tl N)) (aL (zl N))
   some ⟨.tail x.s.c,x.objs,[],x.s.G,cZ (ay α ρ objs.length) (itO ZA [.tl]),itS N ZA⟩)
  (hs:∀N,bO w lv N ZA)
  (hc:∀N C U O,bx (F C U O).ups 0 objs (objs' (aa (es N)) (aa (tl N)) (aL (zl N))):=by intro N C U O;repeat' (first | exact True.intro | exact Or.inl rfl | exact Or.inr rfl | apply And.intro))
  (hl:Nat.blt objs.length 1000000=true:=by kernel_rfl):Ok w (lv+1) (sd c α objs G G' nn nt nz F):=
 qz ⟨sd c α objs G G' nn nt nz F,α,objs⟩ (nxC c' α objs' G1 G' nn nt nz F) es tl zl n ZA seg hc hs nx rfl hl
theorem cD(nx:∀C U O,Ok w (lv+1) (sd (c' C U O) α (objs' C U O) (G1 C U O) G' nn nt nz F))(Tr:Sem PySem.Fin)(HT:bk w c Tr)(es:Nm→List Nat)(tl:Nm→List Nat)(zl:Nm→List Value)(n:Nat)(ZA:List It)
  (seg:∀ρ τ ζ,jK w Tr (sd c α objs G G' nn nt nz F) (ay α ρ objs.length) τ ζ objs [] n ZA [.tl]=
   let N:Nm:=⟨ay α ρ objs.length,τ,ζ⟩
   let x:=nxC c' α objs' G1 G' nn nt nz F (aa (es N)) (aa (tl N)) (aL (zl N))
   some ⟨.tail x.s.c,x.objs,[],x.s.G,cZ (ay α ρ objs.length) (itO ZA [.tl]),itS N ZA⟩)
  (hs:∀N,bO w lv N ZA)
  (hc:∀N C U O,bx (F C U O).ups 0 objs (objs' (aa (es N)) (aa (tl N)) (aL (zl N))):=by intro N C U O;repeat' (first | exact True.intro | exact Or.inl rfl | exact Or.inr rfl | apply And.intro))
  (hok:∀C U O,(∃f,(F C U O).r=.ok f):=by exact λ_ _ _=>⟨_,rfl⟩)
  (hl:Nat.blt objs.length 1000000=true:=by kernel_rfl):Ok w (lv+1) (sd c α objs G G' nn nt nz F):=
 uW ⟨sd c α objs G G' nn nt nz F,α,objs⟩ (nxC c' α objs' G1 G' nn nt nz F) Tr HT es tl zl n ZA seg hc hs nx hok rfl hl
variable{α':(Nat→Addr)→(Nat→Tok)→(Nat→Value)→Nat→Addr}{n1 n2 n3:Nat}{G2:(Nat→Addr)→(Nat→Tok)→(Nat→Value)→GP}{F':(Nat→Addr)→(Nat→Tok)→(Nat→Value)→FT}
noncomputable def nxN(c':(Nat→Addr)→(Nat→Tok)→(Nat→Value)→Code)(α':(Nat→Addr)→(Nat→Tok)→(Nat→Value)→Nat→Addr)(objs':(Nat→Addr)→(Nat→Tok)→(Nat→Value)→List (Option Obj))(G1 G2:(Nat→Addr)→(Nat→Tok)→(Nat→Value)→GP)(nn nt nz:Nat)(F':(Nat→Addr)→(Nat→Tok)→(Nat→Value)→FT):(Nat→Addr)→(Nat→Tok)→(Nat→Value)→Nxt:=
 λC U O=>⟨sd (c' C U O) (α' C U O) (objs' C U O) (G1 C U O) (G2 C U O) nn nt nz (F' C U O),objs' C U O⟩
theorem c9(nx:∀C U O,Ok w (lv+1) (sd (c' C U O) (α' C U O) (objs' C U O) (G1 C U O) (G2 C U O) n1 n2 n3 (F' C U O)))(e:Nat)(tl:Nm→List Nat)(zl:Nm→List Value)(σ:(Nm→List Nat)→Nm→(Nat→Tok)→Nat→Tok)(n:Nat)(ZA:List It)
  (seg:∀ρ τ ζ,res objs.length [e] (iK (Tb w.params) ⟨pw,w.params⟩ (ay α ρ objs.length) τ ζ n c (aJ objs 0 .nil) objs.length 0 0 (itO ZA [.tl]) G)=
   let N:Nm:=⟨ay α ρ objs.length,τ,ζ⟩
   let x:=nxN c' α' objs' G1 G2 n1 n2 n3 F' (aa [N.r e]) (aa (tl N)) (aL (zl N))
   some ⟨.tail x.s.c,x.objs.take objs.length,[some ((x.objs.getD objs.length none).getD gF)],x.s.G,cZ (ay α ρ objs.length) (itO ZA [.tl]),itS N ZA⟩)
  (hs:∀N,bO w lv N ZA)
  (hF:∀N C U O,F (cut nn (fA (N.r e) C)) (cut nt (σ tl N U)) (aq nz O)=
   let x:=nxN c' α' objs' G1 G2 n1 n2 n3 F' (aa [N.r e]) (aa (tl N)) (aL (zl N))
   ⟨(x.s.F (cut x.s.nn C) (cut x.s.nt U) (aq x.s.nz O)).r,(x.s.F (cut x.s.nn C) (cut x.s.nt U) (aq x.s.nz O)).ups,some ((x.objs.getD objs.length none).getD gF)::(x.s.F (cut x.s.nn C) (cut x.s.nt U) (aq x.s.nz O)).news⟩)
  (hc:∀N C U O,bx ((F' (aa [N.r e]) (aa (tl N)) (aL (zl N)) C U O)).ups 0 objs ((objs' (aa [N.r e]) (aa (tl N)) (aL (zl N))).take objs.length):=by intro N C U O;repeat' (first | exact True.intro | exact Or.inl rfl | exact Or.inr rfl | apply And.intro))
  (hl:Nat.blt objs.length 1000000=true:=by kernel_rfl) (he:Nat.ble objs.length e=true:=by kernel_rfl)
  (Zo:∀C U O,(nxN c' α' objs' G1 G2 n1 n2 n3 F' C U O).s.pre=av (fg α objs.length (C 0)) ((objs' C U O).take objs.length++[some (((objs' C U O).getD objs.length none).getD gF)]) 0:=by exact λ_ _ _=>rfl)
  (hG:∀C U O,G2 C U O=G':=by exact λ_ _ _=>rfl) (hnn:nn=n1+1:=by rfl)
  (hu:∀C U O as' ZM zs',((F' C U O) as' ZM zs').ups.all (λp=>Nat.blt p.1 objs.length)=true:=by exact λ_ _ _ _ _ _=>rfl)
  (hso:∀C U O,((objs' C U O).take objs.length).all Option.isSome=true:=by exact λ_ _ _=>rfl):Ok w (lv+1) (sd c α objs G G' nn nt nz F):=
 uX ⟨sd c α objs G G' nn nt nz F,α,objs⟩ (nxN c' α' objs' G1 G2 n1 n2 n3 F') e tl zl (σ tl) n ZA seg hs nx hc hF rfl hl he Zo (λC U O _ _=>hG C U O) (λ_ _ _=>hnn) hu hso
noncomputable def j1(tl:Nm→List Nat):Nm→(Nat→Tok)→Nat→Tok:=λN=>fE ((tl N).getD 8 0) ((tl N).getD 9 0)
end
noncomputable abbrev NX(f:(Nat→Addr)→(Nat→Tok)→(Nat→Value)→Prop):Prop:=∀C U O,f C U O
noncomputable def pqB:Bool→List Nat
 | false=>[164,164,164,164]
 | true=>[]
end
section
open PySem PySem.W PySem.W.X PySem.Builtin
end
section
open PySem PySem.W PySem.W.X PySem.Builtin
noncomputable abbrev fQ(G:GP)(a2:Addr)(xs:List Value)(dd:Option Addr)(e2:Nat)(sl:Array (Option Value))(n:Nat)(x:Int)(tx:Tok)(zz:List It):List It:=
 .i (ub 9 0xa6a6a6a5a5a7a7a7a7)::.f [2] (λN=>cw G a2 xs dd e2 sl n (N.t 0) (.int x tx))::.i (ub 16 0xa6a6a6a5a5a7a7a7a7a5a7a7a7a7a7a7)::.f [2] (λN=>cw G a2 xs dd e2 sl n (N.t 0) (.int x tx))::.i (ub 6 0xa7a7a7a7a7a7)::zz
section
variable{w:World}{Z V:Bool}{G:GP}{a0 a1 a2 a3:Addr}{t1 t2:Tok}{e1:Nat}{xs:List Value}{dd:Option Addr}{e2:Nat}{sl:Array (Option Value)}{p0 p1 p2 p3:Int}{u0 u1 u2 u3:Tok}{n:Nat}{tk0:Tok}{v:Value}{m:Nat}{x:Int}{tx:Tok}{Mx:Nat}{q0 q1 q2 q3:Int}
theorem rr:Ok (W2 w Z V) 2 (eP (Pw w Z V) G a0 a1 a2 a3 t1 t2 [en w.params s_k tk0 v] e1 xs dd e2 sl (.int p0 u0) (.int p1 u1) (.int p2 u2) (.int p3 u3) n 0 (eQ w.params a2 a3 t1 t2 n p0 p1 p2 p3)):=
 okC [] 19 (λN=>[u0,u1,u2,u3,tk0,e1]) (λN=>[v])
 (.i (ub 6 0xa9a4a4a4a4a4)::[])
 (λ_ _ _=>by kernel_rfl) (λN=>trivial)
theorem va(hx:xs[n]? =some (.int x tx))(hn:n<2^20)(hm:Int.fmod (.ofNat n) 3=0)(nx:NX λC U O=>Ok (W2 w Z V) 2 (eP (Pw w Z V) G a0 a1 a2 a3 t1 t2 [en w.params s_k (U 0) (.int (.ofNat n) (U 1))] (U 2) xs dd e2 sl (.int (p0+x) (U 3)) (.int p1 u1) (.int p2 u2) (.int (p3+x) (U 4)) (n+1) m (eQ w.params a2 a3 t1 t2 Mx q0 q1 q2 q3))):Ok (W2 w Z V) 2 (eP (Pw w Z V) G a0 a1 a2 a3 t1 t2 [] e1 xs dd e2 sl (.int p0 u0) (.int p1 u1) (.int p2 u2) (.int p3 u3) n (m+1) (eQ w.params a2 a3 t1 t2 Mx q0 q1 q2 q3)):=
 aj nx (λN=>List.map N.r []) (λN=>[(N.t 1),(N.t 0),(e1+1),(N.t 4),(N.t 6)]) (λN=>[]) 90
 (.i [164]::.f [0] (λN=>aY G a0 n m)::.i (ub 4 0xa5a5a5a5)::.f [] (λN=>fp G (.ofNat n) 2 (N.t 0) (N.t 2) 0)::(fQ G a2 xs dd e2 sl n x tx []))
 (λ_ _ _=>by kernel_rfl) (λN=>⟨okU (aQ),okU (b0 hm),okU (aT hx hn),okU (aT hx hn),trivial⟩)
theorem u9(hx:xs[n]? =some (.int x tx))(hn:n<2^20)(hm:Int.fmod (.ofNat n) 3=0)(nx:NX λC U O=>Ok (W2 w Z V) 2 (eP (Pw w Z V) G a0 a1 a2 a3 t1 t2 [en w.params s_k (U 0) (.int (.ofNat n) (U 1))] (U 2) xs dd e2 sl (.int (p0+x) (U 3)) (.int p1 u1) (.int p2 u2) (.int (p3+x) (U 4)) (n+1) m (eQ w.params a2 a3 t1 t2 Mx q0 q1 q2 q3))):Ok (W2 w Z V) 2 (eP (Pw w Z V) G a0 a1 a2 a3 t1 t2 [en w.params s_k tk0 v] e1 xs dd e2 sl (.int p0 u0) (.int p1 u1) (.int p2 u2) (.int p3 u3) n (m+1) (eQ w.params a2 a3 t1 t2 Mx q0 q1 q2 q3)):=
 aj nx (λN=>List.map N.r []) (λN=>[tk0,(N.t 0),e1,(N.t 4),(N.t 6)]) (λN=>[]) 90
 (.i [164]::.f [0] (λN=>aY G a0 n m)::.i (ub 4 0xa5a5a5a5)::.f [] (λN=>fp G (.ofNat n) 2 (N.t 0) (N.t 2) 0)::(fQ G a2 xs dd e2 sl n x tx []))
 (λ_ _ _=>by kernel_rfl) (λN=>⟨okU (aQ),okU (b0 hm),okU (aT hx hn),okU (aT hx hn),trivial⟩)
theorem u8(hx:xs[n]? =some (.int x tx))(hn:n<2^20)(hm:Int.fmod (.ofNat n) 3=1)(nx:NX λC U O=>Ok (W2 w Z V) 2 (eP (Pw w Z V) G a0 a1 a2 a3 t1 t2 [en w.params s_k (U 0) (.int (.ofNat n) (U 1))] (U 2) xs dd e2 sl (.int p0 u0) (.int (p1+x) (U 3)) (.int p2 u2) (.int (p3+x) (U 4)) (n+1) m (eQ w.params a2 a3 t1 t2 Mx q0 q1 q2 q3))):Ok (W2 w Z V) 2 (eP (Pw w Z V) G a0 a1 a2 a3 t1 t2 [en w.params s_k tk0 v] e1 xs dd e2 sl (.int p0 u0) (.int p1 u1) (.int p2 u2) (.int p3 u3) n (m+1) (eQ w.params a2 a3 t1 t2 Mx q0 q1 q2 q3)):=
 aj nx (λN=>List.map N.r []) (λN=>[tk0,(N.t 0),e1,(N.t 4),(N.t 6)]) (λN=>[]) 90
 (.i [164]::.f [0] (λN=>aY G a0 n m)::.i (ub 4 0xa5a5a5a5)::.f [] (λN=>fp G (.ofNat n) 2 (N.t 0) (N.t 2) 1)::(fQ G a2 xs dd e2 sl n x tx []))
 (λ_ _ _=>by kernel_rfl) (λN=>⟨okU (aQ),okU (b0 hm),okU (aT hx hn),okU (aT hx hn),trivial⟩)
theorem u7(hx:xs[n]? =some (.int x tx))(hn:n<2^20)(hm:Int.fmod (.ofNat n) 3=2)(nx:NX λC U O=>Ok (W2 w Z V) 2 (eP (Pw w Z V) G a0 a1 a2 a3 t1 t2 [en w.params s_k (U 0) (.int (.ofNat n) (U 1))] (U 2) xs dd e2 sl (.int p0 u0) (.int p1 u1) (.int (p2+x) (U 3)) (.int (p3+x) (U 4)) (n+1) m (eQ w.params a2 a3 t1 t2 Mx q0 q1 q2 q3))):Ok (W2 w Z V) 2 (eP (Pw w Z V) G a0 a1 a2 a3 t1 t2 [en w.params s_k tk0 v] e1 xs dd e2 sl (.int p0 u0) (.int p1 u1) (.int p2 u2) (.int p3 u3) n (m+1) (eQ w.params a2 a3 t1 t2 Mx q0 q1 q2 q3)):=
 aj nx (λN=>List.map N.r []) (λN=>[tk0,(N.t 0),e1,(N.t 4),(N.t 6)]) (λN=>[]) 90
 (.i [164]::.f [0] (λN=>aY G a0 n m)::.i (ub 4 0xa5a5a5a5)::.f [] (λN=>fp G (.ofNat n) 2 (N.t 0) (N.t 2) 2)::(fQ G a2 xs dd e2 sl n x tx []))
 (λ_ _ _=>by kernel_rfl) (λN=>⟨okU (aQ),okU (b0 hm),okU (aT hx hn),okU (aT hx hn),trivial⟩)
end
noncomputable def vi:Value→Int
 | .int i _=>i
 | _=>0
noncomputable def aV(xs:List Value):Nat→Nat→Int × Int × Int × Int→Int × Int × Int × Int
 | 0,_,p=>p
 | m+1,n,p=>
  let x:=vi (xs[n]?.getD .none)
  aV xs m (n+1) (match n%3 with
   | 0=>(p.1+x,p.2.1,p.2.2.1,p.2.2.2+x)
   | 1=>(p.1,p.2.1+x,p.2.2.1,p.2.2.2+x)
   | _=>(p.1,p.2.1,p.2.2.1+x,p.2.2.2+x))
theorem lE(n k:Nat)(h:n%3=k):Int.fmod (.ofNat n) 3=.ofNat k:=by
 subst h
 rw[Int.fmod_eq_emod_of_nonneg _ (by decide)];rfl
theorem fG{w:World}{Z V:Bool}{G:GP}{a0 a1 a2 a3:Addr}{t1 t2:Tok}{xs:List Value}{dd:Option Addr}{e2:Nat}{sl:Array (Option Value)}:∀(m n:Nat) (e1:Nat) (p0 p1 p2 p3:Int) (u0 u1 u2 u3:Tok) (tk0:Tok) (v:Value),
  (∀q,q<n+m→∃i t,xs[q]? =some (.int i t))→n+m<2^20→
  Ok (W2 w Z V) 2 (eP (Pw w Z V) G a0 a1 a2 a3 t1 t2 [en w.params s_k tk0 v] e1 xs dd e2 sl (.int p0 u0) (.int p1 u1) (.int p2 u2) (.int p3 u3) n m
   (eQ w.params a2 a3 t1 t2 (n+m) (aV xs m n (p0,p1,p2,p3)).1 (aV xs m n (p0,p1,p2,p3)).2.1 (aV xs m n (p0,p1,p2,p3)).2.2.1 (aV xs m n (p0,p1,p2,p3)).2.2.2))
 | 0,n,e1,p0,p1,p2,p3,u0,u1,u2,u3,tk0,v,_,_=>rr
 | m+1,n,e1,p0,p1,p2,p3,u0,u1,u2,u3,tk0,v,H,hn=>by
  obtain⟨x,tx,hx⟩:=H n (by lia)
  have hv:vi (xs[n]?.getD .none)=x:=by rw[hx];rfl
  have H':∀q,q<n+1+m→∃i t,xs[q]? =some (.int i t):=λq hq=>H q (by lia)
  rw[show n+(m+1)=n+1+m by lia]
  have h3:n%3=0∨n%3=1∨n%3=2:=by lia
  rcases h3 with h3 | h3 | h3
  ·have e:aV xs (m+1) n (p0,p1,p2,p3)=aV xs m (n+1) (p0+x,p1,p2,p3+x):=by
    show aV xs m (n+1) _=_
    rw[h3,hv];rfl
   rw[e]
   exact u9 hx (by lia) (lE n 0 h3) λC U O=>fG m (n+1) _ _ _ _ _ _ _ _ _ _ _ H' (by lia)
  ·have e:aV xs (m+1) n (p0,p1,p2,p3)=aV xs m (n+1) (p0,p1+x,p2,p3+x):=by
    show aV xs m (n+1) _=_
    rw[h3,hv];rfl
   rw[e]
   exact u8 hx (by lia) (lE n 1 h3) λC U O=>fG m (n+1) _ _ _ _ _ _ _ _ _ _ _ H' (by lia)
  ·have e:aV xs (m+1) n (p0,p1,p2,p3)=aV xs m (n+1) (p0,p1,p2+x,p3+x):=by
    show aV xs m (n+1) _=_
    rw[h3,hv];rfl
   rw[e]
   exact u7 hx (by lia) (lE n 2 h3) λC U O=>fG m (n+1) _ _ _ _ _ _ _ _ _ _ _ H' (by lia)
theorem k7{w:World}{Z V:Bool}{G:GP}{a0 a1 a2 a3:Addr}{t1 t2:Tok}{xs:List Value}{dd:Option Addr}{e2:Nat}{sl:Array (Option Value)}{m e1:Nat}{p0 p1 p2 p3:Int}{u0 u1 u2 u3:Tok}
  (H:∀q,q<m+1→∃i t,xs[q]? =some (.int i t)) (hm:m<1000):
  Ok (W2 w Z V) 2 (eP (Pw w Z V) G a0 a1 a2 a3 t1 t2 [] e1 xs dd e2 sl (.int p0 u0) (.int p1 u1) (.int p2 u2) (.int p3 u3) 0 (m+1)
   (eQ w.params a2 a3 t1 t2 (m+1) (aV xs (m+1) 0 (p0,p1,p2,p3)).1 (aV xs (m+1) 0 (p0,p1,p2,p3)).2.1 (aV xs (m+1) 0 (p0,p1,p2,p3)).2.2.1 (aV xs (m+1) 0 (p0,p1,p2,p3)).2.2.2)):=by
 obtain⟨x,tx,hx⟩:=H 0 (by lia)
 have hv:vi (xs[0]?.getD .none)=x:=by rw[hx];rfl
 have e:aV xs (m+1) 0 (p0,p1,p2,p3)=aV xs m 1 (p0+x,p1,p2,p3+x):=by
  show aV xs m 1 _=_
  rw[hv];rfl
 rw[e]
 refine va hx (by lia) (lE 0 0 rfl) λC U O=>?_
 rw[show m+1=1+m by lia]
 exact fG m 1 _ _ _ _ _ _ _ _ _ _ _ (λq hq=>H q (by lia)) (by lia)
end
section
open PySem PySem.W PySem.W.X PySem.Builtin
noncomputable def rq(xs:List Value)(n:Nat):Int × Int × Int × Int:=aV xs n 0 (2,600,43,5)
noncomputable def fu(G:GP)(a:Addr)(xs:List Value)(dd:Option Addr)(e:Nat)(sl:Array (Option Value))(r:Int × Int × Int × Int):ac:=
 sd (.call (.ref 134) ⟨[.ref a],[]⟩) (aa [a]) [some ⟨.type "list",dd,.seq ⟨xs⟩ e,sl⟩] G G 1 4 0 λC U _=>⟨.ok (.ret (.ref (C 0))),[],[some (lO [.int r.1 (U 0),.int r.2.1 (U 1),.int r.2.2.1 (U 2),.int r.2.2.2 (U 3)] 0)]⟩
end
section
open PySem PySem.W PySem.W.X PySem.Builtin
section
variable{w:World}{Z V:Bool}{G:GP}{a:Addr}{dd:Option Addr}{e:Nat}{sl:Array (Option Value)}{x:Value}{xs:List Value}
theorem u6:Ok (W2 w Z V) 3 (fu G a [] dd e sl (2,600,43,5)):=
 okC [2] 179 (λN=>[(N.t 1),(N.t 2),(N.t 3),(N.t 4)]) (λN=>[])
 (.i (ub 64 0xacacacacacacacacaca9a9a9aba8a8a7a8a8a8a8a9a9a9a9a8a8a7a8a8a8a8a9a9a9a9a8a8a7a8a8a8a8a9a8a7a7a7a4a4a4a5000300030003a5a502a5a58586)::.i (ub 9 0xa5afadadadadadadac)::[])
 (sE (sg1 (by kernel_rfl)) Z) (λN=>trivial)
theorem u5(H:∀q,q<xs.length+1→∃i t,(x::xs)[q]? =some (.int i t))(hm:xs.length<1000)(hl:decide (Int.ofNat (xs.length+1)<60)=true)(hr:xs.length+1<2^20):Ok (W2 w Z V) 3 (fu G a (x::xs) dd e sl (rq (x::xs) (xs.length+1))):=
 okC [2] 143 (λN=>[(N.t 10),(N.t 11),(N.t 12),(N.t 13)]) (λN=>[])
 (.i (ub 14 0xa5000300030003a5a502a5a58586)::.f [0] (λN=>cx G a (x::xs) e dd sl)::.i (ub 23 0xa8a8a7a8a8a8a8a9a9a9a9a8a8a7a8a8a8a8a9a8a7a7a7)::.f [] (λN=>cLt G (.ofNat ((x::xs)).length) 60 (N.t 7) (N.t 6) true)::.i (ub 21 0xacacacacacaca9a9a9aba8a8a7a8a8a8a8a9a9a9a9)::.f [8] (λN=>ak G (N.r 8) ((x::xs)).length (N.t 8) (N.t 7) (N.t 9))::.i [173]::.f [9,1,0,2] (λN=>eP (Pw w Z V) G (N.r 9) (N.r 1) a (N.r 2) (N.t 0) (N.t 5) [] 2 (x::xs) dd e sl (.int 2 (N.t 1)) (.int 600 (N.t 2)) (.int 43 (N.t 3)) (.int 5 (N.t 4)) 0 ((xs).length+1) (eQ (w).params a (N.r 2) (N.t 0) (N.t 5) ((xs).length+1) ((aV (x::xs) ((xs).length+1) 0 (2,(600,(43,5))))).1 (((aV (x::xs) ((xs).length+1) 0 (2,(600,(43,5))))).2).1 ((((aV (x::xs) ((xs).length+1) 0 (2,(600,(43,5))))).2).2).1 ((((aV (x::xs) ((xs).length+1) 0 (2,(600,(43,5))))).2).2).2))::.i [165]::[])
 (sE (sg1 (by kernel_rfl)) Z) (λN=>⟨okU (du hr),okU (kLt hl),okU (ap hr),okU (k7 H hm),trivial⟩)
theorem uZ(H:∀q,q<59+1→∃i t,(x::xs)[q]? =some (.int i t))(hl:decide (Int.ofNat (xs.length+1)<60)=false)(hr:xs.length+1<2^20):Ok (W2 w Z V) 3 (fu G a (x::xs) dd e sl (rq (x::xs) 60)):=
 okC [2] 140 (λN=>[(N.t 10),(N.t 11),(N.t 12),(N.t 13)]) (λN=>[])
 (.i (ub 14 0xa5000300030003a5a502a5a58586)::.f [0] (λN=>cx G a (x::xs) e dd sl)::.i (ub 23 0xa8a8a7a8a8a8a8a9a9a9a9a8a8a7a8a8a8a8a9a8a7a7a7)::.f [] (λN=>cLt G (.ofNat ((x::xs)).length) 60 (N.t 7) (N.t 6) false)::.i (ub 18 0xacacacacacaca9a9a9aba8a8a7a8a8a8a8a9)::.f [8] (λN=>ak G (N.r 8) 60 (N.t 8) (N.t 6) (N.t 9))::.i [173]::.f [9,1,0,2] (λN=>eP (Pw w Z V) G (N.r 9) (N.r 1) a (N.r 2) (N.t 0) (N.t 5) [] 2 (x::xs) dd e sl (.int 2 (N.t 1)) (.int 600 (N.t 2)) (.int 43 (N.t 3)) (.int 5 (N.t 4)) 0 (59+1) (eQ (w).params a (N.r 2) (N.t 0) (N.t 5) (59+1) ((aV (x::xs) (59+1) 0 (2,(600,(43,5))))).1 (((aV (x::xs) (59+1) 0 (2,(600,(43,5))))).2).1 ((((aV (x::xs) (59+1) 0 (2,(600,(43,5))))).2).2).1 ((((aV (x::xs) (59+1) 0 (2,(600,(43,5))))).2).2).2))::.i [165]::[])
 (sE (sg1 (by kernel_rfl)) Z) (λN=>⟨okU (du hr),okU (kLt hl),okU (ap),okU (k7 H (by first | assumption | lia | (simp only[List.length_cons,List.length_nil];lia) | decide)),trivial⟩)
end
noncomputable def kx(xs:List Value):Int × Int × Int × Int:=rq xs (min 60 xs.length)
theorem uY{w:World}{Z V:Bool}{G:GP}{a:Addr}{xs:List Value}{dd:Option Addr}{e:Nat}{sl:Array (Option Value)}(hx:∀v∈xs,∃i t,v=.int i t)(hl:xs.length≤63):Ok (W2 w Z V) 3 (fu G a xs dd e sl (kx xs)):=by
 have at_:∀q,q<xs.length→∃i t,xs[q]? =some (.int i t):=λq hq=>by
  obtain⟨i,t,e⟩:=hx _ (List.getElem_mem hq)
  exact⟨i,t,by rw[List.getElem?_eq_getElem hq,e]⟩
 cases xs with
 | nil=>exact u6
 | cons x xs=>
  rw[List.length_cons]at hl at_
  unfold kx
  rw[List.length_cons]
  by_cases h:xs.length+1<60
  ·rw[Nat.min_eq_right (by lia)]
   exact u5 at_ (by lia) (decide_eq_true (by show((xs.length+1:Nat):Int)<60;lia)) (by lia)
  ·rw[Nat.min_eq_left (by lia)]
   exact uZ (λq hq=>at_ q (by lia)) (decide_eq_false (by show ¬((xs.length+1:Nat):Int)<60;lia)) (by lia)
end
section
open PySem PySem.W PySem.W.X PySem.Builtin
noncomputable def mJ(G:GP)(x y:Int)(t u:Tok)(v:Int):ac:=cB "min" [.int x t,.int y u] [] G 0 1 λ_ U _=>rV (.int v (U 0))
end
section
open PySem PySem.W PySem.W.X PySem.Builtin
section
variable{w:World}{Z V:Bool}{G:GP}{x y:Int}{t u:Tok}
theorem Bm(h:decide (y<x)=true):Ok (W2 w Z V) 2 (mJ G x y t u y):=
 okS (⟨mJ G x y t u y,aa [],[]⟩) [] 72 (λN=>[u]) (λN=>[])
 (.i (ub 23 0xa5a5a4a5a5a5a5a6a6a6a6a5a5a4a5a5a5a5a6a5a4a4a4)::.f [] (λN=>cLt G y x u t true)::.i (ub 15 0xa6a6a6a8a5a5a4a5a5a5a5a6a6a6a6)::[])
 (sE (sg1 (by kernel_rfl)) Z) (λN=>⟨okU (kLt h),trivial⟩)
theorem Bl(h:decide (y<x)=false):Ok (W2 w Z V) 2 (mJ G x y t u x):=
 okS (⟨mJ G x y t u x,aa [],[]⟩) [] 69 (λN=>[t]) (λN=>[])
 (.i (ub 23 0xa5a5a4a5a5a5a5a6a6a6a6a5a5a4a5a5a5a5a6a5a4a4a4)::.f [] (λN=>cLt G y x u t false)::.i (ub 12 0xa6a6a6a8a5a5a4a5a5a5a5a6)::[])
 (sE (sg1 (by kernel_rfl)) Z) (λN=>⟨okU (kLt h),trivial⟩)
end
theorem BB{w:World}{Z V:Bool}{G:GP}{x y:Int}{t u:Tok}{v:Int}(h:(if y<x then y else x)=v):Ok (W2 w Z V) 2 (mJ G x y t u v):=by
 subst h
 split
 ·exact Bm (decide_eq_true ‹_›)
 ·exact Bl (decide_eq_false ‹_›)
end
section
open PySem PySem.W PySem.W.X PySem.Builtin
noncomputable def rfs(C:Nat→Addr):Nat→Nat→List Value
 | 0,_=>[]
 | n+1,j=>.ref (C j)::rfs C n (j+1)
noncomputable def pb(U:Nat→Tok):List (Int × Int)→Nat→List (Option Obj)
 | [],_=>[]
 | p::l,j=>some (tuO [.int p.1 (U (2*j)),.int p.2 (U (2*j+1))])::pb U l (j+1)
noncomputable abbrev gc:List Nat:=[114,117,108,101,114,115]
noncomputable abbrev rQ:List Nat:=[114,101,115,116]
noncomputable abbrev kB:List Nat:=[115,105,122,101]
noncomputable abbrev la:List Nat:=[112,97,114,116,115]
noncomputable abbrev bS:List Nat:=[102,105,114,115,116]
noncomputable abbrev cE:List Nat:=[115,116,101,112]
noncomputable def vO:PySem.Expr:=exV (b4 (bdW (b4 (bdS (stA 12)) 2)) 2)
noncomputable def pn(P:Params)(first step:Int)(parts:Nat)(u1 u2 u3:Tok)(e0 e1:Nat):List (Option Obj):=
 [some (riO 0 (.ofNat parts) 1),some (lO [] e0),some (diO [] e1),some (ceO (some (.int (.ofNat parts) u1))),some (ceO (some (.int first u2))),some (ceO (some (.int step u3)))]
noncomputable def l9(P:Params)(G:GP)(it Z9 D c1 c2 c3 a1:Addr)(first step:Int)(parts:Nat)(u1 u2 u3:Tok)(e0 e1:Nat)(l:List (Int × Int)):ac:=
 sd (.compStart vO 0 (.ref it) (.ref Z9) (g7 (stA 12) vO 138 a1 D [(mS cE,c3),(mS la,c1),(mS bS,c2)])) (aa [it,Z9,D,c1,c2,c3]) (pn P first step parts u1 u2 u3 e0 e1) G G l.length (2*l.length+3) 1
  λC U O=>⟨.ok .next,[(0,riO (.ofNat parts) 0 1),(1,lO (rfs C l.length 0) (U (2*l.length))),(2,diO [en P s_k (U (2*l.length+1)) (O 0)] (U (2*l.length+2)))],pb U l 0⟩
end
section
open PySem PySem.W PySem.W.X PySem.Builtin
section
variable{w:World}{Z V:Bool}{G:GP}{it Z9 D c1 c2 c3 a1:Addr}{first step:Int}{u1 u2 u3:Tok}{e0 e1:Nat}
theorem zF:Ok (W2 w Z V) 2 (l9 (Pw w Z V) G it Z9 D c1 c2 c3 a1 first step 2 u1 u2 u3 e0 e1 [(first+0*step,2*step),(first+1*step,2*step)]):=
 okC [6,7] 130 (λN=>[(N.t 3),(N.t 4),(N.t 8),(N.t 9),((e0+1)+1),(N.t 1),(e1+1)]) (λN=>[(.int 1 (N.t 5))])
 (.i (pqB V)::.i (ub 14 0xa9a6a8a6a6a4a4a4a4a4a4a4a4a4)::.f [] (λN=>fm G 0 step (N.t 0) u3)::.i [167,169]::.f [] (λN=>fm G 2 step u1 u3)::.i (ub 18 0xa9a6a8a6a6a4a4a4a4a4a4a4a4a4a5a5a5a5)::.f [] (λN=>fm G 1 step (N.t 5) u3)::.i [167,169]::.f [] (λN=>fm G 2 step u1 u3)::.i (ub 10 0xada4a4a4a4a4a5a5a5a5)::[])
 (sF (sg2 (by kernel_rfl)) Z V) (λN=>⟨okU (eJ),okU (eJ),okU (eJ),okU (eJ),trivial⟩)
theorem zE:Ok (W2 w Z V) 2 (l9 (Pw w Z V) G it Z9 D c1 c2 c3 a1 first step 3 u1 u2 u3 e0 e1 [(first+0*step,3*step),(first+1*step,3*step),(first+2*step,3*step)]):=
 okC [6,7,8] 180 (λN=>[(N.t 3),(N.t 4),(N.t 8),(N.t 9),(N.t 13),(N.t 14),(((e0+1)+1)+1),(N.t 1),(e1+1)]) (λN=>[(.int 2 (N.t 10))])
 (.i (pqB V)::.i (ub 14 0xa9a6a8a6a6a4a4a4a4a4a4a4a4a4)::.f [] (λN=>fm G 0 step (N.t 0) u3)::.i [167,169]::.f [] (λN=>fm G 3 step u1 u3)::.i (ub 18 0xa9a6a8a6a6a4a4a4a4a4a4a4a4a4a5a5a5a5)::.f [] (λN=>fm G 1 step (N.t 5) u3)::.i [167,169]::.f [] (λN=>fm G 3 step u1 u3)::.i (ub 18 0xa9a6a8a6a6a4a4a4a4a4a4a4a4a4a5a5a5a5)::.f [] (λN=>fm G 2 step (N.t 10) u3)::.i [167,169]::.f [] (λN=>fm G 3 step u1 u3)::.i (ub 10 0xaea4a4a4a4a4a5a5a5a5)::[])
 (sF (sg2 (by kernel_rfl)) Z V) (λN=>⟨okU (eJ),okU (eJ),okU (eJ),okU (eJ),okU (eJ),okU (eJ),trivial⟩)
end
variable{w:World}{Z V:Bool}{G:GP}{it Z9 c1 c2 c3 a1:Addr}{first step:Int}{u1 u2 u3:Tok}{e0 e1:Nat}
theorem xC{D:Addr}:
  Ok (W2 w Z V) 2 (l9 (Pw w Z V) G it Z9 D c1 c2 c3 a1 first step 2 u1 u2 u3 e0 e1 [(first+0*step,2*step),(first+1*step,2*step)]):=zF
theorem xB{D:Addr}:
  Ok (W2 w Z V) 2 (l9 (Pw w Z V) G it Z9 D c1 c2 c3 a1 first step 3 u1 u2 u3 e0 e1 [(first+0*step,3*step),(first+1*step,3*step),(first+2*step,3*step)]):=zE
end
section
open PySem PySem.W PySem.W.X PySem.Builtin
noncomputable def vT(a1 c1 c2 c3:Addr):Env:={kX (stA 12) 139 138 a1 with cells:=[(mS cE,c3),(mS bS,c2),(mS la,c1)]}
noncomputable def vS(P:Params)(t1 t2 t3 t4:Tok)(a a6:Addr)(Z5 size:Value)(e:Nat):Obj:=
 frO [en P bt t1 (.ref a),en P rQ t3 Z5,en P gc t2 (.ref a6),en P kB t4 size] e
noncomputable def r9(P:Params)(a a5 a6:Addr)(t1 t2 t3 t4 t5 t6 t7 t8:Tok)(Z5:Int)(size:Nat)(e e6:Nat):List (Option Obj):=
 [some (vS P t1 t2 t3 t4 a a6 (.int Z5 t5) (.int (.ofNat size) t6) e),some (ceO none),some (ceO none),some (ceO none),some (tuO [.int 1 t7,.int 1 t8]),some (lO [.ref a5] e6)]
noncomputable def ruS(P:Params)(G:GP)(a a1 c1 c2 c3 a5 a6:Addr)(t1 t2 t3 t4 t5 t6 t7 t8:Tok)(Z5:Int)(size:Nat)(e e6:Nat)(l:List (Int × Int)):ac:=
 sd (bN (b4 (bdS (stA 12)) 2) (vT a1 c1 c2 c3)) (aa [a1,c1,c2,c3,a5,a6]) (r9 P a a5 a6 t1 t2 t3 t4 t5 t6 t7 t8 Z5 size e e6) G G l.length (2*l.length+2) 4
  λC U O=>⟨.ok .next,[(0,vS P t1 t2 t3 t4 a a6 (O 0) (.int (.ofNat size) t6) (U (2*l.length))),(1,ceO (some (O 1))),(2,ceO (some (O 2))),(3,ceO (some (O 3))),(5,lO (rfs C l.length 0) (U (2*l.length+1)))],pb U l 0⟩
end
section
open PySem PySem.W PySem.W.X PySem.Builtin
structure Rl where
 o:Nat
 t:Nm→Nat
 u:Nm→Nat
 f:Int
 s:Int
noncomputable def rlD:Rl:=⟨0,λ_=>0,λ_=>0,0,0⟩
noncomputable abbrev rlr(o t:Nat)(f s:Int):Rl:=⟨o,λN=>N.t t,λN=>N.t (t+1),f,s⟩
noncomputable def rcL(f s:Int):Nat→List (Int × Int)
 | 0=>[(f+0*s,2*s),(f+1*s,2*s)]
 | _=>[(f+0*s,3*s),(f+1*s,3*s),(f+2*s,3*s)]
noncomputable abbrev rlR(c:List Rl)(N:Nm):List Value:=c.map λr=>.ref (N.r r.o)
noncomputable abbrev rlB(P:Params)(G:GP)(a6 c1 c2 c3 a1:Addr)(n m i o:Nat)(x:Int)(ib tb:Nat)(c:List Rl)(e:Nm→Nat)(zz:List It):List It:=
 .f [5] (λN=>cx G a6 (rlR c N) (e N) none (mA []))::.i (ub 8 0xa40003a4a40003a4)::.f [5] (λN=>cx G a6 (rlR c N) (e N) none (mA []))::.n::.n::.f [] (λN=>mJ G (Int.fmod x 2) (.ofNat (n-c.length-1)) (N.t tb) (N.t (tb+4)) (.ofNat m))::.i (ub 11 0xa40003a4a9a9a9a9a4a5a5)::.f [5] (λN=>cx G a6 (rlR c N) (e N) none (mA []))::.f [] (λN=>fp G (Int.fdiv x 2) (c.length-1) (N.t (tb+8)) (N.t (tb+9)) (.ofNat i))::.i (ub 51 (0xa4a3a3a3a3a3a3a3a3a3a3a50003a4a7a7a6a6a2a0a0a4a0a0a0a0a0a0a4a0a0a0a0a0a0a4a0a0a0a0a0a4a4a4a4a9a9a9a9a9+ib*0x10101010101010101010100000000000000000101010001010101010100010101010101000101010101000000000000000000+o*0x100000000000001000000000000010000000000010101010000000000))::.f [ib,ib+1,ib+2,1,2,3] (λN=>l9 P G (N.r ib) (N.r (ib+1)) (N.r (ib+2)) c1 c2 c3 a1 (c.getD i rlD).f (c.getD i rlD).s (m+2) (N.t (tb+6)) ((c.getD i rlD).t N) ((c.getD i rlD).u N) 0 0 (rcL (c.getD i rlD).f (c.getD i rlD).s m))::.i (ub 6 (0xa5a9a9a6a6a6+ib*0x10000010101))::.f [5,ib+1] (λN=>q8 G a6 (N.r (ib+1)) (rlR (c.eraseIdx i) N) ((List.range (m+2)).map λj=>.ref (N.r (ib+3+j))) (e N+1) (N.t (tb+13+2*(m+2))))::.i (ub 8 0xa40003a4a4a4a4a4)::zz
noncomputable abbrev rlY(G:GP)(a6:Addr)(c:List Rl)(t:Nat):List It:=
 .f [5] (λN=>cx G a6 (rlR c N) (N.t t) none (mA []))::.i [164]::[]
noncomputable def ck(n:Nat):List (Nat × Nat)→Int→Nat→Prop
 | [],_,_=>True
 | (m,i)::L,x,k=>(if(.ofNat (n-k-1):Int)<Int.fmod x 2 then .ofNat (n-k-1)else Int.fmod x 2)=.ofNat m∧Int.fmod (Int.fdiv x 2) (.ofNat k)=.ofNat i∧ck n L (Int.fdiv x 12) (k+m+1)
section
variable{w:World}{Z V:Bool}{G:GP}{a a1 c1 c2 c3 a5 a6:Addr}{t1 t2 t3 t4 t5 t6 t7 t8:Tok}{Z5:Int}{e e6:Nat}
theorem rlH{n m i o k:Nat}{N:Nm}{L:List (Nat × Nat)}{x:Int}{ib tb:Nat}{c:List Rl}{E:Nm→Nat}{zz:List It}(h:ck n ((m,i)::L) x k)(hk:c.length=k)(h2:m<2)(hi:i<k)(hl:k<1000)(hz:ck n L (Int.fdiv x 12) (k+m+1)→bO (W2 w Z V) 3 N zz):bO (W2 w Z V) 3 N (rlB (Pw w Z V) G a6 c1 c2 c3 a1 n m i o x ib tb c E zz):=by
 obtain⟨hm,hj,hr⟩:=h
 subst hk
 have hL:(rlR c N).length<2^20:=by rw[List.length_map];exact Nat.lt_trans hl (by decide)
 have e0:((c.eraseIdx i).length)=c.length-1:=List.length_eraseIdx_of_lt hi
 have hc:Ok (W2 w Z V) 3 (l9 (Pw w Z V) G (N.r ib) (N.r (ib+1)) (N.r (ib+2)) c1 c2 c3 a1 (c.getD i rlD).f (c.getD i rlD).s (m+2) (N.t (tb+6)) ((c.getD i rlD).t N) ((c.getD i rlD).u N) 0 0 (rcL (c.getD i rlD).f (c.getD i rlD).s m)):=by
  match m,h2 with
  | 0,_=>exact okU xC
  | 1,_=>exact okU xB
 exact⟨okU (du hL),okU (du hL),okU (BB hm),okU (du hL),okU (b0 (by rw[Nat.sub_add_cancel (by lia)];exact hj)),hc,okU (xK (by rw[List.length_map,e0];lia) (by rw[List.length_map,List.length_range];lia)),hz hr⟩
theorem rl2{n m i k:Nat}{L:List (Nat × Nat)}{x:Int}(hm:(if(.ofNat (n-k-1):Int)<Int.fmod x 2 then .ofNat (n-k-1)else Int.fmod x 2)=.ofNat m)(hi:Int.fmod (Int.fdiv x 2) (.ofNat k)=.ofNat i)(h:ck n L (Int.fdiv x 12) (k+m+1)):ck n ((m,i)::L) x k:=⟨hm,hi,h⟩
noncomputable abbrev rlT(N:Nm)(l:List Nat):List Nat:=l.flatMap λt=>[N.t t,N.t (t+1)]
noncomputable abbrev rl0(t7 t8:Tok):List Rl:=[⟨4,λ_=>t7,λ_=>t8,1,1⟩]
noncomputable abbrev rlX(P:Params)(G:GP)(a6 c1 c2 c3 a1:Addr)(n m i:Nat)(x:Int)(t7 t8:Tok)(e6:Nat)(zz:List It):List It:=
 .i [3,0,164]::rlB P G a6 c1 c2 c3 a1 n m i 4 x 10 3 (rl0 t7 t8) (λ_=>e6) zz
theorem d9{n m i:Nat}{x:Int}{N:Nm}{zz:List It}(h:bO (W2 w Z V) 3 N (rlB (Pw w Z V) G a6 c1 c2 c3 a1 n m i 4 x 10 3 (rl0 t7 t8) (λ_=>e6) zz)):bO (W2 w Z V) 3 N (rlX (Pw w Z V) G a6 c1 c2 c3 a1 n m i x t7 t8 e6 zz):=h
theorem d8{t:Nat}{N:Nm}{c:List Rl}(hc:c.length<1000):bO (W2 w Z V) 3 N (rlY G a6 c t):=
 ⟨okU (du (by rw[List.length_map];exact Nat.lt_trans hc (by decide))),trivial⟩
theorem sx(h:ck 2 [(0,0)] Z5 1):Ok (W2 w Z V) 4 (ruS (Pw w Z V) G a a1 c1 c2 c3 a5 a6 t1 t2 t3 t4 t5 t6 t7 t8 Z5 2 e e6 [(1,2),(2,2)]):=
 okC [13,14] 251 (λN=>rlT N [16,18]++[e,N.t 23]) (λN=>[.int (Int.fdiv Z5 12) (N.t 26),.int 2 (N.t 9),.int 1 t7,.int 1 t8])
 (rlX (Pw w Z V) G a6 c1 c2 c3 a1 2 0 0 Z5 t7 t8 e6 (rlY G a6 [rlr 13 16 1 2,rlr 14 18 2 2] 23)) (sE (sg1 (by kernel_rfl)) Z) (λ_=>d9 <| rlH h rfl (by decide) (by decide) (by decide) λh=>d8 (by decide))
theorem sw(h:ck 3 [(0,0),(0,0)] Z5 1):Ok (W2 w Z V) 4 (ruS (Pw w Z V) G a a1 c1 c2 c3 a5 a6 t1 t2 t3 t4 t5 t6 t7 t8 Z5 3 e e6 [(2,2),(1,4),(3,4)]):=
 okC [14,22,23] 483 (λN=>rlT N [18,44,46]++[e,N.t 51]) (λN=>[.int (Int.fdiv (Int.fdiv Z5 12) 12) (N.t 54),.int 2 (N.t 37),.int 1 (N.t 16),.int 2 (N.t 17)])
 (rlX (Pw w Z V) G a6 c1 c2 c3 a1 3 0 0 Z5 t7 t8 e6 (rlB (Pw w Z V) G a6 c1 c2 c3 a1 3 0 0 13 (Int.fdiv Z5 12) 19 31 [rlr 13 16 1 2,rlr 14 18 2 2] (λN=>N.t 23) (rlY G a6 [rlr 14 18 2 2,rlr 22 44 1 4,rlr 23 46 3 4] 51))) (sE (sg1 (by kernel_rfl)) Z) (λ_=>d9 <| rlH h rfl (by decide) (by decide) (by decide) λh=>rlH h rfl (by decide) (by decide) (by decide) λh=>d8 (by decide))
theorem sv(h:ck 3 [(0,0),(0,1)] Z5 1):Ok (W2 w Z V) 4 (ruS (Pw w Z V) G a a1 c1 c2 c3 a5 a6 t1 t2 t3 t4 t5 t6 t7 t8 Z5 3 e e6 [(1,2),(2,4),(4,4)]):=
 okC [13,22,23] 483 (λN=>rlT N [16,44,46]++[e,N.t 51]) (λN=>[.int (Int.fdiv (Int.fdiv Z5 12) 12) (N.t 54),.int 2 (N.t 37),.int 2 (N.t 18),.int 2 (N.t 19)])
 (rlX (Pw w Z V) G a6 c1 c2 c3 a1 3 0 0 Z5 t7 t8 e6 (rlB (Pw w Z V) G a6 c1 c2 c3 a1 3 0 1 14 (Int.fdiv Z5 12) 19 31 [rlr 13 16 1 2,rlr 14 18 2 2] (λN=>N.t 23) (rlY G a6 [rlr 13 16 1 2,rlr 22 44 2 4,rlr 23 46 4 4] 51))) (sE (sg1 (by kernel_rfl)) Z) (λ_=>d9 <| rlH h rfl (by decide) (by decide) (by decide) λh=>rlH h rfl (by decide) (by decide) (by decide) λh=>d8 (by decide))
theorem su(h:ck 3 [(1,0)] Z5 1):Ok (W2 w Z V) 4 (ruS (Pw w Z V) G a a1 c1 c2 c3 a5 a6 t1 t2 t3 t4 t5 t6 t7 t8 Z5 3 e e6 [(1,3),(2,3),(3,3)]):=
 okC [13,14,15] 251 (λN=>rlT N [16,18,20]++[e,N.t 25]) (λN=>[.int (Int.fdiv Z5 12) (N.t 28),.int 3 (N.t 9),.int 1 t7,.int 1 t8])
 (rlX (Pw w Z V) G a6 c1 c2 c3 a1 3 1 0 Z5 t7 t8 e6 (rlY G a6 [rlr 13 16 1 3,rlr 14 18 2 3,rlr 15 20 3 3] 25)) (sE (sg1 (by kernel_rfl)) Z) (λ_=>d9 <| rlH h rfl (by decide) (by decide) (by decide) λh=>d8 (by decide))
theorem ss(h:ck 4 [(0,0),(0,0),(0,0)] Z5 1):Ok (W2 w Z V) 4 (ruS (Pw w Z V) G a a1 c1 c2 c3 a5 a6 t1 t2 t3 t4 t5 t6 t7 t8 Z5 4 e e6 [(1,4),(3,4),(2,4),(4,4)]):=
 okC [22,23,31,32] 715 (λN=>rlT N [44,46,72,74]++[e,N.t 79]) (λN=>[.int (Int.fdiv (Int.fdiv (Int.fdiv Z5 12) 12) 12) (N.t 82),.int 2 (N.t 65),.int 2 (N.t 18),.int 2 (N.t 19)])
 (rlX (Pw w Z V) G a6 c1 c2 c3 a1 4 0 0 Z5 t7 t8 e6 (rlB (Pw w Z V) G a6 c1 c2 c3 a1 4 0 0 13 (Int.fdiv Z5 12) 19 31 [rlr 13 16 1 2,rlr 14 18 2 2] (λN=>N.t 23) (rlB (Pw w Z V) G a6 c1 c2 c3 a1 4 0 0 14 (Int.fdiv (Int.fdiv Z5 12) 12) 28 59 [rlr 14 18 2 2,rlr 22 44 1 4,rlr 23 46 3 4] (λN=>N.t 51) (rlY G a6 [rlr 22 44 1 4,rlr 23 46 3 4,rlr 31 72 2 4,rlr 32 74 4 4] 79)))) (sE (sg1 (by kernel_rfl)) Z) (λ_=>d9 <| rlH h rfl (by decide) (by decide) (by decide) λh=>rlH h rfl (by decide) (by decide) (by decide) λh=>rlH h rfl (by decide) (by decide) (by decide) λh=>d8 (by decide))
theorem sr(h:ck 4 [(0,0),(0,0),(0,1)] Z5 1):Ok (W2 w Z V) 4 (ruS (Pw w Z V) G a a1 c1 c2 c3 a5 a6 t1 t2 t3 t4 t5 t6 t7 t8 Z5 4 e e6 [(2,2),(3,4),(1,8),(5,8)]):=
 okC [14,23,31,32] 715 (λN=>rlT N [18,46,72,74]++[e,N.t 79]) (λN=>[.int (Int.fdiv (Int.fdiv (Int.fdiv Z5 12) 12) 12) (N.t 82),.int 2 (N.t 65),.int 1 (N.t 44),.int 4 (N.t 45)])
 (rlX (Pw w Z V) G a6 c1 c2 c3 a1 4 0 0 Z5 t7 t8 e6 (rlB (Pw w Z V) G a6 c1 c2 c3 a1 4 0 0 13 (Int.fdiv Z5 12) 19 31 [rlr 13 16 1 2,rlr 14 18 2 2] (λN=>N.t 23) (rlB (Pw w Z V) G a6 c1 c2 c3 a1 4 0 1 22 (Int.fdiv (Int.fdiv Z5 12) 12) 28 59 [rlr 14 18 2 2,rlr 22 44 1 4,rlr 23 46 3 4] (λN=>N.t 51) (rlY G a6 [rlr 14 18 2 2,rlr 23 46 3 4,rlr 31 72 1 8,rlr 32 74 5 8] 79)))) (sE (sg1 (by kernel_rfl)) Z) (λ_=>d9 <| rlH h rfl (by decide) (by decide) (by decide) λh=>rlH h rfl (by decide) (by decide) (by decide) λh=>rlH h rfl (by decide) (by decide) (by decide) λh=>d8 (by decide))
theorem sq(h:ck 4 [(0,0),(0,0),(0,2)] Z5 1):Ok (W2 w Z V) 4 (ruS (Pw w Z V) G a a1 c1 c2 c3 a5 a6 t1 t2 t3 t4 t5 t6 t7 t8 Z5 4 e e6 [(2,2),(1,4),(3,8),(7,8)]):=
 okC [14,22,31,32] 715 (λN=>rlT N [18,44,72,74]++[e,N.t 79]) (λN=>[.int (Int.fdiv (Int.fdiv (Int.fdiv Z5 12) 12) 12) (N.t 82),.int 2 (N.t 65),.int 3 (N.t 46),.int 4 (N.t 47)])
 (rlX (Pw w Z V) G a6 c1 c2 c3 a1 4 0 0 Z5 t7 t8 e6 (rlB (Pw w Z V) G a6 c1 c2 c3 a1 4 0 0 13 (Int.fdiv Z5 12) 19 31 [rlr 13 16 1 2,rlr 14 18 2 2] (λN=>N.t 23) (rlB (Pw w Z V) G a6 c1 c2 c3 a1 4 0 2 23 (Int.fdiv (Int.fdiv Z5 12) 12) 28 59 [rlr 14 18 2 2,rlr 22 44 1 4,rlr 23 46 3 4] (λN=>N.t 51) (rlY G a6 [rlr 14 18 2 2,rlr 22 44 1 4,rlr 31 72 3 8,rlr 32 74 7 8] 79)))) (sE (sg1 (by kernel_rfl)) Z) (λ_=>d9 <| rlH h rfl (by decide) (by decide) (by decide) λh=>rlH h rfl (by decide) (by decide) (by decide) λh=>rlH h rfl (by decide) (by decide) (by decide) λh=>d8 (by decide))
theorem sp(h:ck 4 [(0,0),(0,1),(0,0)] Z5 1):Ok (W2 w Z V) 4 (ruS (Pw w Z V) G a a1 c1 c2 c3 a5 a6 t1 t2 t3 t4 t5 t6 t7 t8 Z5 4 e e6 [(2,4),(4,4),(1,4),(3,4)]):=
 okC [22,23,31,32] 715 (λN=>rlT N [44,46,72,74]++[e,N.t 79]) (λN=>[.int (Int.fdiv (Int.fdiv (Int.fdiv Z5 12) 12) 12) (N.t 82),.int 2 (N.t 65),.int 1 (N.t 16),.int 2 (N.t 17)])
 (rlX (Pw w Z V) G a6 c1 c2 c3 a1 4 0 0 Z5 t7 t8 e6 (rlB (Pw w Z V) G a6 c1 c2 c3 a1 4 0 1 14 (Int.fdiv Z5 12) 19 31 [rlr 13 16 1 2,rlr 14 18 2 2] (λN=>N.t 23) (rlB (Pw w Z V) G a6 c1 c2 c3 a1 4 0 0 13 (Int.fdiv (Int.fdiv Z5 12) 12) 28 59 [rlr 13 16 1 2,rlr 22 44 2 4,rlr 23 46 4 4] (λN=>N.t 51) (rlY G a6 [rlr 22 44 2 4,rlr 23 46 4 4,rlr 31 72 1 4,rlr 32 74 3 4] 79)))) (sE (sg1 (by kernel_rfl)) Z) (λ_=>d9 <| rlH h rfl (by decide) (by decide) (by decide) λh=>rlH h rfl (by decide) (by decide) (by decide) λh=>rlH h rfl (by decide) (by decide) (by decide) λh=>d8 (by decide))
theorem so(h:ck 4 [(0,0),(0,1),(0,1)] Z5 1):Ok (W2 w Z V) 4 (ruS (Pw w Z V) G a a1 c1 c2 c3 a5 a6 t1 t2 t3 t4 t5 t6 t7 t8 Z5 4 e e6 [(1,2),(4,4),(2,8),(6,8)]):=
 okC [13,23,31,32] 715 (λN=>rlT N [16,46,72,74]++[e,N.t 79]) (λN=>[.int (Int.fdiv (Int.fdiv (Int.fdiv Z5 12) 12) 12) (N.t 82),.int 2 (N.t 65),.int 2 (N.t 44),.int 4 (N.t 45)])
 (rlX (Pw w Z V) G a6 c1 c2 c3 a1 4 0 0 Z5 t7 t8 e6 (rlB (Pw w Z V) G a6 c1 c2 c3 a1 4 0 1 14 (Int.fdiv Z5 12) 19 31 [rlr 13 16 1 2,rlr 14 18 2 2] (λN=>N.t 23) (rlB (Pw w Z V) G a6 c1 c2 c3 a1 4 0 1 22 (Int.fdiv (Int.fdiv Z5 12) 12) 28 59 [rlr 13 16 1 2,rlr 22 44 2 4,rlr 23 46 4 4] (λN=>N.t 51) (rlY G a6 [rlr 13 16 1 2,rlr 23 46 4 4,rlr 31 72 2 8,rlr 32 74 6 8] 79)))) (sE (sg1 (by kernel_rfl)) Z) (λ_=>d9 <| rlH h rfl (by decide) (by decide) (by decide) λh=>rlH h rfl (by decide) (by decide) (by decide) λh=>rlH h rfl (by decide) (by decide) (by decide) λh=>d8 (by decide))
theorem sk(h:ck 4 [(0,0),(0,1),(0,2)] Z5 1):Ok (W2 w Z V) 4 (ruS (Pw w Z V) G a a1 c1 c2 c3 a5 a6 t1 t2 t3 t4 t5 t6 t7 t8 Z5 4 e e6 [(1,2),(2,4),(4,8),(8,8)]):=
 okC [13,22,31,32] 715 (λN=>rlT N [16,44,72,74]++[e,N.t 79]) (λN=>[.int (Int.fdiv (Int.fdiv (Int.fdiv Z5 12) 12) 12) (N.t 82),.int 2 (N.t 65),.int 4 (N.t 46),.int 4 (N.t 47)])
 (rlX (Pw w Z V) G a6 c1 c2 c3 a1 4 0 0 Z5 t7 t8 e6 (rlB (Pw w Z V) G a6 c1 c2 c3 a1 4 0 1 14 (Int.fdiv Z5 12) 19 31 [rlr 13 16 1 2,rlr 14 18 2 2] (λN=>N.t 23) (rlB (Pw w Z V) G a6 c1 c2 c3 a1 4 0 2 23 (Int.fdiv (Int.fdiv Z5 12) 12) 28 59 [rlr 13 16 1 2,rlr 22 44 2 4,rlr 23 46 4 4] (λN=>N.t 51) (rlY G a6 [rlr 13 16 1 2,rlr 22 44 2 4,rlr 31 72 4 8,rlr 32 74 8 8] 79)))) (sE (sg1 (by kernel_rfl)) Z) (λ_=>d9 <| rlH h rfl (by decide) (by decide) (by decide) λh=>rlH h rfl (by decide) (by decide) (by decide) λh=>rlH h rfl (by decide) (by decide) (by decide) λh=>d8 (by decide))
theorem sj(h:ck 4 [(0,0),(1,0)] Z5 1):Ok (W2 w Z V) 4 (ruS (Pw w Z V) G a a1 c1 c2 c3 a5 a6 t1 t2 t3 t4 t5 t6 t7 t8 Z5 4 e e6 [(2,2),(1,6),(3,6),(5,6)]):=
 okC [14,22,23,24] 483 (λN=>rlT N [18,44,46,48]++[e,N.t 53]) (λN=>[.int (Int.fdiv (Int.fdiv Z5 12) 12) (N.t 56),.int 3 (N.t 37),.int 1 (N.t 16),.int 2 (N.t 17)])
 (rlX (Pw w Z V) G a6 c1 c2 c3 a1 4 0 0 Z5 t7 t8 e6 (rlB (Pw w Z V) G a6 c1 c2 c3 a1 4 1 0 13 (Int.fdiv Z5 12) 19 31 [rlr 13 16 1 2,rlr 14 18 2 2] (λN=>N.t 23) (rlY G a6 [rlr 14 18 2 2,rlr 22 44 1 6,rlr 23 46 3 6,rlr 24 48 5 6] 53))) (sE (sg1 (by kernel_rfl)) Z) (λ_=>d9 <| rlH h rfl (by decide) (by decide) (by decide) λh=>rlH h rfl (by decide) (by decide) (by decide) λh=>d8 (by decide))
theorem sf(h:ck 4 [(0,0),(1,1)] Z5 1):Ok (W2 w Z V) 4 (ruS (Pw w Z V) G a a1 c1 c2 c3 a5 a6 t1 t2 t3 t4 t5 t6 t7 t8 Z5 4 e e6 [(1,2),(2,6),(4,6),(6,6)]):=
 okC [13,22,23,24] 483 (λN=>rlT N [16,44,46,48]++[e,N.t 53]) (λN=>[.int (Int.fdiv (Int.fdiv Z5 12) 12) (N.t 56),.int 3 (N.t 37),.int 2 (N.t 18),.int 2 (N.t 19)])
 (rlX (Pw w Z V) G a6 c1 c2 c3 a1 4 0 0 Z5 t7 t8 e6 (rlB (Pw w Z V) G a6 c1 c2 c3 a1 4 1 1 14 (Int.fdiv Z5 12) 19 31 [rlr 13 16 1 2,rlr 14 18 2 2] (λN=>N.t 23) (rlY G a6 [rlr 13 16 1 2,rlr 22 44 2 6,rlr 23 46 4 6,rlr 24 48 6 6] 53))) (sE (sg1 (by kernel_rfl)) Z) (λ_=>d9 <| rlH h rfl (by decide) (by decide) (by decide) λh=>rlH h rfl (by decide) (by decide) (by decide) λh=>d8 (by decide))
theorem se(h:ck 4 [(1,0),(0,0)] Z5 1):Ok (W2 w Z V) 4 (ruS (Pw w Z V) G a a1 c1 c2 c3 a5 a6 t1 t2 t3 t4 t5 t6 t7 t8 Z5 4 e e6 [(2,3),(3,3),(1,6),(4,6)]):=
 okC [14,15,23,24] 483 (λN=>rlT N [18,20,46,48]++[e,N.t 53]) (λN=>[.int (Int.fdiv (Int.fdiv Z5 12) 12) (N.t 56),.int 2 (N.t 39),.int 1 (N.t 16),.int 3 (N.t 17)])
 (rlX (Pw w Z V) G a6 c1 c2 c3 a1 4 1 0 Z5 t7 t8 e6 (rlB (Pw w Z V) G a6 c1 c2 c3 a1 4 0 0 13 (Int.fdiv Z5 12) 20 33 [rlr 13 16 1 3,rlr 14 18 2 3,rlr 15 20 3 3] (λN=>N.t 25) (rlY G a6 [rlr 14 18 2 3,rlr 15 20 3 3,rlr 23 46 1 6,rlr 24 48 4 6] 53))) (sE (sg1 (by kernel_rfl)) Z) (λ_=>d9 <| rlH h rfl (by decide) (by decide) (by decide) λh=>rlH h rfl (by decide) (by decide) (by decide) λh=>d8 (by decide))
theorem sa(h:ck 4 [(1,0),(0,1)] Z5 1):Ok (W2 w Z V) 4 (ruS (Pw w Z V) G a a1 c1 c2 c3 a5 a6 t1 t2 t3 t4 t5 t6 t7 t8 Z5 4 e e6 [(1,3),(3,3),(2,6),(5,6)]):=
 okC [13,15,23,24] 483 (λN=>rlT N [16,20,46,48]++[e,N.t 53]) (λN=>[.int (Int.fdiv (Int.fdiv Z5 12) 12) (N.t 56),.int 2 (N.t 39),.int 2 (N.t 18),.int 3 (N.t 19)])
 (rlX (Pw w Z V) G a6 c1 c2 c3 a1 4 1 0 Z5 t7 t8 e6 (rlB (Pw w Z V) G a6 c1 c2 c3 a1 4 0 1 14 (Int.fdiv Z5 12) 20 33 [rlr 13 16 1 3,rlr 14 18 2 3,rlr 15 20 3 3] (λN=>N.t 25) (rlY G a6 [rlr 13 16 1 3,rlr 15 20 3 3,rlr 23 46 2 6,rlr 24 48 5 6] 53))) (sE (sg1 (by kernel_rfl)) Z) (λ_=>d9 <| rlH h rfl (by decide) (by decide) (by decide) λh=>rlH h rfl (by decide) (by decide) (by decide) λh=>d8 (by decide))
theorem po(h:ck 4 [(1,0),(0,2)] Z5 1):Ok (W2 w Z V) 4 (ruS (Pw w Z V) G a a1 c1 c2 c3 a5 a6 t1 t2 t3 t4 t5 t6 t7 t8 Z5 4 e e6 [(1,3),(2,3),(3,6),(6,6)]):=
 okC [13,14,23,24] 483 (λN=>rlT N [16,18,46,48]++[e,N.t 53]) (λN=>[.int (Int.fdiv (Int.fdiv Z5 12) 12) (N.t 56),.int 2 (N.t 39),.int 3 (N.t 20),.int 3 (N.t 21)])
 (rlX (Pw w Z V) G a6 c1 c2 c3 a1 4 1 0 Z5 t7 t8 e6 (rlB (Pw w Z V) G a6 c1 c2 c3 a1 4 0 2 15 (Int.fdiv Z5 12) 20 33 [rlr 13 16 1 3,rlr 14 18 2 3,rlr 15 20 3 3] (λN=>N.t 25) (rlY G a6 [rlr 13 16 1 3,rlr 14 18 2 3,rlr 23 46 3 6,rlr 24 48 6 6] 53))) (sE (sg1 (by kernel_rfl)) Z) (λ_=>d9 <| rlH h rfl (by decide) (by decide) (by decide) λh=>rlH h rfl (by decide) (by decide) (by decide) λh=>d8 (by decide))
end
end
section
open PySem PySem.W PySem.W.X PySem.Builtin
noncomputable def RuL(w:World)(Z V:Bool)(Z5:Int)(n:Nat)(l:List (Int × Int)):Prop:=
 ∀(G:GP) (a a1 c1 c2 c3 a5 a6:Addr) (t1 t2 t3 t4 t5 t6 t7 t8:Tok) (e e6:Nat),Ok (W2 w Z V) 4 (ruS (Pw w Z V) G a a1 c1 c2 c3 a5 a6 t1 t2 t3 t4 t5 t6 t7 t8 Z5 n e e6 l)
noncomputable def pl(t0 t1 t2 t3:Int)(u0 u1 u2 u3:Tok)(e:Nat):List (Option Obj):=[some (lO [.int t0 u0,.int t1 u1,.int t2 u2,.int t3 u3] e)]
noncomputable def na(G:GP)(a:Addr)(t0 t1 t2 t3:Int)(u0 u1 u2 u3:Tok)(e:Nat)(l:List (Int × Int)):ac:=
 sd (.call (.ref 139) ⟨[.ref a],[]⟩) (aa [a]) (pl t0 t1 t2 t3 u0 u1 u2 u3 e) G G (l.length+1) (2*l.length) 0 λC U _=>⟨.ok (.ret (.ref (C 0))),[],some (lO (rfs C l.length 1) 0)::pb U l 0⟩
end
section
open PySem PySem.W PySem.W.X PySem.Builtin
noncomputable def cs(l:List (Nat × Nat)):List (Int × Int):=l.map λp=>(.ofNat p.1,.ofNat p.2)
noncomputable def mvR(p:Nat × Nat)(ch:Nat):Nat × Nat:=if ch>5 then((p.1-1)%(ch-5)+1,ch-5)else((p.1-1+ch)%p.2+1,p.2)
noncomputable def cG(l:List (Nat × Nat))(i ch:Nat):List (Nat × Nat):=l.eraseIdx i++[mvR (l.getD i (1,1)) ch]
theorem qT(x:Int)(n y:Nat)(h:x=.ofNat y):Int.fmod x (.ofNat n)=.ofNat (y%n):=by
 subst h
 show Int.fmod (y:Int) (n:Int)=((y%n:Nat):Int)
 rw[Int.fmod_eq_emod_of_nonneg _ (Int.natCast_nonneg n)];rfl
noncomputable abbrev rfJ(q k:Nat):List Nat:=(List.range (q+2)).eraseIdx k
noncomputable abbrev rfE(q k:Nat):List Nat:=(q+18)::(rfJ q k).map (· +11)++[q+16]
noncomputable abbrev rfT(q k:Nat)(N:Nm)(y:List Nat):List Nat:=((rfJ q k).flatMap λj=>[N.t (2*j+12),N.t (2*j+13)])++y
noncomputable abbrev rfP(P:Params)(G:GP)(a:Addr)(t0 t1 t2:Int)(u0 u1 u2:Tok)(q k ch:Nat)(l:List (Int × Int))(zz:List It):List It:=
 .i (ub 48 0xa4a4a4a4a4a5a5a5a5a5aeacacabacacacacacacabacacacacacacabacacacacacababababa4a4a4a4a4a502a5a58a8b)::.f [] (λN=>fp G t0 2 u0 (N.t 8) (.ofNat q))::.i [165,165]::.f [1,2,3,4,5,6] (λN=>ruS P G a (N.r 1) (N.r 2) (N.r 3) (N.r 4) (N.r 5) (N.r 6) (N.t 0) (N.t 5) (N.t 4) (N.t 11) u1 (N.t 10) (N.t 1) (N.t 2) t1 (q+2) 4 0 l)::.i (ub 12 0xa5a4a4a4a4a4a5aaaaaaaaa5)::.f [] (λN=>fp G t2 (q+1) u2 (N.t 10) (.ofNat k))::.i (ub 43 (0xa5a4a4a4a4a4a5a8a8a7a7b3b1b1afb1b1b1b1b1b1afb1b1b1b1b1b1afb1b1b1b1b1afafafafaaaaaaaaaa+q*0x101010001010101010100010101010101000101010101000000000000000000+k*0x100000000000001000000000000010000000000010101010000000000))::.n::.f [] (λN=>fp G (Int.fdiv t2 (.ofNat (q+2))) 11 (N.t (2*q+21)) (N.t (2*q+22)) (.ofNat ch))::.i [165,165,165]::zz
noncomputable abbrev rfZ(G:GP)(q k:Nat):It:=
 .f [6,q+17] (λN=>hD G (N.r 6) (N.r (q+17)) ((rfJ q k).map λj=>.ref (N.r (j+11))) [.ref (N.r (q+16))] (N.t (2*q+17)+1) 0)
noncomputable abbrev rfA(G:GP)(q k ch d m:Nat)(f:Int):List It:=
 .f [] (λN=>cGt G (.ofNat ch) 5 (N.t (2*q+23)) (N.t (2*q+25)) true)::.i [165,167,165]::.f [] (λN=>dA G (.ofNat ch) 5 (N.t (2*q+23)) (N.t (2*q+28)) (.ofNat (d+1)))::.f [] (λN=>fp G (f-1) d (N.t (2*q+27)) (N.t (2*q+29)) (.ofNat m))::.i [165]::.f [] (λN=>dA G (.ofNat ch) 5 (N.t (2*q+23)) (N.t (2*q+33)) (.ofNat (d+1)))::.i [170,q+181,170]::rfZ G q k::[]
noncomputable abbrev rfB(G:GP)(q k ch s m:Nat)(f:Int):List It:=
 .f [] (λN=>cGt G (.ofNat ch) 5 (N.t (2*q+23)) (N.t (2*q+25)) false)::.i [165,167,165,168]::.f [] (λN=>fp G (f-1+.ofNat ch) s (N.t (2*q+28)) (N.t (2*k+13)) (.ofNat m))::.i [168,170,q+181,170]::rfZ G q k::[]
noncomputable abbrev RfO(q k:Nat)(l l':List (Nat × Nat))(ch:Nat):Prop:=
 ∀{w:World} {Z V:Bool} {G:GP} {a:Addr} {t0 t1 t2 t3:Int} {u0 u1 u2 u3:Tok} {e:Nat} (h0:Int.fmod t0 3=.ofNat q) (hl:RuL w Z V t1 (q+2) (cs l)) (hi:Int.fmod t2 (.ofNat (q+2))=.ofNat k) (Zu:Int.fmod (Int.fdiv t2 (.ofNat (q+2))) 12=.ofNat ch),Ok (W2 w Z V) 5 (na G a t0 t1 t2 t3 u0 u1 u2 u3 e (cs l'))
section
variable{w:World}{Z V:Bool}{t0 t1 t2:Int}{q k ch:Nat}{l:List (Nat × Nat)}
theorem iM(G:GP)(a:Addr)(u0 u1 u2:Tok)(f c:Nat)(hc:ch=c+6)(hx:(rfJ q k).length<2^20)(h0:Int.fmod t0 3=.ofNat q)(hl:RuL w Z V t1 (q+2) (cs l))(hi:Int.fmod t2 (.ofNat (q+2))=.ofNat k)(Zu:Int.fmod (Int.fdiv t2 (.ofNat (q+2))) 12=.ofNat ch)(N:Nm):
  bO (W2 w Z V) 4 N (rfP (Pw w Z V) G a t0 t1 t2 u0 u1 u2 q k ch (cs l) (rfA G q k ch c (f%(c+1)) (.ofNat (f+1)))):=by
 have hs:(.ofNat ch:Int)-5=.ofNat (c+1):=by subst hc;show((c+6:Nat):Int)-5=((c+1:Nat):Int);lia
 exact⟨okU (b0 h0),okU (by apply hl),okU (b0 hi),okU (b0 Zu),okU (kGt (decide_eq_true (by subst hc;show(5:Int)<((c+6:Nat):Int);lia))),okU (bV hs),okU (b0 (qT _ _ f (by show((f+1:Nat):Int)-1=(f:Int);lia))),okU (bV hs),okU (gZ (by rw[List.length_map];exact hx)),trivial⟩
theorem iL(G:GP)(a:Addr)(u0 u1 u2:Tok)(f s:Nat)(hc:¬ch>5)(hx:(rfJ q k).length<2^20)(h0:Int.fmod t0 3=.ofNat q)(hl:RuL w Z V t1 (q+2) (cs l))(hi:Int.fmod t2 (.ofNat (q+2))=.ofNat k)(Zu:Int.fmod (Int.fdiv t2 (.ofNat (q+2))) 12=.ofNat ch)(N:Nm):
  bO (W2 w Z V) 4 N (rfP (Pw w Z V) G a t0 t1 t2 u0 u1 u2 q k ch (cs l) (rfB G q k ch s ((f+ch)%(s+1)) (.ofNat (f+1)))):=
 ⟨okU (b0 h0),okU (by apply hl),okU (b0 hi),okU (b0 Zu),okU (kGt (decide_eq_false (by show ¬(5:Int)<((ch:Nat):Int);lia))),okU (b0 (qT _ _ (f+ch) (by show((f+1:Nat):Int)-1+(ch:Int)=((f+ch:Nat):Int);lia))),okU (gZ (by rw[List.length_map];exact hx)),trivial⟩
end
theorem rfX{q k f s ch:Nat}{l:List (Nat × Nat)}(hk:l.getD k (1,1)=(f+1,s+1))(hA:∀c,ch=c+6→RfO q k l (l.eraseIdx k++[(f%(c+1)+1,c+1)]) ch)(hB:¬ch>5→RfO q k l (l.eraseIdx k++[((f+ch)%(s+1)+1,s+1)]) ch):RfO q k l (cG l k ch) ch:=by
 intro w Z V G a t0 t1 t2 t3 u0 u1 u2 u3 e h0 hl hi Zu
 unfold cG mvR;rw[hk]
 by_cases hc:ch>5
 ·rw[if_pos hc]
  obtain⟨c,rfl⟩:∃c,ch=c+6:=⟨ch-6,by lia⟩
  exact hA c rfl h0 hl hi Zu
 ·rw[if_neg hc];exact hB hc h0 hl hi Zu
section
variable{f0 s0 f1 s1 f2 s2 f3 s3 ch:Nat}
theorem r8:RfO 0 0 [(f0+1,s0+1),(f1,s1)] (cG [(f0+1,s0+1),(f1,s1)] 0 ch) ch:=
 rfX rfl (λc hc _ Z _ G a _ _ _ _ u v x _ _ h0 hl hi Zu=>okC (rfE 0 0) 293 (λN=>rfT 0 0 N [N.t 32,N.t 34]) (λ_=>[]) _ (sE (sg1 (by kernel_rfl)) Z) (iM G a u v x f0 c hc (by decide) h0 hl hi Zu)) (λhc _ Z _ G a _ _ _ _ u v x _ _ h0 hl hi Zu=>okC (rfE 0 0) 294 (λN=>rfT 0 0 N [N.t 31,N.t 13]) (λ_=>[]) _ (sE (sg1 (by kernel_rfl)) Z) (iL G a u v x f0 s0 hc (by decide) h0 hl hi Zu))
theorem r7:RfO 0 1 [(f0,s0),(f1+1,s1+1)] (cG [(f0,s0),(f1+1,s1+1)] 1 ch) ch:=
 rfX rfl (λc hc _ Z _ G a _ _ _ _ u v x _ _ h0 hl hi Zu=>okC (rfE 0 1) 293 (λN=>rfT 0 1 N [N.t 32,N.t 34]) (λ_=>[]) _ (sE (sg1 (by kernel_rfl)) Z) (iM G a u v x f1 c hc (by decide) h0 hl hi Zu)) (λhc _ Z _ G a _ _ _ _ u v x _ _ h0 hl hi Zu=>okC (rfE 0 1) 294 (λN=>rfT 0 1 N [N.t 31,N.t 15]) (λ_=>[]) _ (sE (sg1 (by kernel_rfl)) Z) (iL G a u v x f1 s1 hc (by decide) h0 hl hi Zu))
theorem r6:RfO 1 0 [(f0+1,s0+1),(f1,s1),(f2,s2)] (cG [(f0+1,s0+1),(f1,s1),(f2,s2)] 0 ch) ch:=
 rfX rfl (λc hc _ Z _ G a _ _ _ _ u v x _ _ h0 hl hi Zu=>okC (rfE 1 0) 293 (λN=>rfT 1 0 N [N.t 34,N.t 36]) (λ_=>[]) _ (sE (sg1 (by kernel_rfl)) Z) (iM G a u v x f0 c hc (by decide) h0 hl hi Zu)) (λhc _ Z _ G a _ _ _ _ u v x _ _ h0 hl hi Zu=>okC (rfE 1 0) 294 (λN=>rfT 1 0 N [N.t 33,N.t 13]) (λ_=>[]) _ (sE (sg1 (by kernel_rfl)) Z) (iL G a u v x f0 s0 hc (by decide) h0 hl hi Zu))
theorem r5:RfO 1 1 [(f0,s0),(f1+1,s1+1),(f2,s2)] (cG [(f0,s0),(f1+1,s1+1),(f2,s2)] 1 ch) ch:=
 rfX rfl (λc hc _ Z _ G a _ _ _ _ u v x _ _ h0 hl hi Zu=>okC (rfE 1 1) 293 (λN=>rfT 1 1 N [N.t 34,N.t 36]) (λ_=>[]) _ (sE (sg1 (by kernel_rfl)) Z) (iM G a u v x f1 c hc (by decide) h0 hl hi Zu)) (λhc _ Z _ G a _ _ _ _ u v x _ _ h0 hl hi Zu=>okC (rfE 1 1) 294 (λN=>rfT 1 1 N [N.t 33,N.t 15]) (λ_=>[]) _ (sE (sg1 (by kernel_rfl)) Z) (iL G a u v x f1 s1 hc (by decide) h0 hl hi Zu))
theorem r4:RfO 1 2 [(f0,s0),(f1,s1),(f2+1,s2+1)] (cG [(f0,s0),(f1,s1),(f2+1,s2+1)] 2 ch) ch:=
 rfX rfl (λc hc _ Z _ G a _ _ _ _ u v x _ _ h0 hl hi Zu=>okC (rfE 1 2) 293 (λN=>rfT 1 2 N [N.t 34,N.t 36]) (λ_=>[]) _ (sE (sg1 (by kernel_rfl)) Z) (iM G a u v x f2 c hc (by decide) h0 hl hi Zu)) (λhc _ Z _ G a _ _ _ _ u v x _ _ h0 hl hi Zu=>okC (rfE 1 2) 294 (λN=>rfT 1 2 N [N.t 33,N.t 17]) (λ_=>[]) _ (sE (sg1 (by kernel_rfl)) Z) (iL G a u v x f2 s2 hc (by decide) h0 hl hi Zu))
theorem rZ:RfO 2 0 [(f0+1,s0+1),(f1,s1),(f2,s2),(f3,s3)] (cG [(f0+1,s0+1),(f1,s1),(f2,s2),(f3,s3)] 0 ch) ch:=
 rfX rfl (λc hc _ Z _ G a _ _ _ _ u v x _ _ h0 hl hi Zu=>okC (rfE 2 0) 293 (λN=>rfT 2 0 N [N.t 36,N.t 38]) (λ_=>[]) _ (sE (sg1 (by kernel_rfl)) Z) (iM G a u v x f0 c hc (by decide) h0 hl hi Zu)) (λhc _ Z _ G a _ _ _ _ u v x _ _ h0 hl hi Zu=>okC (rfE 2 0) 294 (λN=>rfT 2 0 N [N.t 35,N.t 13]) (λ_=>[]) _ (sE (sg1 (by kernel_rfl)) Z) (iL G a u v x f0 s0 hc (by decide) h0 hl hi Zu))
theorem rY:RfO 2 1 [(f0,s0),(f1+1,s1+1),(f2,s2),(f3,s3)] (cG [(f0,s0),(f1+1,s1+1),(f2,s2),(f3,s3)] 1 ch) ch:=
 rfX rfl (λc hc _ Z _ G a _ _ _ _ u v x _ _ h0 hl hi Zu=>okC (rfE 2 1) 293 (λN=>rfT 2 1 N [N.t 36,N.t 38]) (λ_=>[]) _ (sE (sg1 (by kernel_rfl)) Z) (iM G a u v x f1 c hc (by decide) h0 hl hi Zu)) (λhc _ Z _ G a _ _ _ _ u v x _ _ h0 hl hi Zu=>okC (rfE 2 1) 294 (λN=>rfT 2 1 N [N.t 35,N.t 15]) (λ_=>[]) _ (sE (sg1 (by kernel_rfl)) Z) (iL G a u v x f1 s1 hc (by decide) h0 hl hi Zu))
theorem rX:RfO 2 2 [(f0,s0),(f1,s1),(f2+1,s2+1),(f3,s3)] (cG [(f0,s0),(f1,s1),(f2+1,s2+1),(f3,s3)] 2 ch) ch:=
 rfX rfl (λc hc _ Z _ G a _ _ _ _ u v x _ _ h0 hl hi Zu=>okC (rfE 2 2) 293 (λN=>rfT 2 2 N [N.t 36,N.t 38]) (λ_=>[]) _ (sE (sg1 (by kernel_rfl)) Z) (iM G a u v x f2 c hc (by decide) h0 hl hi Zu)) (λhc _ Z _ G a _ _ _ _ u v x _ _ h0 hl hi Zu=>okC (rfE 2 2) 294 (λN=>rfT 2 2 N [N.t 35,N.t 17]) (λ_=>[]) _ (sE (sg1 (by kernel_rfl)) Z) (iL G a u v x f2 s2 hc (by decide) h0 hl hi Zu))
theorem rW:RfO 2 3 [(f0,s0),(f1,s1),(f2,s2),(f3+1,s3+1)] (cG [(f0,s0),(f1,s1),(f2,s2),(f3+1,s3+1)] 3 ch) ch:=
 rfX rfl (λc hc _ Z _ G a _ _ _ _ u v x _ _ h0 hl hi Zu=>okC (rfE 2 3) 293 (λN=>rfT 2 3 N [N.t 36,N.t 38]) (λ_=>[]) _ (sE (sg1 (by kernel_rfl)) Z) (iM G a u v x f3 c hc (by decide) h0 hl hi Zu)) (λhc _ Z _ G a _ _ _ _ u v x _ _ h0 hl hi Zu=>okC (rfE 2 3) 294 (λN=>rfT 2 3 N [N.t 35,N.t 19]) (λ_=>[]) _ (sE (sg1 (by kernel_rfl)) Z) (iL G a u v x f3 s3 hc (by decide) h0 hl hi Zu))
end
noncomputable def LP2:List (List (Nat × Nat)):=[[(1,2),(2,2)]]
noncomputable def LP3:List (List (Nat × Nat)):=[[(2,2),(1,4),(3,4)],[(1,2),(2,4),(4,4)],[(1,3),(2,3),(3,3)]]
noncomputable def LP4:List (List (Nat × Nat)):=[[(1,4),(3,4),(2,4),(4,4)],[(2,2),(3,4),(1,8),(5,8)],[(2,2),(1,4),(3,8),(7,8)],[(2,4),(4,4),(1,4),(3,4)],[(1,2),(4,4),(2,8),(6,8)],[(1,2),(2,4),(4,8),(8,8)],[(2,2),(1,6),(3,6),(5,6)],[(1,2),(2,6),(4,6),(6,6)],[(2,3),(3,3),(1,6),(4,6)],[(1,3),(3,3),(2,6),(5,6)],[(1,3),(2,3),(3,6),(6,6)]]
noncomputable def RS:List (List (Nat × Nat)):=(LP2.flatMap λl=>(List.range 2).flatMap λi=>(List.range 12).map λch=>cG l i ch)++(LP3.flatMap λl=>(List.range 3).flatMap λi=>(List.range 12).map λch=>cG l i ch)++(LP4.flatMap λl=>(List.range 4).flatMap λi=>(List.range 12).map λch=>cG l i ch)
theorem jU(x:Int):Int.fmod x (.ofNat 1)=.ofNat 0:=by
 show Int.fmod x 1=0
 rw[Int.fmod_eq_emod_of_nonneg _ (by decide)];lia
theorem ll(x:Int):Int.fmod x (.ofNat 2)=.ofNat 0∨Int.fmod x (.ofNat 2)=.ofNat 1:=by
 show Int.fmod x 2=0∨Int.fmod x 2=1
 rw[Int.fmod_eq_emod_of_nonneg _ (by decide)];lia
theorem jT(x:Int):Int.fmod x (.ofNat 3)=.ofNat 0∨Int.fmod x (.ofNat 3)=.ofNat 1∨Int.fmod x (.ofNat 3)=.ofNat 2:=by
 show Int.fmod x 3=0∨Int.fmod x 3=1∨Int.fmod x 3=2
 rw[Int.fmod_eq_emod_of_nonneg _ (by decide)];lia
theorem xk(x:Int):Int.fmod x (.ofNat 4)=.ofNat 0∨Int.fmod x (.ofNat 4)=.ofNat 1∨Int.fmod x (.ofNat 4)=.ofNat 2∨Int.fmod x (.ofNat 4)=.ofNat 3:=by
 show Int.fmod x 4=0∨Int.fmod x 4=1∨Int.fmod x 4=2∨Int.fmod x 4=3
 rw[Int.fmod_eq_emod_of_nonneg _ (by decide)];lia
theorem nK(x:Int):∃ch,ch<12∧Int.fmod x 12=.ofNat ch:=by
 rw[Int.fmod_eq_emod_of_nonneg _ (by decide)]
 refine⟨(x%12).toNat,by lia,?_⟩
 show x%12=(((x%12).toNat:Nat):Int)
 lia
theorem jV(x:Int):(if(.ofNat 0:Int)<Int.fmod x 2 then .ofNat 0 else Int.fmod x 2)=.ofNat 0:=by
 show(if(0:Int)<Int.fmod x 2 then(0:Int)else Int.fmod x 2)=0
 rw[Int.fmod_eq_emod_of_nonneg _ (by decide)]
 split<;>lia
theorem qH(x:Int):(if(.ofNat 1:Int)<Int.fmod x 2 then .ofNat 1 else Int.fmod x 2)=.ofNat 0∨(if(.ofNat 1:Int)<Int.fmod x 2 then .ofNat 1 else Int.fmod x 2)=.ofNat 1:=by
 show(if(1:Int)<Int.fmod x 2 then(1:Int)else Int.fmod x 2)=0∨(if(1:Int)<Int.fmod x 2 then(1:Int)else Int.fmod x 2)=1
 rw[Int.fmod_eq_emod_of_nonneg _ (by decide)]
 split<;>lia
theorem xq(x:Int):(if(.ofNat 2:Int)<Int.fmod x 2 then .ofNat 2 else Int.fmod x 2)=.ofNat 0∨(if(.ofNat 2:Int)<Int.fmod x 2 then .ofNat 2 else Int.fmod x 2)=.ofNat 1:=by
 show(if(2:Int)<Int.fmod x 2 then(2:Int)else Int.fmod x 2)=0∨(if(2:Int)<Int.fmod x 2 then(2:Int)else Int.fmod x 2)=1
 rw[Int.fmod_eq_emod_of_nonneg _ (by decide)]
 split<;>lia
theorem ruI{Z5:Int}{n:Nat}{l:List (Int × Int)}(h:∀{G:GP} {a a1 c1 c2 c3 a5 a6:Addr} {t1 t2 t3 t4 t5 t6 t7 t8:Tok} {e e6:Nat},Ok (W2 w Z V) 4 (ruS (Pw w Z V) G a a1 c1 c2 c3 a5 a6 t1 t2 t3 t4 t5 t6 t7 t8 Z5 n e e6 l)):RuL w Z V Z5 n l:=λ_ _ _ _ _ _ _ _ _ _ _ _ _ _ _ _ _ _=>h
theorem vR{w:World}{Z V:Bool}(t1:Int):∃l,l∈LP2∧RuL w Z V t1 2 (cs l):=by
 have Zn:=jV t1
 have hi0:=jU (Int.fdiv t1 2)
 exact⟨[(1,2),(2,2)],by decide,ruI (sx (rl2 Zn hi0 trivial))⟩
theorem vQ{w:World}{Z V:Bool}(t1:Int):∃l,l∈LP3∧RuL w Z V t1 3 (cs l):=by
 rcases qH t1 with Zn | Zn
 ·skip
  have hi0:=jU (Int.fdiv t1 2)
  have Zm:=jV (Int.fdiv t1 12)
  rcases ll (Int.fdiv (Int.fdiv t1 12) 2)with hi1 | hi1
  ·skip
   exact⟨[(2,2),(1,4),(3,4)],by decide,ruI (sw (rl2 Zn hi0 (rl2 Zm hi1 trivial)))⟩
  ·skip
   exact⟨[(1,2),(2,4),(4,4)],by decide,ruI (sv (rl2 Zn hi0 (rl2 Zm hi1 trivial)))⟩
 ·skip
  have hi0:=jU (Int.fdiv t1 2)
  exact⟨[(1,3),(2,3),(3,3)],by decide,ruI (su (rl2 Zn hi0 trivial))⟩
theorem vP{w:World}{Z V:Bool}(t1:Int):∃l,l∈LP4∧RuL w Z V t1 4 (cs l):=by
 rcases xq t1 with Zn | Zn
 ·skip
  have hi0:=jU (Int.fdiv t1 2)
  rcases qH (Int.fdiv t1 12)with Zm | Zm
  ·skip
   rcases ll (Int.fdiv (Int.fdiv t1 12) 2)with hi1 | hi1
   ·skip
    have hm2:=jV (Int.fdiv (Int.fdiv t1 12) 12)
    rcases jT (Int.fdiv (Int.fdiv (Int.fdiv t1 12) 12) 2)with hi2 | hi2 | hi2
    ·skip
     exact⟨[(1,4),(3,4),(2,4),(4,4)],by decide,ruI (ss (rl2 Zn hi0 (rl2 Zm hi1 (rl2 hm2 hi2 trivial))))⟩
    ·skip
     exact⟨[(2,2),(3,4),(1,8),(5,8)],by decide,ruI (sr (rl2 Zn hi0 (rl2 Zm hi1 (rl2 hm2 hi2 trivial))))⟩
    ·skip
     exact⟨[(2,2),(1,4),(3,8),(7,8)],by decide,ruI (sq (rl2 Zn hi0 (rl2 Zm hi1 (rl2 hm2 hi2 trivial))))⟩
   ·skip
    have hm2:=jV (Int.fdiv (Int.fdiv t1 12) 12)
    rcases jT (Int.fdiv (Int.fdiv (Int.fdiv t1 12) 12) 2)with hi2 | hi2 | hi2
    ·skip
     exact⟨[(2,4),(4,4),(1,4),(3,4)],by decide,ruI (sp (rl2 Zn hi0 (rl2 Zm hi1 (rl2 hm2 hi2 trivial))))⟩
    ·skip
     exact⟨[(1,2),(4,4),(2,8),(6,8)],by decide,ruI (so (rl2 Zn hi0 (rl2 Zm hi1 (rl2 hm2 hi2 trivial))))⟩
    ·skip
     exact⟨[(1,2),(2,4),(4,8),(8,8)],by decide,ruI (sk (rl2 Zn hi0 (rl2 Zm hi1 (rl2 hm2 hi2 trivial))))⟩
  ·skip
   rcases ll (Int.fdiv (Int.fdiv t1 12) 2)with hi1 | hi1
   ·skip
    exact⟨[(2,2),(1,6),(3,6),(5,6)],by decide,ruI (sj (rl2 Zn hi0 (rl2 Zm hi1 trivial)))⟩
   ·skip
    exact⟨[(1,2),(2,6),(4,6),(6,6)],by decide,ruI (sf (rl2 Zn hi0 (rl2 Zm hi1 trivial)))⟩
 ·skip
  have hi0:=jU (Int.fdiv t1 2)
  have Zm:=jV (Int.fdiv t1 12)
  rcases jT (Int.fdiv (Int.fdiv t1 12) 2)with hi1 | hi1 | hi1
  ·skip
   exact⟨[(2,3),(3,3),(1,6),(4,6)],by decide,ruI (se (rl2 Zn hi0 (rl2 Zm hi1 trivial)))⟩
  ·skip
   exact⟨[(1,3),(3,3),(2,6),(5,6)],by decide,ruI (sa (rl2 Zn hi0 (rl2 Zm hi1 trivial)))⟩
  ·skip
   exact⟨[(1,3),(2,3),(3,6),(6,6)],by decide,ruI (po (rl2 Zn hi0 (rl2 Zm hi1 trivial)))⟩
theorem qu:∀l∈LP2,∃f0 s0 f1 s1,l=[(f0+1,s0+1),(f1+1,s1+1)]:=by
 intro l hl
 unfold LP2 at hl
 simp only[List.mem_cons,List.mem_nil_iff,or_false]at hl
 subst hl
 exact⟨0,1,1,1,rfl⟩
theorem qt:∀l∈LP3,∃f0 s0 f1 s1 f2 s2,l=[(f0+1,s0+1),(f1+1,s1+1),(f2+1,s2+1)]:=by
 intro l hl
 unfold LP3 at hl
 simp only[List.mem_cons,List.mem_nil_iff,or_false]at hl
 rcases hl with rfl | rfl | rfl
 ·exact⟨1,1,0,3,2,3,rfl⟩
 ·exact⟨0,1,1,3,3,3,rfl⟩
 ·exact⟨0,2,1,2,2,2,rfl⟩
theorem qr:∀l∈LP4,∃f0 s0 f1 s1 f2 s2 f3 s3,l=[(f0+1,s0+1),(f1+1,s1+1),(f2+1,s2+1),(f3+1,s3+1)]:=by
 intro l hl
 unfold LP4 at hl
 simp only[List.mem_cons,List.mem_nil_iff,or_false]at hl
 rcases hl with rfl | rfl | rfl | rfl | rfl | rfl | rfl | rfl | rfl | rfl | rfl
 ·exact⟨0,3,2,3,1,3,3,3,rfl⟩
 ·exact⟨1,1,2,3,0,7,4,7,rfl⟩
 ·exact⟨1,1,0,3,2,7,6,7,rfl⟩
 ·exact⟨1,3,3,3,0,3,2,3,rfl⟩
 ·exact⟨0,1,3,3,1,7,5,7,rfl⟩
 ·exact⟨0,1,1,3,3,7,7,7,rfl⟩
 ·exact⟨1,1,0,5,2,5,4,5,rfl⟩
 ·exact⟨0,1,1,5,3,5,5,5,rfl⟩
 ·exact⟨1,2,2,2,0,5,3,5,rfl⟩
 ·exact⟨0,2,2,2,1,5,4,5,rfl⟩
 ·exact⟨0,2,1,2,2,5,5,5,rfl⟩
end
section
open PySem PySem.W PySem.W.X PySem.Builtin
noncomputable def rgV(U:Nat→Tok)(a:Nat):Nat→Nat→List Value
 | 0,_=>[]
 | n+1,i=>.int (.ofNat (a+i)) (U i)::rgV U a n (i+1)
noncomputable def oF(G:GP)(S I:Addr)(e:Nat):ac:=⟨.builtin "list.extend.loop" ⟨[.ref S,.ref I,.none],[]⟩,av (aa [S,I]) [some (lO [] e),some (riO (.ofNat 65024) (.ofNat 16) 1)] 0,G,λ_=>G,0,17,0,
 λ_ U _=>⟨.ok (.ret .none),[(0,lO (rgV U 65024 16 0) (U 16)),(1,riO (.ofNat 65040) (.ofNat 0) 1)],[]⟩⟩
end
section
open PySem PySem.W PySem.W.X PySem.Builtin
theorem yD{w:World}{Z V:Bool}{G:GP}{S I:Addr}{e:Nat}:Ok (W2 w Z V) 2 (oF G S I e):=
 okS (⟨oF G S I e,aa [S,I],[some (lO [] e),some (riO (.ofNat 65024) (.ofNat 16) 1)]⟩) [] 289 (λN=>[(N.t 0),(N.t 1),(N.t 2),(N.t 3),(N.t 4),(N.t 5),(N.t 6),(N.t 7),(N.t 8),(N.t 9),(N.t 10),(N.t 11),(N.t 12),(N.t 13),(N.t 14),(N.t 15),((((((((((((((((e+1)+1)+1)+1)+1)+1)+1)+1)+1)+1)+1)+1)+1)+1)+1)+1)]) (λN=>[])
 (.i (ub 64 0xa5a5a5a5a4a4a4a5a5a5a5a5a5a5a5a5a4a4a4a5a5a5a5a5a5a5a5a5a4a4a4a5a5a5a5a5a5a5a5a5a4a4a4a5a5a5a5a5a5a5a5a5a4a4a4a5a5a5a5a5a5a5a5a5)::.i (ub 64 0xa5a5a5a5a5a5a5a5a4a4a4a5a5a5a5a5a5a5a5a5a4a4a4a5a5a5a5a5a5a5a5a5a4a4a4a5a5a5a5a5a5a5a5a5a4a4a4a5a5a5a5a5a5a5a5a5a4a4a4a5a5a5a5a5)::.i (ub 64 0xa4a4a4a5a5a5a5a5a5a5a5a5a4a4a4a5a5a5a5a5a5a5a5a5a4a4a4a5a5a5a5a5a5a5a5a5a4a4a4a5a5a5a5a5a5a5a5a5a4a4a4a5a5a5a5a5a5a5a5a5a4a4a4a5)::.i (ub 6 0xa7a5a5a5a5a5)::[])
 (λ_ _ _=>by kernel_rfl) (λN=>trivial)
noncomputable def iq(G:GP)(S r:Addr)(t u v:Tok):ac:=cB "list.__init__" [.ref S,.ref r] [(S,some (lO [] 0)),(r,some (rgO (.ofNat 65024) (.ofNat 65040) 1 t u v))] G 0 17 λ_ U _=>⟨.ok (.ret .none),[(0,lO (rgV U 65024 16 0) (U 16))],[]⟩
theorem dK{w:World}{Z V:Bool}{G:GP}{S r:Addr}{t u v:Tok}:Ok (W2 w Z V) 2 (iq G S r t u v):=by
 intro A R h gs d U os hA hG hB hP K
 have hS:=(hP.get _ (.head _) _ rfl).1
 have hr:=(hP.get _ (.tail _ (.head _)) _ rfl).1
 have hSb:=(hP.get _ (.head _) _ rfl).2
 dsimp only at hS hr hSb
 have hSr:S≠r:=λe=>by rw[e,hr]at hS;simp at hS
 have hSlt:S<h.objs.size:=Heap.lt_size hS
 have key:∀(h₁:Heap) (c₁ tk₁:Nat),h₁.objs.size=h.objs.size+1→h₁.get? h.objs.size=some (riO (.ofNat 65024) (.ofNat 16) 1)→(∀b o,b≠S→h.get? b=some o→h₁.get? b=some o)→
   h₁.get? S=some (lO [] c₁)→codeAny (model pw (W2 w Z V)) A (.builtin "list.extend.loop" ⟨[.ref S,.ref h.objs.size,.none],[]⟩) R ⟨h₁,gs,d,tk₁,os⟩:=by
  intro h₁ c₁ tk₁ hz hI hk hS₁
  have hB₁:be (Tb (Pw w Z V)) h₁:=λj o e=>hk j o (λx=>by rw[x,hSb]at e;cases e) (hB j o e)
  have hIb:(Tb (Pw w Z V)).get h.objs.size=none:=by
   cases z:(Tb (Pw w Z V)).get h.objs.size with
   | none=>rfl
   | some x=>exact absurd (Heap.lt_size (hB _ x z)) (Nat.lt_irrefl _)
  have o2:=yD (w:=w) (Z:=Z) (V:=V) (G:=G) (S:=S) (I:=h.objs.size) (e:=c₁)
  refine o2 A R h₁ gs d tk₁ os hA hG hB₁ ⟨λp hp o e=>?_,λq q' p p' o o' hq Zp e e' x=>?_⟩ λh' Zt ZM C ZB O Zq P=>?_
  ·rcases List.mem_cons.mp hp with rfl | hp
   ·cases e;exact⟨hS₁,hSb⟩
   ·rcases List.mem_cons.mp hp with rfl | hp
    ·cases e;exact⟨hI,hIb⟩
    ·cases hp
  ·have Zz:S≠h.objs.size:=Nat.ne_of_lt hSlt
   match q,q',hq,Zp with
   | 0,0,_,_=>rfl
   | 1,1,_,_=>rfl
   | 0,1,hq,Zp=>cases hq;cases Zp;exact absurd x Zz
   | 1,0,hq,Zp=>cases hq;cases Zp;exact absurd x.symm Zz
   | q+2,_,hq,_=>cases hq
   | 0,q+2,_,hq=>cases hq
   | 1,q+2,_,hq=>cases hq
  ·refine K h' Zt ZM C ZB O Zq ⟨P.base,by have:=P.ge;lia,λp hp x hx=>?_,λb o e k=>?_,λq o e=>(by have e:([]:List (Option Obj))[q]? =some (some o):=e;simp at e),λq hq=>absurd hq (Nat.not_lt_zero _),λq q' hq=>absurd hq (Nat.not_lt_zero _)⟩
   ·have hp:p∈[((0:Nat),lO (rgV (cut 17 ZB) 65024 16 0) (cut 17 ZB 16))]:=hp
    rw[List.mem_singleton]at hp
    subst hp
    cases hx
    exact P.ups _ (.head _) (S,some (lO [] c₁)) rfl
   ·have hb:b≠S:=λx=>k _ (.head _) _ rfl x.symm
    have hb2:b≠h.objs.size:=Nat.ne_of_lt (Heap.lt_size e)
    refine P.keep b o (hk b o hb e) λp hp x hx=>?_
    rcases List.mem_cons.mp hp with rfl | hp
    ·cases hx;exact λx=>hb x.symm
    ·rcases List.mem_cons.mp hp with rfl | hp
     ·cases hx;exact λx=>hb2 x.symm
     ·cases hp
 refine codeAny_call_builtin F.slot_list_init.plain F.entry_list_init (F.slot_list_init.check _ _ _ _ _ _ _ _ ⟨_,hS,rfl⟩ (F.args_list_init_2 _ _) ?_)
 have hr':IsRange h r (.ofNat 65024) (.ofNat 65040) 1 t u v:=hr
 have hsm:Builtin.Range.small (.ofNat 65024) (.ofNat 65040) 1=true:=by decide+kernel
 have hn:Builtin.Range.rangeSize (.ofNat 65024) (.ofNat 65040) 1=(16:Nat):=by decide+kernel
 show wpAny _ _ (do let old←Builtin.List.listItems (.ref S);Builtin.List.listUpdate (.ref S) (λ_=>#[]);letGo old.toList.reverse;Builtin.List.listExtendWith (.ref S) (.ref r) .none) _ _ _
 refine wpAny_bind ?_
 unfold Builtin.List.listItems
 refine wpAny_bind (wpAny_seqItems hS rfl (wpAny_pure ?_))
 show wpAny _ _ (updateSeq S (λ_=>#[]) >>= λ_=>letGo (#[]:Array Value).toList.reverse >>= λ_=>Builtin.List.listExtendWith (.ref S) (.ref r) .none) _ _ _
 refine wpAny_bind (wpAny_updateSeq hS rfl ?_)
 have hS₂:=Heap.get?_update_self (Obj.mapSeq (λ_=>(#[]:Array Value))) hS rfl
 have oth:∀b o,b≠S→h.get? b=some o→(h.update S (Obj.mapSeq (λ_=>(#[]:Array Value)))).get? b=some o:=
  λb o hb e=>(Heap.get?_update_other _ _ (Ne.symm hb)).trans e
 have hz₂:(h.update S (Obj.mapSeq (λ_=>(#[]:Array Value)))).objs.size=h.objs.size:=Heap.size_after_update ..
 refine wpAny_bind (wpAny_letGo ?_)
 have hr₂:=oth r _ (Ne.symm hSr) hr'
 generalize hh₂:h.update S (Obj.mapSeq (λ_=>(#[]:Array Value)))=h₂ at*
 unfold Builtin.List.listExtendWith
 refine wpAny_bind (wpAny_typeOf (T:="range") ⟨_,hr₂,rfl⟩ ?_)
 have h1:Builtin.List.listSameRef (.ref S) (.ref r)=false:=by simp[Builtin.List.listSameRef,hSr]
 have h2:(Value.type "range"==Value.type "list")=false:=by decide
 have h3:(Value.type "range"==Value.type "tuple")=false:=by decide
 simp only[h1,h2,h3,Bool.or_false,Bool.false_eq_true,if_false]
 refine wpAny_bind (wpAny_pyIter_range hr₂ hsm ?_)
 refine wpAny_bind (wpAny_holding (wpAny_hint_range (n:=16) (Heap.get?_push_of_some _ hr₂) hn (by decide) ?_))
 rw[hn]
 have hI:(h₂.push {cls:=.type "range_iterator",data:=.fields #[rawInt (.ofNat 65024),rawInt ((16:Nat):Int),rawInt 1]}).get? h.objs.size=some (riO (.ofNat 65024) (.ofNat 16) 1):=by
  rw[←hz₂];exact Heap.get?_push_size _ rfl
 have hS₁:=Heap.get?_push_of_some {cls:=.type "range_iterator",data:=.fields #[rawInt (.ofNat 65024),rawInt ((16:Nat):Int),rawInt 1]} hS₂
 have hz₁:(h₂.push {cls:=.type "range_iterator",data:=.fields #[rawInt (.ofNat 65024),rawInt ((16:Nat):Int),rawInt 1]}).objs.size=h.objs.size+1:=by rw[Heap.size_push,hz₂]
 have hk₁:∀b o,b≠S→h.get? b=some o→(h₂.push {cls:=.type "range_iterator",data:=.fields #[rawInt (.ofNat 65024),rawInt ((16:Nat):Int),rawInt 1]}).get? b=some o:=λb o hb e=>Heap.get?_push_of_some _ (oth b o hb e)
 generalize h₂.push {cls:=.type "range_iterator",data:=.fields #[rawInt (.ofNat 65024),rawInt ((16:Nat):Int),rawInt 1]}=h₃ at*
 have hSI:S≠h.objs.size:=Nat.ne_of_lt hSlt
 show wpAny _ _ (if _ then _ else _) _ _ _
 refine wpAny_ite_split (λ_=>?_) (λ_=>wpAny_pure ⟨plainId_quiet F.plain_extend_loop _,?_⟩)
 ·refine wpAny_bind (wpAny_rule ?_)
  refine wpAny_bind ?_
  show wpAny _ _ (updateSeq S (·.push .none) >>= λ_=>updateSeq S (·.pop)) _ _ _
  refine wpAny_bind (wpAny_updateSeq hS₁ rfl ?_)
  have hS₄:=Heap.get?_update_self (Obj.mapSeq (·.push Value.none)) hS₁ rfl
  refine wpAny_updateSeq (hz:=by seq_fits) hS₄ rfl ?_
  have hS₅:=Heap.get?_update_self (Obj.mapSeq (·.pop)) hS₄ rfl
  refine wpAny_pure ⟨plainId_quiet F.plain_extend_loop _,?_⟩
  rw[hz₂]
  refine key _ _ _ ?_ ?_ (λb o hb e=>?_) hS₅
  ·rw[Heap.size_after_update,Heap.size_after_update];exact hz₁
  ·exact(Heap.get?_update_other _ _ hSI).trans ((Heap.get?_update_other _ _ hSI).trans hI)
  ·exact(Heap.get?_update_other _ _ (Ne.symm hb)).trans ((Heap.get?_update_other _ _ (Ne.symm hb)).trans (hk₁ b o hb e))
 ·show codeAny _ A (.builtin "list.extend.loop" ⟨[.ref S,.ref h₂.objs.size,.none],[]⟩) R _
  rw[hz₂]
  exact key _ _ _ hz₁ hI hk₁ hS₁
end
section
open PySem PySem.W PySem.W.X PySem.Builtin
noncomputable abbrev bF:List Nat:=[112,108,97,105,110]
noncomputable abbrev aM:List Nat:=[112,108,97,99,101]
noncomputable abbrev eD:List Nat:=[109,101,97,110,115]
noncomputable abbrev gh:List Nat:=[99,111,100,101]
noncomputable abbrev liO(a:Addr)(n:Nat):Obj:=⟨.type "list_iterator",none,.fields ⟨[.ref a,.int (.ofNat n) 0]⟩,⟨[]⟩⟩
noncomputable def wcE:PySem.Expr:=exV (b4 (bdW (b4 (bdS (stA 13)) 3)) 0)
noncomputable def qD(s0 s1 s2 s3 s4 s5 s6 s7:Addr)(a0 a1 a2 a3 a4 a5 a6 a7 c0 c1 c2 c3 c4 c5 c6 c7:Tok)(e:Nat):List (Option Obj):=[some (lO [.ref s0,.ref s1,.ref s2,.ref s3,.ref s4,.ref s5,.ref s6,.ref s7] e),some (tuO [.str (mS [102,102,105]) a0,.int (.ofNat 64259) c0]),some (tuO [.str (mS [102,102]) a1,.int (.ofNat 64256) c1]),some (tuO [.str (mS [102,105]) a2,.int (.ofNat 64257) c2]),some (tuO [.str (mS [102]) a3,.int (.ofNat 70) c3]),some (tuO [.str (mS [102]) a4,.int (.ofNat 119813) c4]),some (tuO [.str (mS [102]) a5,.int (.ofNat 102) c5]),some (tuO [.str (mS [105]) a6,.int (.ofNat 73) c6]),some (tuO [.str (mS [105]) a7,.int (.ofNat 8464) c7])]
noncomputable def mW(s0 s1 s2 s3 s4 s5 s6 s7:Addr)(a0 a1 a2 a3 a4 a5 a6 a7 c0 c1 c2 c3 c4 c5 c6 c7:Tok)(e es:Nat)(sh:Addr)(x:List Nat)(p:Nat)(u1 u2:Tok)(e0 e1:Nat):List (Option Obj):=
 [some (liO sh 0),some (lO [] e0),some (diO [] e1),some (ceO (some (.str (mS x) u1))),some (ceO (some (.int (.ofNat p) u2)))]++qD s0 s1 s2 s3 s4 s5 s6 s7 a0 a1 a2 a3 a4 a5 a6 a7 c0 c1 c2 c3 c4 c5 c6 c7 es
noncomputable def ue(U:Nat→Tok):List (List Nat × Nat)→Nat→List (Option Obj)
 | [],_=>[]
 | p::l,j=>some (tuO [.str (mS p.1) (U (2*j)),.int (.ofNat p.2) (U (2*j+1))])::ue U l (j+1)
noncomputable def wcS(P:Params)(G:GP)(it Z9 D k1 k2 sh s0 s1 s2 s3 s4 s5 s6 s7 fa:Addr)(a0 a1 a2 a3 a4 a5 a6 a7 c0 c1 c2 c3 c4 c5 c6 c7:Tok)(es:Nat)(x:List Nat)(p:Nat)(u1 u2:Tok)(e0 e1:Nat)(l:List (List Nat × Nat)):ac:=
 sd (.compStart wcE 0 (.ref it) (.ref Z9) (g7 (stA 13) wcE 143 fa D [(mS bF,k1),(mS aM,k2)])) (aa [it,Z9,D,k1,k2,sh,s0,s1,s2,s3,s4,s5,s6,s7]) (mW s0 s1 s2 s3 s4 s5 s6 s7 a0 a1 a2 a3 a4 a5 a6 a7 c0 c1 c2 c3 c4 c5 c6 c7 0 es sh x p u1 u2 e0 e1) G G l.length (2*l.length+4) 4
  λC U O=>⟨.ok .next,[(0,⟨.type "list_iterator",none,.fields ⟨[O 2,O 3]⟩,⟨[]⟩⟩),(1,lO (rfs C l.length 0) (U (2*l.length))),(2,diO [en P eD (U (2*l.length+1)) (O 0),en P gh (U (2*l.length+2)) (O 1)] (U (2*l.length+3)))],ue U l 0⟩
end
section
open PySem PySem.W PySem.W.X PySem.Builtin
noncomputable abbrev iW(G:GP)(a3:Tok)(x:List Nat)(u1:Tok)(p:Nat)(u2 a4 a5 a6 a7:Tok)(zz:List It):List It:=
 .f [] (λN=>aW G [102] a3)::.n::.f [30] (λN=>ar G (mS x) u1 (N.r 30) p (p+1) u2 (N.t 18) [102])::.i (ub 52 0xa60003a8a8a7a6a6a6a6c6c4c4aec4c4c4c4c4c4aec4c4c4c4c4c4aec4c4c4c4c4aeaeaeaea4a4a4a9a4a4a4a4a5a5a5a5a6a6a6)::.f [] (λN=>aW G [102] a4)::.n::.f [35] (λN=>ar G (mS x) u1 (N.r 35) p (p+1) u2 (N.t 23) [102])::.i (ub 52 0xa60003a8a8a7a6a6a6a6cbc9c9afc9c9c9c9c9c9afc9c9c9c9c9c9afc9c9c9c9c9afafafafa4a4a4a9a4a4a4a4a5a5a5a5a6a6a6)::.f [] (λN=>aW G [102] a5)::.n::.f [40] (λN=>ar G (mS x) u1 (N.r 40) p (p+1) u2 (N.t 28) [102])::.i (ub 52 0xa60003a8a8a7a6a6a6a6d0ceceb0cecececececeb0cecececececeb0cececececeb0b0b0b0a4a4a4a9a4a4a4a4a5a5a5a5a6a6a6)::.f [] (λN=>aW G [105] a6)::.n::.f [45] (λN=>ar G (mS x) u1 (N.r 45) p (p+1) u2 (N.t 33) [102])::.i (ub 46 0xa60003a8a8a7a6a6a6a6d4d2d2b1d2d2d2d2d2d2b1d2d2d2d2d2d2b1d2d2d2d2d2b1b1b1b1a4a4a4a9a4a4a4a4a6)::.f [] (λN=>aW G [105] a7)::.n::.f [49] (λN=>ar G (mS x) u1 (N.r 49) p (p+1) u2 (N.t 38) [102])::.i (ub 9 0xd7a4a4a9a4a4a4a4a6)::zz
noncomputable abbrev kH(G:GP)(a3:Tok)(x:List Nat)(u1:Tok)(p:Nat)(u2 a4 a5 a6 a7:Tok)(zz:List It):List It:=
 .i (ub 46 0xa60003a8a8a7a6a6a6a6c0bebeadbebebebebebeadbebebebebebeadbebebebebeadadadada4a4a4a9a4a4a4a4a6)::.f [] (λN=>aW G [102] a3)::.n::.f [29] (λN=>ar G (mS x) u1 (N.r 29) p (p+1) u2 (N.t 18) [105])::.i (ub 46 0xa60003a8a8a7a6a6a6a6c4c2c2aec2c2c2c2c2c2aec2c2c2c2c2c2aec2c2c2c2c2aeaeaeaea4a4a4a9a4a4a4a4a6)::.f [] (λN=>aW G [102] a4)::.n::.f [33] (λN=>ar G (mS x) u1 (N.r 33) p (p+1) u2 (N.t 23) [105])::.i (ub 46 0xa60003a8a8a7a6a6a6a6c8c6c6afc6c6c6c6c6c6afc6c6c6c6c6c6afc6c6c6c6c6afafafafa4a4a4a9a4a4a4a4a6)::.f [] (λN=>aW G [102] a5)::.n::.f [37] (λN=>ar G (mS x) u1 (N.r 37) p (p+1) u2 (N.t 28) [105])::.i (ub 46 0xa60003a8a8a7a6a6a6a6cccacab0cacacacacacab0cacacacacacab0cacacacacab0b0b0b0a4a4a4a9a4a4a4a4a6)::.f [] (λN=>aW G [105] a6)::.n::.f [41] (λN=>ar G (mS x) u1 (N.r 41) p (p+1) u2 (N.t 33) [105])::.i (ub 52 0xa60003a8a8a7a6a6a6a6d1cfcfb1cfcfcfcfcfcfb1cfcfcfcfcfcfb1cfcfcfcfcfb1b1b1b1a4a4a4a9a4a4a4a4a5a5a5a5a6a6a6)::.f [] (λN=>aW G [105] a7)::.n::.f [46] (λN=>ar G (mS x) u1 (N.r 46) p (p+1) u2 (N.t 38) [105])::.i (ub 15 0xd5a4a4a9a4a4a4a4a5a5a5a5a6a6a6)::zz
noncomputable abbrev cI(V:Bool)(G:GP)(a0:Tok)(zz:List It):List It:=
 .i (pqB V)::.i (ub 45 0xa60003a8a8a7a6a6a6a6b4b2b2aab2b2b2b2b2b2aab2b2b2b2b2b2aab2b2b2b2b2aaaaaaaaa4a4a4a9a4a4a4a4)::.f [] (λN=>aW G [102,102,105] a0)::.n::zz
noncomputable abbrev di(G:GP)(a1:Tok)(zz:List It):List It:=
 .i (ub 46 0xa60003a8a8a7a6a6a6a6b8b6b6abb6b6b6b6b6b6abb6b6b6b6b6b6abb6b6b6b6b6ababababa4a4a4a9a4a4a4a4a6)::.f [] (λN=>aW G [102,102] a1)::.n::zz
noncomputable abbrev eU(G:GP)(a2:Tok)(zz:List It):List It:=
 .i (ub 46 0xa60003a8a8a7a6a6a6a6bcbabaacbabababababaacbabababababaacbababababaacacacaca4a4a4a9a4a4a4a4a6)::.f [] (λN=>aW G [102,105] a2)::.n::zz
noncomputable abbrev nA(G:GP)(x:List Nat)(u1:Tok)(p:Nat)(u2 a2:Tok)(zz:List It):List It:=
 .f [21] (λN=>ar G (mS x) u1 (N.r 21) p (p+2) u2 (N.t 8) [102,102])::.i (ub 52 0xa60003a8a8a7a6a6a6a6bdbbbbacbbbbbbbbbbbbacbbbbbbbbbbbbacbbbbbbbbbbacacacaca4a4a4a9a4a4a4a4a5a5a5a5a6a6a6)::.f [] (λN=>aW G [102,105] a2)::.n::.f [26] (λN=>ar G (mS x) u1 (N.r 26) p (p+2) u2 (N.t 13) [102,102])::.i (ub 46 0xa60003a8a8a7a6a6a6a6c1bfbfadbfbfbfbfbfbfadbfbfbfbfbfbfadbfbfbfbfbfadadadada4a4a4a9a4a4a4a4a6)::zz
section
variable{w:World}{Z V:Bool}{G:GP}{it Z9 D k1 k2 sh s0 s1 s2 s3 s4 s5 s6 s7 fa:Addr}{a0 a1 a2 a3 a4 a5 a6 a7 c0 c1 c2 c3 c4 c5 c6 c7:Tok}{es:Nat}{x:List Nat}{p:Nat}{u1 u2:Tok}{e0 e1:Nat}
theorem yU(hx:(mS x).length<2^20)(h3:slS (mS x) p (p+3)=[102,102,102])(h2:slS (mS x) p (p+2)=[102,102])(h1:slS (mS x) p (p+1)=[102]):Ok (W2 w Z V) 2 (wcS (Pw w Z V) G it Z9 D k1 k2 sh s0 s1 s2 s3 s4 s5 s6 s7 fa a0 a1 a2 a3 a4 a5 a6 a7 c0 c1 c2 c3 c4 c5 c6 c7 es x p u1 u2 e0 e1 [([102,102],64256),([102],70),([102],119813),([102],102)]):=
 okC [22,31,36,41] 900 (λN=>[a1,c1,a3,c3,a4,c4,a5,c5,((((e0+1)+1)+1)+1),(N.t 0),(N.t 1),((e1+1)+1)]) (λN=>[(.str (mS [105]) a7),(.int 8464 c7),.none,(.int 8 0)])
 (cI V G a0 (.f [17] (λN=>ar G (mS x) u1 (N.r 17) p (p+3) u2 (N.t 3) [102,102,102])::(di G a1 (nA G x u1 p u2 a2 (iW G a3 x u1 p u2 a4 a5 a6 a7 [])))))
 (sF (sg2 (by kernel_rfl)) Z V) (λN=>⟨okU (ah),okU (af h3 (hx:=hx)),okU (ah),okU (af h2 (hx:=hx)),okU (ah),okU (af h2 (hx:=hx)),okU (ah),okU (af h1 (hx:=hx)),okU (ah),okU (af h1 (hx:=hx)),okU (ah),okU (af h1 (hx:=hx)),okU (ah),okU (af h1 (hx:=hx)),okU (ah),okU (af h1 (hx:=hx)),trivial⟩)
theorem yT(hx:(mS x).length<2^20)(h3:slS (mS x) p (p+3)=[102,102,105])(h2:slS (mS x) p (p+2)=[102,102])(h1:slS (mS x) p (p+1)=[102]):Ok (W2 w Z V) 2 (wcS (Pw w Z V) G it Z9 D k1 k2 sh s0 s1 s2 s3 s4 s5 s6 s7 fa a0 a1 a2 a3 a4 a5 a6 a7 c0 c1 c2 c3 c4 c5 c6 c7 es x p u1 u2 e0 e1 [([102,102,105],64259),([102,102],64256),([102],70),([102],119813),([102],102)]):=
 okC [18,23,32,37,42] 913 (λN=>[a0,c0,a1,c1,a3,c3,a4,c4,a5,c5,(((((e0+1)+1)+1)+1)+1),(N.t 0),(N.t 1),((e1+1)+1)]) (λN=>[(.str (mS [105]) a7),(.int 8464 c7),.none,(.int 8 0)])
 (cI V G a0 (.f [17] (λN=>ar G (mS x) u1 (N.r 17) p (p+3) u2 (N.t 3) [102,102,105])::.i (ub 52 0xa60003a8a8a7a6a6a6a6b9b7b7abb7b7b7b7b7b7abb7b7b7b7b7b7abb7b7b7b7b7ababababa4a4a4a9a4a4a4a4a5a5a5a5a6a6a6)::.f [] (λN=>aW G [102,102] a1)::.n::.f [22] (λN=>ar G (mS x) u1 (N.r 22) p (p+2) u2 (N.t 8) [102,102])::.i (ub 52 0xa60003a8a8a7a6a6a6a6bebcbcacbcbcbcbcbcbcacbcbcbcbcbcbcacbcbcbcbcbcacacacaca4a4a4a9a4a4a4a4a5a5a5a5a6a6a6)::.f [] (λN=>aW G [102,105] a2)::.n::.f [27] (λN=>ar G (mS x) u1 (N.r 27) p (p+2) u2 (N.t 13) [102,102])::.i (ub 46 0xa60003a8a8a7a6a6a6a6c2c0c0adc0c0c0c0c0c0adc0c0c0c0c0c0adc0c0c0c0c0adadadada4a4a4a9a4a4a4a4a6)::.f [] (λN=>aW G [102] a3)::.n::.f [31] (λN=>ar G (mS x) u1 (N.r 31) p (p+1) u2 (N.t 18) [102])::.i (ub 52 0xa60003a8a8a7a6a6a6a6c7c5c5aec5c5c5c5c5c5aec5c5c5c5c5c5aec5c5c5c5c5aeaeaeaea4a4a4a9a4a4a4a4a5a5a5a5a6a6a6)::.f [] (λN=>aW G [102] a4)::.n::.f [36] (λN=>ar G (mS x) u1 (N.r 36) p (p+1) u2 (N.t 23) [102])::.i (ub 52 0xa60003a8a8a7a6a6a6a6cccacaafcacacacacacaafcacacacacacaafcacacacacaafafafafa4a4a4a9a4a4a4a4a5a5a5a5a6a6a6)::.f [] (λN=>aW G [102] a5)::.n::.f [41] (λN=>ar G (mS x) u1 (N.r 41) p (p+1) u2 (N.t 28) [102])::.i (ub 52 0xa60003a8a8a7a6a6a6a6d1cfcfb0cfcfcfcfcfcfb0cfcfcfcfcfcfb0cfcfcfcfcfb0b0b0b0a4a4a4a9a4a4a4a4a5a5a5a5a6a6a6)::.f [] (λN=>aW G [105] a6)::.n::.f [46] (λN=>ar G (mS x) u1 (N.r 46) p (p+1) u2 (N.t 33) [102])::.i (ub 46 0xa60003a8a8a7a6a6a6a6d5d3d3b1d3d3d3d3d3d3b1d3d3d3d3d3d3b1d3d3d3d3d3b1b1b1b1a4a4a4a9a4a4a4a4a6)::.f [] (λN=>aW G [105] a7)::.n::.f [50] (λN=>ar G (mS x) u1 (N.r 50) p (p+1) u2 (N.t 38) [102])::.i (ub 9 0xd8a4a4a9a4a4a4a4a6)::[]))
 (sF (sg2 (by kernel_rfl)) Z V) (λN=>⟨okU (ah),okU (af h3 (hx:=hx)),okU (ah),okU (af h2 (hx:=hx)),okU (ah),okU (af h2 (hx:=hx)),okU (ah),okU (af h1 (hx:=hx)),okU (ah),okU (af h1 (hx:=hx)),okU (ah),okU (af h1 (hx:=hx)),okU (ah),okU (af h1 (hx:=hx)),okU (ah),okU (af h1 (hx:=hx)),trivial⟩)
theorem yS(hx:(mS x).length<2^20)(h3:slS (mS x) p (p+3)=[102,102])(h2:slS (mS x) p (p+2)=[102,102])(h1:slS (mS x) p (p+1)=[102]):Ok (W2 w Z V) 2 (wcS (Pw w Z V) G it Z9 D k1 k2 sh s0 s1 s2 s3 s4 s5 s6 s7 fa a0 a1 a2 a3 a4 a5 a6 a7 c0 c1 c2 c3 c4 c5 c6 c7 es x p u1 u2 e0 e1 [([102,102],64256),([102],70),([102],119813),([102],102)]):=
 okC [22,31,36,41] 900 (λN=>[a1,c1,a3,c3,a4,c4,a5,c5,((((e0+1)+1)+1)+1),(N.t 0),(N.t 1),((e1+1)+1)]) (λN=>[(.str (mS [105]) a7),(.int 8464 c7),.none,(.int 8 0)])
 (cI V G a0 (.f [17] (λN=>ar G (mS x) u1 (N.r 17) p (p+3) u2 (N.t 3) [102,102])::(di G a1 (nA G x u1 p u2 a2 (iW G a3 x u1 p u2 a4 a5 a6 a7 [])))))
 (sF (sg2 (by kernel_rfl)) Z V) (λN=>⟨okU (ah),okU (af h3 (hx:=hx)),okU (ah),okU (af h2 (hx:=hx)),okU (ah),okU (af h2 (hx:=hx)),okU (ah),okU (af h1 (hx:=hx)),okU (ah),okU (af h1 (hx:=hx)),okU (ah),okU (af h1 (hx:=hx)),okU (ah),okU (af h1 (hx:=hx)),okU (ah),okU (af h1 (hx:=hx)),trivial⟩)
theorem yR(hx:(mS x).length<2^20)(h3:slS (mS x) p (p+3)=[102,105,105])(h2:slS (mS x) p (p+2)=[102,105])(h1:slS (mS x) p (p+1)=[102]):Ok (W2 w Z V) 2 (wcS (Pw w Z V) G it Z9 D k1 k2 sh s0 s1 s2 s3 s4 s5 s6 s7 fa a0 a1 a2 a3 a4 a5 a6 a7 c0 c1 c2 c3 c4 c5 c6 c7 es x p u1 u2 e0 e1 [([102,105],64257),([102],70),([102],119813),([102],102)]):=
 okC [26,31,36,41] 900 (λN=>[a2,c2,a3,c3,a4,c4,a5,c5,((((e0+1)+1)+1)+1),(N.t 0),(N.t 1),((e1+1)+1)]) (λN=>[(.str (mS [105]) a7),(.int 8464 c7),.none,(.int 8 0)])
 (cI V G a0 (.f [17] (λN=>ar G (mS x) u1 (N.r 17) p (p+3) u2 (N.t 3) [102,105,105])::(di G a1 (.f [21] (λN=>ar G (mS x) u1 (N.r 21) p (p+2) u2 (N.t 8) [102,105])::(eU G a2 (.f [25] (λN=>ar G (mS x) u1 (N.r 25) p (p+2) u2 (N.t 13) [102,105])::.i (ub 52 0xa60003a8a8a7a6a6a6a6c1bfbfadbfbfbfbfbfbfadbfbfbfbfbfbfadbfbfbfbfbfadadadada4a4a4a9a4a4a4a4a5a5a5a5a6a6a6)::(iW G a3 x u1 p u2 a4 a5 a6 a7 [])))))))
 (sF (sg2 (by kernel_rfl)) Z V) (λN=>⟨okU (ah),okU (af h3 (hx:=hx)),okU (ah),okU (af h2 (hx:=hx)),okU (ah),okU (af h2 (hx:=hx)),okU (ah),okU (af h1 (hx:=hx)),okU (ah),okU (af h1 (hx:=hx)),okU (ah),okU (af h1 (hx:=hx)),okU (ah),okU (af h1 (hx:=hx)),okU (ah),okU (af h1 (hx:=hx)),trivial⟩)
theorem yQ(hx:(mS x).length<2^20)(h3:slS (mS x) p (p+3)=[102,105])(h2:slS (mS x) p (p+2)=[102,105])(h1:slS (mS x) p (p+1)=[102]):Ok (W2 w Z V) 2 (wcS (Pw w Z V) G it Z9 D k1 k2 sh s0 s1 s2 s3 s4 s5 s6 s7 fa a0 a1 a2 a3 a4 a5 a6 a7 c0 c1 c2 c3 c4 c5 c6 c7 es x p u1 u2 e0 e1 [([102,105],64257),([102],70),([102],119813),([102],102)]):=
 okC [26,31,36,41] 900 (λN=>[a2,c2,a3,c3,a4,c4,a5,c5,((((e0+1)+1)+1)+1),(N.t 0),(N.t 1),((e1+1)+1)]) (λN=>[(.str (mS [105]) a7),(.int 8464 c7),.none,(.int 8 0)])
 (cI V G a0 (.f [17] (λN=>ar G (mS x) u1 (N.r 17) p (p+3) u2 (N.t 3) [102,105])::(di G a1 (.f [21] (λN=>ar G (mS x) u1 (N.r 21) p (p+2) u2 (N.t 8) [102,105])::(eU G a2 (.f [25] (λN=>ar G (mS x) u1 (N.r 25) p (p+2) u2 (N.t 13) [102,105])::.i (ub 52 0xa60003a8a8a7a6a6a6a6c1bfbfadbfbfbfbfbfbfadbfbfbfbfbfbfadbfbfbfbfbfadadadada4a4a4a9a4a4a4a4a5a5a5a5a6a6a6)::(iW G a3 x u1 p u2 a4 a5 a6 a7 [])))))))
 (sF (sg2 (by kernel_rfl)) Z V) (λN=>⟨okU (ah),okU (af h3 (hx:=hx)),okU (ah),okU (af h2 (hx:=hx)),okU (ah),okU (af h2 (hx:=hx)),okU (ah),okU (af h1 (hx:=hx)),okU (ah),okU (af h1 (hx:=hx)),okU (ah),okU (af h1 (hx:=hx)),okU (ah),okU (af h1 (hx:=hx)),okU (ah),okU (af h1 (hx:=hx)),trivial⟩)
theorem yP(hx:(mS x).length<2^20)(h3:slS (mS x) p (p+3)=[102])(h2:slS (mS x) p (p+2)=[102])(h1:slS (mS x) p (p+1)=[102]):Ok (W2 w Z V) 2 (wcS (Pw w Z V) G it Z9 D k1 k2 sh s0 s1 s2 s3 s4 s5 s6 s7 fa a0 a1 a2 a3 a4 a5 a6 a7 c0 c1 c2 c3 c4 c5 c6 c7 es x p u1 u2 e0 e1 [([102],70),([102],119813),([102],102)]):=
 okC [30,35,40] 887 (λN=>[a3,c3,a4,c4,a5,c5,(((e0+1)+1)+1),(N.t 0),(N.t 1),((e1+1)+1)]) (λN=>[(.str (mS [105]) a7),(.int 8464 c7),.none,(.int 8 0)])
 (cI V G a0 (.f [17] (λN=>ar G (mS x) u1 (N.r 17) p (p+3) u2 (N.t 3) [102])::(di G a1 (.f [21] (λN=>ar G (mS x) u1 (N.r 21) p (p+2) u2 (N.t 8) [102])::(eU G a2 (.f [25] (λN=>ar G (mS x) u1 (N.r 25) p (p+2) u2 (N.t 13) [102])::.i (ub 46 0xa60003a8a8a7a6a6a6a6c0bebeadbebebebebebeadbebebebebebeadbebebebebeadadadada4a4a4a9a4a4a4a4a6)::.f [] (λN=>aW G [102] a3)::.n::.f [29] (λN=>ar G (mS x) u1 (N.r 29) p (p+1) u2 (N.t 18) [102])::.i (ub 52 0xa60003a8a8a7a6a6a6a6c5c3c3aec3c3c3c3c3c3aec3c3c3c3c3c3aec3c3c3c3c3aeaeaeaea4a4a4a9a4a4a4a4a5a5a5a5a6a6a6)::.f [] (λN=>aW G [102] a4)::.n::.f [34] (λN=>ar G (mS x) u1 (N.r 34) p (p+1) u2 (N.t 23) [102])::.i (ub 52 0xa60003a8a8a7a6a6a6a6cac8c8afc8c8c8c8c8c8afc8c8c8c8c8c8afc8c8c8c8c8afafafafa4a4a4a9a4a4a4a4a5a5a5a5a6a6a6)::.f [] (λN=>aW G [102] a5)::.n::.f [39] (λN=>ar G (mS x) u1 (N.r 39) p (p+1) u2 (N.t 28) [102])::.i (ub 52 0xa60003a8a8a7a6a6a6a6cfcdcdb0cdcdcdcdcdcdb0cdcdcdcdcdcdb0cdcdcdcdcdb0b0b0b0a4a4a4a9a4a4a4a4a5a5a5a5a6a6a6)::.f [] (λN=>aW G [105] a6)::.n::.f [44] (λN=>ar G (mS x) u1 (N.r 44) p (p+1) u2 (N.t 33) [102])::.i (ub 46 0xa60003a8a8a7a6a6a6a6d3d1d1b1d1d1d1d1d1d1b1d1d1d1d1d1d1b1d1d1d1d1d1b1b1b1b1a4a4a4a9a4a4a4a4a6)::.f [] (λN=>aW G [105] a7)::.n::.f [48] (λN=>ar G (mS x) u1 (N.r 48) p (p+1) u2 (N.t 38) [102])::.i (ub 9 0xd6a4a4a9a4a4a4a4a6)::[]))))))
 (sF (sg2 (by kernel_rfl)) Z V) (λN=>⟨okU (ah),okU (af h3 (hx:=hx)),okU (ah),okU (af h2 (hx:=hx)),okU (ah),okU (af h2 (hx:=hx)),okU (ah),okU (af h1 (hx:=hx)),okU (ah),okU (af h1 (hx:=hx)),okU (ah),okU (af h1 (hx:=hx)),okU (ah),okU (af h1 (hx:=hx)),okU (ah),okU (af h1 (hx:=hx)),trivial⟩)
theorem yO(hx:(mS x).length<2^20)(h3:slS (mS x) p (p+3)=[105,105,105])(h2:slS (mS x) p (p+2)=[105,105])(h1:slS (mS x) p (p+1)=[105]):Ok (W2 w Z V) 2 (wcS (Pw w Z V) G it Z9 D k1 k2 sh s0 s1 s2 s3 s4 s5 s6 s7 fa a0 a1 a2 a3 a4 a5 a6 a7 c0 c1 c2 c3 c4 c5 c6 c7 es x p u1 u2 e0 e1 [([105],73),([105],8464)]):=
 okC [42,47] 874 (λN=>[a6,c6,a7,c7,((e0+1)+1),(N.t 0),(N.t 1),((e1+1)+1)]) (λN=>[(.str (mS [105]) a7),(.int 8464 c7),.none,(.int 8 0)])
 (cI V G a0 (.f [17] (λN=>ar G (mS x) u1 (N.r 17) p (p+3) u2 (N.t 3) [105,105,105])::(di G a1 (.f [21] (λN=>ar G (mS x) u1 (N.r 21) p (p+2) u2 (N.t 8) [105,105])::(eU G a2 (.f [25] (λN=>ar G (mS x) u1 (N.r 25) p (p+2) u2 (N.t 13) [105,105])::(kH G a3 x u1 p u2 a4 a5 a6 a7 [])))))))
 (sF (sg2 (by kernel_rfl)) Z V) (λN=>⟨okU (ah),okU (af h3 (hx:=hx)),okU (ah),okU (af h2 (hx:=hx)),okU (ah),okU (af h2 (hx:=hx)),okU (ah),okU (af h1 (hx:=hx)),okU (ah),okU (af h1 (hx:=hx)),okU (ah),okU (af h1 (hx:=hx)),okU (ah),okU (af h1 (hx:=hx)),okU (ah),okU (af h1 (hx:=hx)),trivial⟩)
theorem yN(hx:(mS x).length<2^20)(h3:slS (mS x) p (p+3)=[105,105])(h2:slS (mS x) p (p+2)=[105,105])(h1:slS (mS x) p (p+1)=[105]):Ok (W2 w Z V) 2 (wcS (Pw w Z V) G it Z9 D k1 k2 sh s0 s1 s2 s3 s4 s5 s6 s7 fa a0 a1 a2 a3 a4 a5 a6 a7 c0 c1 c2 c3 c4 c5 c6 c7 es x p u1 u2 e0 e1 [([105],73),([105],8464)]):=
 okC [42,47] 874 (λN=>[a6,c6,a7,c7,((e0+1)+1),(N.t 0),(N.t 1),((e1+1)+1)]) (λN=>[(.str (mS [105]) a7),(.int 8464 c7),.none,(.int 8 0)])
 (cI V G a0 (.f [17] (λN=>ar G (mS x) u1 (N.r 17) p (p+3) u2 (N.t 3) [105,105])::(di G a1 (.f [21] (λN=>ar G (mS x) u1 (N.r 21) p (p+2) u2 (N.t 8) [105,105])::(eU G a2 (.f [25] (λN=>ar G (mS x) u1 (N.r 25) p (p+2) u2 (N.t 13) [105,105])::(kH G a3 x u1 p u2 a4 a5 a6 a7 [])))))))
 (sF (sg2 (by kernel_rfl)) Z V) (λN=>⟨okU (ah),okU (af h3 (hx:=hx)),okU (ah),okU (af h2 (hx:=hx)),okU (ah),okU (af h2 (hx:=hx)),okU (ah),okU (af h1 (hx:=hx)),okU (ah),okU (af h1 (hx:=hx)),okU (ah),okU (af h1 (hx:=hx)),okU (ah),okU (af h1 (hx:=hx)),okU (ah),okU (af h1 (hx:=hx)),trivial⟩)
theorem yM(hx:(mS x).length<2^20)(h3:slS (mS x) p (p+3)=[105])(h2:slS (mS x) p (p+2)=[105])(h1:slS (mS x) p (p+1)=[105]):Ok (W2 w Z V) 2 (wcS (Pw w Z V) G it Z9 D k1 k2 sh s0 s1 s2 s3 s4 s5 s6 s7 fa a0 a1 a2 a3 a4 a5 a6 a7 c0 c1 c2 c3 c4 c5 c6 c7 es x p u1 u2 e0 e1 [([105],73),([105],8464)]):=
 okC [42,47] 874 (λN=>[a6,c6,a7,c7,((e0+1)+1),(N.t 0),(N.t 1),((e1+1)+1)]) (λN=>[(.str (mS [105]) a7),(.int 8464 c7),.none,(.int 8 0)])
 (cI V G a0 (.f [17] (λN=>ar G (mS x) u1 (N.r 17) p (p+3) u2 (N.t 3) [105])::(di G a1 (.f [21] (λN=>ar G (mS x) u1 (N.r 21) p (p+2) u2 (N.t 8) [105])::(eU G a2 (.f [25] (λN=>ar G (mS x) u1 (N.r 25) p (p+2) u2 (N.t 13) [105])::(kH G a3 x u1 p u2 a4 a5 a6 a7 [])))))))
 (sF (sg2 (by kernel_rfl)) Z V) (λN=>⟨okU (ah),okU (af h3 (hx:=hx)),okU (ah),okU (af h2 (hx:=hx)),okU (ah),okU (af h2 (hx:=hx)),okU (ah),okU (af h1 (hx:=hx)),okU (ah),okU (af h1 (hx:=hx)),okU (ah),okU (af h1 (hx:=hx)),okU (ah),okU (af h1 (hx:=hx)),okU (ah),okU (af h1 (hx:=hx)),trivial⟩)
end
end
section
open PySem PySem.W PySem.W.X PySem.Builtin
noncomputable def bL(O:Nat→Value)(a:Addr)(i:Nat):Nat→Nat→List Value
 | 0,_=>[]
 | n+1,j=>(match Nat.beq j i with
  | true=>.ref a
  | false=>O (4+j))::bL O a i n (j+1)
theorem e7(O:Nat→Value)(a:Addr)(i:Nat):∀n j,(bL O a i n j).length=n
 | 0,_=>rfl
 | n+1,j=>by
  unfold bL
  rw[List.length_cons,e7 O a i n (j+1)]
theorem ie(O:Nat→Value)(a:Addr)(i:Nat):∀n j q,q<n→j+q=i→(bL O a i n j)[q]? =some (.ref a)
 | 0,_,_,h,_=>absurd h (Nat.not_lt_zero _)
 | n+1,j,0,_,e=>by
  unfold bL
  rw[show Nat.beq j i=true from by rw[←e];exact Nat.beq_refl j];rfl
 | n+1,j,q+1,h,e=>by
  unfold bL
  rw[List.getElem?_cons_succ]
  exact ie O a i n (j+1) q (by lia) (by lia)
theorem ic(O:Nat→Value)(C:Nat→Addr)(i:Nat):∀n j,(∀q,q<j+n→O (4+q)=.ref (C q))→bL O (C i) i n j=rfs C n j
 | 0,_,_=>rfl
 | n+1,j,h=>by
  unfold bL rfs
  rw[ic O C i n (j+1) (λq hq=>h q (by lia))]
  congr 1
  cases hb:Nat.beq j i with
  | true=>rw[Nat.eq_of_beq_eq_true hb]
  | false=>exact h j (by lia)
theorem ig(O:Nat→Value)(a:Addr)(i N:Nat):∀n j,4+j+n≤N→bL (aq N O) a i n j=bL O a i n j
 | 0,_,_=>rfl
 | n+1,j,h=>by
  unfold bL
  rw[ig O a i N n (j+1) (by lia)]
  have:aq N O (4+j)=O (4+j):=by
   unfold aq
   rw[show Nat.blt (4+j) N=true from Nat.ble_eq_true_of_le (by lia)]
  rw[this]
theorem kd(U:Nat→Tok):∀(l:List (List Nat × Nat)) (j i:Nat) (m:List Nat) (c:Nat),l[i]? =some (m,c)→(ue U l j)[i]? =some (some (tuO [.str (mS m) (U (2*(j+i))),.int (.ofNat c) (U (2*(j+i)+1))]))
 | [],_,_,_,_,h=>by simp at h
 | p::l,j,0,m,c,h=>by
  cases h;rfl
 | p::l,j,i+1,m,c,h=>by
  have:=kd U l (j+1) i m c (by simpa using h)
  rw[show j+(i+1)=j+1+i by lia]
  exact this
noncomputable def wcG(P:Params)(G:GP)(it Z9 D k1 k2 sh s0 s1 s2 s3 s4 s5 s6 s7 fa:Addr)(a0 a1 a2 a3 a4 a5 a6 a7 c0 c1 c2 c3 c4 c5 c6 c7:Tok)(es:Nat)(x:List Nat)(p:Nat)(u1 u2:Tok)(e0 e1:Nat)(m:List Nat)(c i n:Nat):ac:=
 sd (.compStart wcE 0 (.ref it) (.ref Z9) (g7 (stA 13) wcE 143 fa D [(mS bF,k1),(mS aM,k2)])) (aa [it,Z9,D,k1,k2,sh,s0,s1,s2,s3,s4,s5,s6,s7]) (mW s0 s1 s2 s3 s4 s5 s6 s7 a0 a1 a2 a3 a4 a5 a6 a7 c0 c1 c2 c3 c4 c5 c6 c7 0 es sh x p u1 u2 e0 e1) G G 1 6 9
  λC U O=>⟨.ok .next,[(0,⟨.type "list_iterator",none,.fields ⟨[O 2,O 3]⟩,⟨[]⟩⟩),(1,lO (bL O (C 0) i n 0) (U 2)),(2,diO [en P eD (U 3) (O 0),en P gh (U 4) (O 1)] (U 5))],[some (tuO [.str (mS m) (U 0),.int (.ofNat c) (U 1)])]⟩
variable{w:World}{G:GP}{i n e:Nat}{a r:Addr}{O:Nat→Value}
theorem cA{P:Params}{lv:Nat}{it Z9 D k1 k2 sh s0 s1 s2 s3 s4 s5 s6 s7 fa:Addr}{a0 a1 a2 a3 a4 a5 a6 a7 c0 c1 c2 c3 c4 c5 c6 c7:Tok}{es:Nat}{x:List Nat}{p:Nat}{u1 u2:Tok}{e0 e1:Nat}{l:List (List Nat × Nat)}{m:List Nat}{c:Nat}(h:Ok w lv (wcS P G it Z9 D k1 k2 sh s0 s1 s2 s3 s4 s5 s6 s7 fa a0 a1 a2 a3 a4 a5 a6 a7 c0 c1 c2 c3 c4 c5 c6 c7 es x p u1 u2 e0 e1 l))(hi:l[i]? =some (m,c))(h5:l.length≤5):Ok w lv (wcG P G it Z9 D k1 k2 sh s0 s1 s2 s3 s4 s5 s6 s7 fa a0 a1 a2 a3 a4 a5 a6 a7 c0 c1 c2 c3 c4 c5 c6 c7 es x p u1 u2 e0 e1 m c i l.length):=by
 intro A R h₀ gs d U os hA hG hB hP K
 refine h A R h₀ gs d U os hA hG hB hP λh' Zt ZM C ZB O Zq Q=>?_
 have hil:i<l.length:=(List.getElem?_eq_some_iff.mp hi).1
 have e4:∀q,q<4→aq 4 O q=O q:=λq hq=>by unfold aq;rw[show Nat.blt q 4=true from Nat.ble_eq_true_of_le hq]
 have e5:∀(f:Nat→Value) q,q<9→aq 9 f q=f q:=λf q hq=>by unfold aq;rw[show Nat.blt q 9=true from Nat.ble_eq_true_of_le hq]
 have ct:∀q,q<2*l.length+4→cut (2*l.length+4) ZB q=ZB q:=λq hq=>by unfold cut;rw[show Nat.blt q (2*l.length+4)=true from Nat.ble_eq_true_of_le hq]
 have ca:∀q,q<l.length→cut l.length C q=C q:=λq hq=>by unfold cut;rw[show Nat.blt q l.length=true from Nat.ble_eq_true_of_le hq]
 have k:=K h' Zt ZM (λ_=>C i) (aa [ZB (2*i),ZB (2*i+1),ZB (2*l.length),ZB (2*l.length+1),ZB (2*l.length+2),ZB (2*l.length+3)])
  (λq=>if q<4 then O q else .ref (C (q-4))) Zq
 have hups:((wcG P G it Z9 D k1 k2 sh s0 s1 s2 s3 s4 s5 s6 s7 fa a0 a1 a2 a3 a4 a5 a6 a7 c0 c1 c2 c3 c4 c5 c6 c7 es x p u1 u2 e0 e1 m c i l.length).F (cut 1 λ_=>C i) (cut 6 (aa [ZB (2*i),ZB (2*i+1),ZB (2*l.length),ZB (2*l.length+1),ZB (2*l.length+2),ZB (2*l.length+3)])) (aq 9 λq=>if q<4 then O q else .ref (C (q-4)))).ups
   =((wcS P G it Z9 D k1 k2 sh s0 s1 s2 s3 s4 s5 s6 s7 fa a0 a1 a2 a3 a4 a5 a6 a7 c0 c1 c2 c3 c4 c5 c6 c7 es x p u1 u2 e0 e1 l).F (cut l.length C) (cut (2*l.length+4) ZB) (aq 4 O)).ups:=by
  have e1:bL (aq 9 λq=>if q<4 then O q else .ref (C (q-4))) (C i) i l.length 0=rfs (cut l.length C) l.length 0:=by
   rw[ig _ _ _ _ _ _ (by lia),←ca i hil]
   exact ic _ (cut l.length C) i l.length 0 λq hq=>by
    rw[if_neg (by lia),show 4+q-4=q by lia,ca q (by lia)]
  show[_,(1,lO (bL (aq 9 λq=>if q<4 then O q else .ref (C (q-4))) (C i) i l.length 0) (ZB (2*l.length))),(2,diO [en P eD (ZB (2*l.length+1)) _,en P gh (ZB (2*l.length+2)) _] (ZB (2*l.length+3)))]=[_,(1,lO (rfs (cut l.length C) l.length 0) (cut (2*l.length+4) ZB (2*l.length))),(2,diO [en P eD (cut (2*l.length+4) ZB (2*l.length+1)) _,en P gh (cut (2*l.length+4) ZB (2*l.length+2)) _] (cut (2*l.length+4) ZB (2*l.length+3)))]
  rw[e1,ct _ (by lia),ct _ (by lia),ct _ (by lia),ct _ (by lia)]
  simp only[e5 _ 0 (by lia),e5 _ 1 (by lia),e5 _ 2 (by lia),e5 _ 3 (by lia),e4 0 (by lia),e4 1 (by lia),e4 2 (by lia),e4 3 (by lia)]
  rfl
 refine k ⟨Q.base,Q.ge,λp hp y hy=>Q.ups p (hups▸hp) y hy,λb o e kk=>Q.keep b o e λp hp y hy=>kk p (hups▸hp) y hy,λq o e=>?_,λq hq=>?_,λq q' hq Zp _=>?_⟩
 ·have e:[some (tuO [.str (mS m) (ZB (2*i)),.int (.ofNat c) (ZB (2*i+1))])][q]? =some (some o):=e
  cases q with
  | zero=>
   cases e
   refine Q.new i _ ?_
   have:=kd (cut (2*l.length+4) ZB) l 0 i m c hi
   rw[Nat.zero_add,ct _ (by lia),ct _ (by lia)]at this
   exact this
  | succ q=>simp at e
 ·exact Q.fresh i hil
 ·have h1:q<1:=hq
  have h2:q'<1:=Zp
  lia
noncomputable def oM(G:GP)(a:Addr)(O:Nat→Value)(r:Addr)(i n e:Nat):ac:=cB "len" [.ref a] [(a,some (lO (bL O r i n 0) e))] G 0 1 λ_ U _=>rV (.int (.ofNat n) (U 0))
noncomputable def oN(G:GP)(a:Addr)(O:Nat→Value)(r:Addr)(i n e:Nat)(t:Tok):ac:=cB "list.__getitem__" [.ref a,.int (.ofNat i) t] [(a,some (lO (bL O r i n 0) e))] G 0 0 λ_ _ _=>rV (.ref r)
theorem jh(hn:n<2^20):Ok w 1 (oM G a O r i n e):=by
 have:=du (w:=w) (G:=G) (a:=a) (xs:=bL O r i n 0) (e:=e) (dd:=none) (sl:=⟨[]⟩) (by rw[e7];exact hn)
 unfold cx at this
 rw[e7]at this
 exact this
theorem ji{t:Tok}(hn:n<2^20)(hi:i<n):Ok w 1 (oN G a O r i n e t):=
 aT (ie O r i n 0 i hi (by lia)) (by lia)
end
section
open PySem PySem.W PySem.W.X PySem.Builtin
end
section
open PySem PySem.W PySem.W.X PySem.Builtin
noncomputable abbrev d7:List Nat:=[115,101,101,100]
noncomputable abbrev m6:List Nat:=[117,110,115,101,101,110]
noncomputable abbrev rO:List Nat:=[115,104,111,112]
noncomputable abbrev d5:List Nat:=[119,111,114,100]
noncomputable abbrev rT:List Nat:=[102,105,116,115]
noncomputable def uR(a1 k1 k2:Addr):Env:={kX (stA 13) 144 143 a1 with cells:=[(mS aM,k2),(mS bF,k1)]}
noncomputable def uQ(P:Params)(t1 t2 t3 t4:Tok)(seed word:Value)(un sh:Addr)(kv:List DictEntry)(e:Nat):Obj:=
 frO ([en P d7 t1 seed,en P m6 t2 (.ref un),en P rO t3 (.ref sh),en P d5 t4 word]++kv) e
noncomputable def rf(P:Params)(s0 s1 s2 s3 s4 s5 s6 s7:Addr)(a0 a1 a2 a3 a4 a5 a6 a7 c0 c1 c2 c3 c4 c5 c6 c7:Tok)(es:Nat)(sh un:Addr)(us:List Value)(eu:Nat)(x:List Nat)(p:Nat)(u1 u2:Tok)(t1 t2 t3 t4:Tok)(sd:Nat)(u3:Tok)(wd:List Nat)(u4:Tok)(kv:List DictEntry)(e:Nat):List (Option Obj):=
 [some (uQ P t1 t2 t3 t4 (.int (.ofNat sd) u3) (.str (mS wd) u4) un sh kv e),some (ceO (some (.str (mS x) u1))),some (ceO (some (.int (.ofNat p) u2))),some (lO us eu)]++qD s0 s1 s2 s3 s4 s5 s6 s7 a0 a1 a2 a3 a4 a5 a6 a7 c0 c1 c2 c3 c4 c5 c6 c7 es
noncomputable def iw(P:Params)(t5 t6 t7:Tok)(v5 v6 v7:Value):List DictEntry:=[en P rT t5 v5,en P eD t6 v6,en P gh t7 v7]
noncomputable def wlS(P:Params)(G:GP)(fa k1 k2 un sh s0 s1 s2 s3 s4 s5 s6 s7:Addr)(a0 a1 a2 a3 a4 a5 a6 a7 c0 c1 c2 c3 c4 c5 c6 c7:Tok)(es:Nat)(us:List Value)(eu:Nat)(x:List Nat)(p:Nat)(u1 u2:Tok)(t1 t2 t3 t4:Tok)(sd:Nat)(u3:Tok)(wd:List Nat)(u4:Tok)(kv:List DictEntry)(e:Nat)(wd':List Nat)(ZL:Nat):ac:=
 Mine.sd (bN (b4 (bdS (stA 13)) 3) (uR fa k1 k2)) (aa [fa,k1,k2,un,sh,s0,s1,s2,s3,s4,s5,s6,s7]) (rf P s0 s1 s2 s3 s4 s5 s6 s7 a0 a1 a2 a3 a4 a5 a6 a7 c0 c1 c2 c3 c4 c5 c6 c7 es sh un us eu x p u1 u2 t1 t2 t3 t4 sd u3 wd u4 kv e) G G 0 6 4
  λC U O=>⟨.ok .next,[(0,uQ P t1 t2 t3 t4 (.int (.ofNat ZL) (U 0)) (.str (mS wd') (U 1)) un sh (iw P (U 2) (U 3) (U 4) (O 0) (O 1) (O 2)) (U 5)),(2,ceO (some (O 3)))],[]⟩
noncomputable def Fit(w:World)(Z V:Bool)(x:List Nat)(p i n:Nat)(m:List Nat)(c:Nat):Prop:=
 ∀(G:GP) (it Z9 D k1 k2 sh s0 s1 s2 s3 s4 s5 s6 s7 fa:Addr) (a0 a1 a2 a3 a4 a5 a6 a7 c0 c1 c2 c3 c4 c5 c6 c7:Tok) (es:Nat) (u1 u2:Tok) (e0 e1:Nat),Ok (W2 w Z V) 2 (wcG (Pw w Z V) G it Z9 D k1 k2 sh s0 s1 s2 s3 s4 s5 s6 s7 fa a0 a1 a2 a3 a4 a5 a6 a7 c0 c1 c2 c3 c4 c5 c6 c7 es x p u1 u2 e0 e1 m c i n)
noncomputable def aZ(G:GP)(a:Int)(b:Nat)(t u:Tok)(v:Int):ac:=cB "int.__mod__" [.int a t,.int (.ofNat b) u] [] G 0 1 λ_ U _=>rV (.int v (U 0))
theorem aH{w:World}{G:GP}{a:Int}{b:Nat}{t u:Tok}{v:Int}(h:Int.fmod a (.ofNat b)=v)(hb:0<b:=by first | assumption | decide | lia):Ok w 1 (aZ G a b t u v):=by
 cases b with
 | zero=>exact absurd hb (Nat.lt_irrefl _)
 | succ b=>exact b0 h
end
section
open PySem PySem.W PySem.W.X PySem.Builtin
noncomputable abbrev iV(G:GP)(x:List Nat)(u1:Tok)(p:Nat)(u2:Tok)(w:World)(Z V:Bool)(k1 k2 sh s0 s1 s2 s3 s4 s5 s6 s7 fa:Addr)(a0 a1 a2 a3 a4 a5 a6 a7 c0 c1 c2 c3 c4 c5 c6 c7:Tok)(es:Nat)(m:List Nat)(c i n sd:Nat)(u3:Tok)(wd:List Nat)(u4:Tok)(zz:List It):List It:=
 .i (ub 4 0xa50003a6)::.f [] (λN=>aW G x u1)::.f [] (λN=>cLt G (.ofNat p) (.ofNat (x).length) u2 (N.t 0) true)::.i (ub 5 0xb1a8a8a8a4)::.f [13,14,15,1,2,4,5,6,7,8,9,10,11,12] (λN=>wcG (Pw w Z V) G (N.r 13) (N.r 14) (N.r 15) k1 k2 sh s0 s1 s2 s3 s4 s5 s6 s7 fa a0 a1 a2 a3 a4 a5 a6 a7 c0 c1 c2 c3 c4 c5 c6 c7 es x p u1 u2 0 0 m c i n)::.i (ub 13 0xa40003a4a4b3b3b3b3b3b3a4a4)::.f [14] (λN=>oM G (N.r 14) (aq 9 (λ(q:Nat)=>(N.z (0+q)))) (N.r 16) i n (N.t 3))::.f [] (λN=>aZ G (.ofNat sd) n u3 (N.t 8) (.ofNat i))::.i [178,178,178]::.f [14] (λN=>oN G (N.r 14) (aq 9 (λ(q:Nat)=>(N.z (0+q)))) (N.r 16) i n (N.t 3) (N.t 9))::.i (ub 35 0xa40003a4a4a4a4a4b7b5b5b4b5b5b5b5b5b5b4b5b5b5b5b5b5b4b5b5b5b5b5b4b4b4b4)::.f [] (λN=>uv G c (N.t 2))::.f [] (λN=>aX G wd [c] u4 (N.t 12))::.i (ub 6 0xa40003a6a4a4)::.f [] (λN=>aW G m (N.t 1))::.i [166,166,164]::.n::zz
noncomputable abbrev ny(G:GP)(sd k:Nat)(un:Addr)(us:List Value)(eu cu:Nat)(tt:Tok)(wd:List Nat)(c:Nat)(u3:Tok)(Zw:Nat)(zz:List It):List It:=
 .f [] (λN=>aZ G (Int.fdiv (.ofNat sd) 24) 3 (N.t 18) (N.t 19) 0)::.i (ub 5 0xa4a40003a4)::.n::.f [] (λN=>aZ G (Int.fdiv (.ofNat sd) 72) 27 (N.t 23) (N.t 24) (.ofNat k))::.i [167,167,167]::.f [3] (λN=>cw G un us none eu (mA []) k (N.t 25) (.int (.ofNat cu) tt))::.f [] (λN=>uv G cu tt)::.f [] (λN=>aX G (wd++[c]) [cu] (N.t 13) (N.t 26))::.i [164,164,164]::.f [] (λN=>fm G (.ofNat sd) 75 u3 (N.t 29))::.n::.f [] (λN=>aZ G (((.ofNat sd)*75)+74) 65537 (N.t 32) (N.t 33) (.ofNat Zw))::.i [164,164]::zz
noncomputable abbrev nv(G:GP)(sd r:Nat)(u3:Tok)(Zw:Nat)(zz:List It):List It:=
 .f [] (λN=>aZ G (Int.fdiv (.ofNat sd) 24) 3 (N.t 18) (N.t 19) (.ofNat r))::.f [] (λN=>cEq G (.ofNat r) 0 (N.t 20) (N.t 21) false)::.i [164]::.f [] (λN=>fm G (.ofNat sd) 75 u3 (N.t 22))::.n::.f [] (λN=>aZ G (((.ofNat sd)*75)+74) 65537 (N.t 25) (N.t 26) (.ofNat Zw))::.i [164,164]::zz
section
variable{w:World}{Z V:Bool}{G:GP}{fa k1 k2 un sh s0 s1 s2 s3 s4 s5 s6 s7:Addr}{a0 a1 a2 a3 a4 a5 a6 a7 c0 c1 c2 c3 c4 c5 c6 c7:Tok}{es:Nat}{us:List Value}{eu:Nat}{x:List Nat}{p:Nat}{u1 u2 t1 t2 t3 t4:Tok}{sd:Nat}{u3:Tok}{wd:List Nat}{u4:Tok}{e:Nat}{t5 t6 t7:Tok}{v5 v6 v7:Value}{wd2:List Nat}{Zv Zw i n:Nat}{m:List Nat}{c r cu k:Nat}{tt:Tok}
theorem qx(hx:x.length<2^20)(hp:decide ((.ofNat p:Int)< .ofNat x.length)=false):Ok (W2 w Z V) 3 (wlS (Pw w Z V) G fa k1 k2 un sh s0 s1 s2 s3 s4 s5 s6 s7 a0 a1 a2 a3 a4 a5 a6 a7 c0 c1 c2 c3 c4 c5 c6 c7 es us eu x p u1 u2 t1 t2 t3 t4 sd u3 wd u4 (iw (Pw w Z V) t5 t6 t7 v5 v6 v7) e wd sd):=
 okC [] 17 (λN=>[u3,u4,t5,t6,t7,e]) (λN=>[v5,v6,v7,(.int (.ofNat p) u2)])
 (.i (ub 4 0xa50003a6)::.f [] (λN=>aW G x u1)::.f [] (λN=>cLt G (.ofNat p) (.ofNat (x).length) u2 (N.t 0) false)::[])
 (sE (sg1 (by kernel_rfl)) Z) (λN=>⟨okU (ah hx),okU (kLt hp),trivial⟩)
theorem uP(hq:Int.fmod (Int.fdiv (.ofNat sd) 24) 3=.ofNat r)(hr:((.ofNat r:Int)==0)=false)(hx:x.length<2^20)(hw:wd.length<2^19)(hml:m.length<2^20)(hc:c<1114112)(hp:decide ((.ofNat p:Int)< .ofNat x.length)=true)(hF:Fit w Z V x p i n m c)(hi:Int.fmod (.ofNat sd) (.ofNat n)=.ofNat i)(hn:0<n)(hin:i<n)(hn2:n<2^20)(hsd:(Int.ofNat sd).natAbs<2^20)(hs:Int.fmod (.ofNat sd*75+74) 65537=.ofNat Zw)(nx:NX λC U O=>Ok (W2 w Z V) 3 (wlS (Pw w Z V) G fa k1 k2 un sh s0 s1 s2 s3 s4 s5 s6 s7 a0 a1 a2 a3 a4 a5 a6 a7 c0 c1 c2 c3 c4 c5 c6 c7 es us eu x (p+m.length) u1 (U 3) t1 t2 t3 t4 Zw (U 4) (wd++[c]) (U 5) (iw (Pw w Z V) (U 0) (U 1) (U 2) (O 0) (O 1) (O 2)) (U 6) wd2 Zv)):Ok (W2 w Z V) 3 (wlS (Pw w Z V) G fa k1 k2 un sh s0 s1 s2 s3 s4 s5 s6 s7 a0 a1 a2 a3 a4 a5 a6 a7 c0 c1 c2 c3 c4 c5 c6 c7 es us eu x p u1 u2 t1 t2 t3 t4 sd u3 wd u4 [] e wd2 Zv):=
 aj nx (λN=>List.map N.r []) (λN=>[(N.t 7),(N.t 10),(N.t 11),(N.t 16),(N.t 27),(N.t 13),(((e+1)+1)+1)]) (λN=>[(.ref (N.r 14)),(.str (mS m) (N.t 1)),(.int (.ofNat c) (N.t 2))]) 210
 (iV G x u1 p u2 w Z V k1 k2 sh s0 s1 s2 s3 s4 s5 s6 s7 fa a0 a1 a2 a3 a4 a5 a6 a7 c0 c1 c2 c3 c4 c5 c6 c7 es m c i n sd u3 wd u4 (nv G sd r u3 Zw []))
 (sE (sg1 (by kernel_rfl)) Z) (λN=>⟨okU (ah hx),okU (kLt hp),okU (by apply hF),okU (jh hn2),okU (aH hi hn),okU (ji hn2 hin),okU (mz hc),okU (bi),okU (ah hml),okU (aH hq),okU (kEq hr),okU (eJ hsd),okU (aH hs),trivial⟩)
theorem uO(hq:Int.fmod (Int.fdiv (.ofNat sd) 24) 3=.ofNat r)(hr:((.ofNat r:Int)==0)=false)(hx:x.length<2^20)(hw:wd.length<2^19)(hml:m.length<2^20)(hc:c<1114112)(hp:decide ((.ofNat p:Int)< .ofNat x.length)=true)(hF:Fit w Z V x p i n m c)(hi:Int.fmod (.ofNat sd) (.ofNat n)=.ofNat i)(hn:0<n)(hin:i<n)(hn2:n<2^20)(hsd:(Int.ofNat sd).natAbs<2^20)(hs:Int.fmod (.ofNat sd*75+74) 65537=.ofNat Zw)(nx:NX λC U O=>Ok (W2 w Z V) 3 (wlS (Pw w Z V) G fa k1 k2 un sh s0 s1 s2 s3 s4 s5 s6 s7 a0 a1 a2 a3 a4 a5 a6 a7 c0 c1 c2 c3 c4 c5 c6 c7 es us eu x (p+m.length) u1 (U 3) t1 t2 t3 t4 Zw (U 4) (wd++[c]) (U 5) (iw (Pw w Z V) (U 0) (U 1) (U 2) (O 0) (O 1) (O 2)) (U 6) wd2 Zv)):Ok (W2 w Z V) 3 (wlS (Pw w Z V) G fa k1 k2 un sh s0 s1 s2 s3 s4 s5 s6 s7 a0 a1 a2 a3 a4 a5 a6 a7 c0 c1 c2 c3 c4 c5 c6 c7 es us eu x p u1 u2 t1 t2 t3 t4 sd u3 wd u4 (iw (Pw w Z V) t5 t6 t7 v5 v6 v7) e wd2 Zv):=
 aj nx (λN=>List.map N.r []) (λN=>[t5,t6,t7,(N.t 16),(N.t 27),(N.t 13),e]) (λN=>[(.ref (N.r 14)),(.str (mS m) (N.t 1)),(.int (.ofNat c) (N.t 2))]) 210
 (iV G x u1 p u2 w Z V k1 k2 sh s0 s1 s2 s3 s4 s5 s6 s7 fa a0 a1 a2 a3 a4 a5 a6 a7 c0 c1 c2 c3 c4 c5 c6 c7 es m c i n sd u3 wd u4 (nv G sd r u3 Zw []))
 (sE (sg1 (by kernel_rfl)) Z) (λN=>⟨okU (ah hx),okU (kLt hp),okU (by apply hF),okU (jh hn2),okU (aH hi hn),okU (ji hn2 hin),okU (mz hc),okU (bi),okU (ah hml),okU (aH hq),okU (kEq hr),okU (eJ hsd),okU (aH hs),trivial⟩)
theorem uN(hq:Int.fmod (Int.fdiv (.ofNat sd) 24) 3=.ofNat 0)(hk:Int.fmod (Int.fdiv (.ofNat sd) 72) 27=.ofNat k)(hu:us[k]? =some (.int (.ofNat cu) tt))(hk2:k<2^20)(hcu:cu<1114112)(hx:x.length<2^20)(hw:wd.length<2^19)(hml:m.length<2^20)(hc:c<1114112)(hp:decide ((.ofNat p:Int)< .ofNat x.length)=true)(hF:Fit w Z V x p i n m c)(hi:Int.fmod (.ofNat sd) (.ofNat n)=.ofNat i)(hn:0<n)(hin:i<n)(hn2:n<2^20)(hsd:(Int.ofNat sd).natAbs<2^20)(hs:Int.fmod (.ofNat sd*75+74) 65537=.ofNat Zw)(nx:NX λC U O=>Ok (W2 w Z V) 3 (wlS (Pw w Z V) G fa k1 k2 un sh s0 s1 s2 s3 s4 s5 s6 s7 a0 a1 a2 a3 a4 a5 a6 a7 c0 c1 c2 c3 c4 c5 c6 c7 es us eu x (p+m.length) u1 (U 3) t1 t2 t3 t4 Zw (U 4) (wd++[c]++[cu]) (U 5) (iw (Pw w Z V) (U 0) (U 1) (U 2) (O 0) (O 1) (O 2)) (U 6) wd2 Zv)):Ok (W2 w Z V) 3 (wlS (Pw w Z V) G fa k1 k2 un sh s0 s1 s2 s3 s4 s5 s6 s7 a0 a1 a2 a3 a4 a5 a6 a7 c0 c1 c2 c3 c4 c5 c6 c7 es us eu x p u1 u2 t1 t2 t3 t4 sd u3 wd u4 [] e wd2 Zv):=
 aj nx (λN=>List.map N.r []) (λN=>[(N.t 7),(N.t 10),(N.t 11),(N.t 16),(N.t 34),(N.t 27),(((e+1)+1)+1)]) (λN=>[(.ref (N.r 14)),(.str (mS m) (N.t 1)),(.int (.ofNat c) (N.t 2))]) 248
 (iV G x u1 p u2 w Z V k1 k2 sh s0 s1 s2 s3 s4 s5 s6 s7 fa a0 a1 a2 a3 a4 a5 a6 a7 c0 c1 c2 c3 c4 c5 c6 c7 es m c i n sd u3 wd u4 (ny G sd k un us eu cu tt wd c u3 Zw []))
 (sE (sg1 (by kernel_rfl)) Z) (λN=>⟨okU (ah hx),okU (kLt hp),okU (by apply hF),okU (jh hn2),okU (aH hi hn),okU (ji hn2 hin),okU (mz hc),okU (bi),okU (ah hml),okU (aH hq),okU (aH hk),okU (aT hu hk2),okU (mz hcu),okU (bi),okU (eJ hsd),okU (aH hs),trivial⟩)
theorem uM(hq:Int.fmod (Int.fdiv (.ofNat sd) 24) 3=.ofNat 0)(hk:Int.fmod (Int.fdiv (.ofNat sd) 72) 27=.ofNat k)(hu:us[k]? =some (.int (.ofNat cu) tt))(hk2:k<2^20)(hcu:cu<1114112)(hx:x.length<2^20)(hw:wd.length<2^19)(hml:m.length<2^20)(hc:c<1114112)(hp:decide ((.ofNat p:Int)< .ofNat x.length)=true)(hF:Fit w Z V x p i n m c)(hi:Int.fmod (.ofNat sd) (.ofNat n)=.ofNat i)(hn:0<n)(hin:i<n)(hn2:n<2^20)(hsd:(Int.ofNat sd).natAbs<2^20)(hs:Int.fmod (.ofNat sd*75+74) 65537=.ofNat Zw)(nx:NX λC U O=>Ok (W2 w Z V) 3 (wlS (Pw w Z V) G fa k1 k2 un sh s0 s1 s2 s3 s4 s5 s6 s7 a0 a1 a2 a3 a4 a5 a6 a7 c0 c1 c2 c3 c4 c5 c6 c7 es us eu x (p+m.length) u1 (U 3) t1 t2 t3 t4 Zw (U 4) (wd++[c]++[cu]) (U 5) (iw (Pw w Z V) (U 0) (U 1) (U 2) (O 0) (O 1) (O 2)) (U 6) wd2 Zv)):Ok (W2 w Z V) 3 (wlS (Pw w Z V) G fa k1 k2 un sh s0 s1 s2 s3 s4 s5 s6 s7 a0 a1 a2 a3 a4 a5 a6 a7 c0 c1 c2 c3 c4 c5 c6 c7 es us eu x p u1 u2 t1 t2 t3 t4 sd u3 wd u4 (iw (Pw w Z V) t5 t6 t7 v5 v6 v7) e wd2 Zv):=
 aj nx (λN=>List.map N.r []) (λN=>[t5,t6,t7,(N.t 16),(N.t 34),(N.t 27),e]) (λN=>[(.ref (N.r 14)),(.str (mS m) (N.t 1)),(.int (.ofNat c) (N.t 2))]) 248
 (iV G x u1 p u2 w Z V k1 k2 sh s0 s1 s2 s3 s4 s5 s6 s7 fa a0 a1 a2 a3 a4 a5 a6 a7 c0 c1 c2 c3 c4 c5 c6 c7 es m c i n sd u3 wd u4 (ny G sd k un us eu cu tt wd c u3 Zw []))
 (sE (sg1 (by kernel_rfl)) Z) (λN=>⟨okU (ah hx),okU (kLt hp),okU (by apply hF),okU (jh hn2),okU (aH hi hn),okU (ji hn2 hin),okU (mz hc),okU (bi),okU (ah hml),okU (aH hq),okU (aH hk),okU (aT hu hk2),okU (mz hcu),okU (bi),okU (eJ hsd),okU (aH hs),trivial⟩)
end
theorem ba(a b:Nat):Int.fmod (.ofNat a) (.ofNat b)=.ofNat (a%b):=by
 cases a with
 | zero=>rw[Nat.zero_mod];rfl
 | succ a=>rfl
theorem io(a b:Nat):Int.fdiv (.ofNat a) (.ofNat b)=.ofNat (a / b):=by
 cases a with
 | zero=>rw[Nat.zero_div];rfl
 | succ a=>rfl
noncomputable def shopL:List (List Nat × Nat):=[([102,102,105],64259),([102,102],64256),([102,105],64257),([102],70),([102],119813),([102],102),([105],73),([105],8464)]
noncomputable def unL:List Nat:=[173,847,6150,6155,6156,6157,8203,8204,8205,8288,65279,65024,65025,65026,65027,65028,65029,65030,65031,65032,65033,65034,65035,65036,65037,65038,65039]
noncomputable def b5(c:Nat):List Nat:=((shopL.find? λe=>e.2==c).map (·.1)).getD []
noncomputable def bs:List Nat:=shopL.map (·.2)++unL
noncomputable abbrev fi(r q:Nat):List Nat:=List.replicate r 102++List.replicate q 105
theorem bP(r q:Nat):(fi r q).length=r+q:=by simp[fi]
theorem gU:∀e∈shopL,b5 e.2=e.1∧e.2∈bs∧e.2<1114112∧e.1.length<2^20:=by decide+kernel
theorem js:∀c∈unL,b5 c=[]∧c∈bs∧c<1114112:=by decide+kernel
noncomputable def okE(r q:Nat)(e:List Nat × Nat):Prop:=e∈shopL∧∃r1 q1,e.1=fi r1 q1∧r1≤r∧q1≤q∧(q1=0∨r1=r)∧0<r1+q1
variable{x:List Nat}{p r q r1 q1:Nat}{w:World}{Z V:Bool}
theorem aw{k:Nat}{d y:List Nat}(h:x.drop p=d)(e:d.take k=y):slS (mS x) p (p+k)=y:=by
 unfold slS
 show(x.drop p).take (p+k-p)=y
 rw[h,Nat.add_sub_cancel_left];exact e
theorem ym(hx:x.length<2^20)(h:x.drop p=fi (r+3) q){i:Nat}{m:List Nat}{c:Nat}(hi:([([102,102],64256),([102],70),([102],119813),([102],102)]:List (List Nat × Nat))[i]? =some (m,c)):Fit w Z V x p i 4 m c:=
 λ_ _ _ _ _ _ _ _ _ _ _ _ _ _ _ _ _ _ _ _ _ _ _ _ _ _ _ _ _ _ _ _ _ _ _ _ _=>cA (l:=[([102,102],64256),([102],70),([102],119813),([102],102)]) (yU hx (aw h (by simp[fi,List.replicate_succ])) (aw h (by simp[fi,List.replicate_succ])) (aw h (by simp[fi,List.replicate_succ]))) hi (by decide)
theorem wi(r:Nat)(q:Nat):∀e∈([([102,102],64256),([102],70),([102],119813),([102],102)]:List (List Nat × Nat)),okE (r+3) q e:=by
 intro e he
 simp only[List.mem_cons,List.not_mem_nil,or_false]at he
 rcases he with rfl | rfl | rfl | rfl
 ·exact⟨by decide,2,0,rfl,by lia,by lia,by lia,by decide⟩
 ·exact⟨by decide,1,0,rfl,by lia,by lia,by lia,by decide⟩
 ·exact⟨by decide,1,0,rfl,by lia,by lia,by lia,by decide⟩
 ·exact⟨by decide,1,0,rfl,by lia,by lia,by lia,by decide⟩
theorem yk(hx:x.length<2^20)(h:x.drop p=fi 2 (q+1)){i:Nat}{m:List Nat}{c:Nat}(hi:([([102,102,105],64259),([102,102],64256),([102],70),([102],119813),([102],102)]:List (List Nat × Nat))[i]? =some (m,c)):Fit w Z V x p i 5 m c:=
 λ_ _ _ _ _ _ _ _ _ _ _ _ _ _ _ _ _ _ _ _ _ _ _ _ _ _ _ _ _ _ _ _ _ _ _ _ _=>cA (l:=[([102,102,105],64259),([102,102],64256),([102],70),([102],119813),([102],102)]) (yT hx (aw h (by simp[fi,List.replicate_succ])) (aw h (by simp[fi,List.replicate_succ])) (aw h (by simp[fi,List.replicate_succ]))) hi (by decide)
theorem wg(q:Nat):∀e∈([([102,102,105],64259),([102,102],64256),([102],70),([102],119813),([102],102)]:List (List Nat × Nat)),okE 2 (q+1) e:=by
 intro e he
 simp only[List.mem_cons,List.not_mem_nil,or_false]at he
 rcases he with rfl | rfl | rfl | rfl | rfl
 ·exact⟨by decide,2,1,rfl,by lia,by lia,by lia,by decide⟩
 ·exact⟨by decide,2,0,rfl,by lia,by lia,by lia,by decide⟩
 ·exact⟨by decide,1,0,rfl,by lia,by lia,by lia,by decide⟩
 ·exact⟨by decide,1,0,rfl,by lia,by lia,by lia,by decide⟩
 ·exact⟨by decide,1,0,rfl,by lia,by lia,by lia,by decide⟩
theorem yj(hx:x.length<2^20)(h:x.drop p=fi 2 0){i:Nat}{m:List Nat}{c:Nat}(hi:([([102,102],64256),([102],70),([102],119813),([102],102)]:List (List Nat × Nat))[i]? =some (m,c)):Fit w Z V x p i 4 m c:=
 λ_ _ _ _ _ _ _ _ _ _ _ _ _ _ _ _ _ _ _ _ _ _ _ _ _ _ _ _ _ _ _ _ _ _ _ _ _=>cA (l:=[([102,102],64256),([102],70),([102],119813),([102],102)]) (yS hx (aw h (by simp[fi,List.replicate_succ])) (aw h (by simp[fi,List.replicate_succ])) (aw h (by simp[fi,List.replicate_succ]))) hi (by decide)
theorem wf:∀e∈([([102,102],64256),([102],70),([102],119813),([102],102)]:List (List Nat × Nat)),okE 2 0 e:=by
 intro e he
 simp only[List.mem_cons,List.not_mem_nil,or_false]at he
 rcases he with rfl | rfl | rfl | rfl
 ·exact⟨by decide,2,0,rfl,by lia,by lia,by lia,by decide⟩
 ·exact⟨by decide,1,0,rfl,by lia,by lia,by lia,by decide⟩
 ·exact⟨by decide,1,0,rfl,by lia,by lia,by lia,by decide⟩
 ·exact⟨by decide,1,0,rfl,by lia,by lia,by lia,by decide⟩
theorem yi(hx:x.length<2^20)(h:x.drop p=fi 1 (q+2)){i:Nat}{m:List Nat}{c:Nat}(hi:([([102,105],64257),([102],70),([102],119813),([102],102)]:List (List Nat × Nat))[i]? =some (m,c)):Fit w Z V x p i 4 m c:=
 λ_ _ _ _ _ _ _ _ _ _ _ _ _ _ _ _ _ _ _ _ _ _ _ _ _ _ _ _ _ _ _ _ _ _ _ _ _=>cA (l:=[([102,105],64257),([102],70),([102],119813),([102],102)]) (yR hx (aw h (by simp[fi,List.replicate_succ])) (aw h (by simp[fi,List.replicate_succ])) (aw h (by simp[fi,List.replicate_succ]))) hi (by decide)
theorem we(q:Nat):∀e∈([([102,105],64257),([102],70),([102],119813),([102],102)]:List (List Nat × Nat)),okE 1 (q+2) e:=by
 intro e he
 simp only[List.mem_cons,List.not_mem_nil,or_false]at he
 rcases he with rfl | rfl | rfl | rfl
 ·exact⟨by decide,1,1,rfl,by lia,by lia,by lia,by decide⟩
 ·exact⟨by decide,1,0,rfl,by lia,by lia,by lia,by decide⟩
 ·exact⟨by decide,1,0,rfl,by lia,by lia,by lia,by decide⟩
 ·exact⟨by decide,1,0,rfl,by lia,by lia,by lia,by decide⟩
theorem yh(hx:x.length<2^20)(h:x.drop p=fi 1 1){i:Nat}{m:List Nat}{c:Nat}(hi:([([102,105],64257),([102],70),([102],119813),([102],102)]:List (List Nat × Nat))[i]? =some (m,c)):Fit w Z V x p i 4 m c:=
 λ_ _ _ _ _ _ _ _ _ _ _ _ _ _ _ _ _ _ _ _ _ _ _ _ _ _ _ _ _ _ _ _ _ _ _ _ _=>cA (l:=[([102,105],64257),([102],70),([102],119813),([102],102)]) (yQ hx (aw h (by simp[fi,List.replicate_succ])) (aw h (by simp[fi,List.replicate_succ])) (aw h (by simp[fi,List.replicate_succ]))) hi (by decide)
theorem wb:∀e∈([([102,105],64257),([102],70),([102],119813),([102],102)]:List (List Nat × Nat)),okE 1 1 e:=by
 intro e he
 simp only[List.mem_cons,List.not_mem_nil,or_false]at he
 rcases he with rfl | rfl | rfl | rfl
 ·exact⟨by decide,1,1,rfl,by lia,by lia,by lia,by decide⟩
 ·exact⟨by decide,1,0,rfl,by lia,by lia,by lia,by decide⟩
 ·exact⟨by decide,1,0,rfl,by lia,by lia,by lia,by decide⟩
 ·exact⟨by decide,1,0,rfl,by lia,by lia,by lia,by decide⟩
theorem yg(hx:x.length<2^20)(h:x.drop p=fi 1 0){i:Nat}{m:List Nat}{c:Nat}(hi:([([102],70),([102],119813),([102],102)]:List (List Nat × Nat))[i]? =some (m,c)):Fit w Z V x p i 3 m c:=
 λ_ _ _ _ _ _ _ _ _ _ _ _ _ _ _ _ _ _ _ _ _ _ _ _ _ _ _ _ _ _ _ _ _ _ _ _ _=>cA (l:=[([102],70),([102],119813),([102],102)]) (yP hx (aw h (by simp[fi,List.replicate_succ])) (aw h (by simp[fi,List.replicate_succ])) (aw h (by simp[fi,List.replicate_succ]))) hi (by decide)
theorem wa:∀e∈([([102],70),([102],119813),([102],102)]:List (List Nat × Nat)),okE 1 0 e:=by
 intro e he
 simp only[List.mem_cons,List.not_mem_nil,or_false]at he
 rcases he with rfl | rfl | rfl
 ·exact⟨by decide,1,0,rfl,by lia,by lia,by lia,by decide⟩
 ·exact⟨by decide,1,0,rfl,by lia,by lia,by lia,by decide⟩
 ·exact⟨by decide,1,0,rfl,by lia,by lia,by lia,by decide⟩
theorem yf(hx:x.length<2^20)(h:x.drop p=fi 0 (q+3)){i:Nat}{m:List Nat}{c:Nat}(hi:([([105],73),([105],8464)]:List (List Nat × Nat))[i]? =some (m,c)):Fit w Z V x p i 2 m c:=
 λ_ _ _ _ _ _ _ _ _ _ _ _ _ _ _ _ _ _ _ _ _ _ _ _ _ _ _ _ _ _ _ _ _ _ _ _ _=>cA (l:=[([105],73),([105],8464)]) (yO hx (aw h (by simp[fi,List.replicate_succ])) (aw h (by simp[fi,List.replicate_succ])) (aw h (by simp[fi,List.replicate_succ]))) hi (by decide)
theorem v9(q:Nat):∀e∈([([105],73),([105],8464)]:List (List Nat × Nat)),okE 0 (q+3) e:=by
 intro e he
 simp only[List.mem_cons,List.not_mem_nil,or_false]at he
 rcases he with rfl | rfl
 ·exact⟨by decide,0,1,rfl,by lia,by lia,by lia,by decide⟩
 ·exact⟨by decide,0,1,rfl,by lia,by lia,by lia,by decide⟩
theorem ye(hx:x.length<2^20)(h:x.drop p=fi 0 2){i:Nat}{m:List Nat}{c:Nat}(hi:([([105],73),([105],8464)]:List (List Nat × Nat))[i]? =some (m,c)):Fit w Z V x p i 2 m c:=
 λ_ _ _ _ _ _ _ _ _ _ _ _ _ _ _ _ _ _ _ _ _ _ _ _ _ _ _ _ _ _ _ _ _ _ _ _ _=>cA (l:=[([105],73),([105],8464)]) (yN hx (aw h (by simp[fi,List.replicate_succ])) (aw h (by simp[fi,List.replicate_succ])) (aw h (by simp[fi,List.replicate_succ]))) hi (by decide)
theorem v8:∀e∈([([105],73),([105],8464)]:List (List Nat × Nat)),okE 0 2 e:=by
 intro e he
 simp only[List.mem_cons,List.not_mem_nil,or_false]at he
 rcases he with rfl | rfl
 ·exact⟨by decide,0,1,rfl,by lia,by lia,by lia,by decide⟩
 ·exact⟨by decide,0,1,rfl,by lia,by lia,by lia,by decide⟩
theorem yd(hx:x.length<2^20)(h:x.drop p=fi 0 1){i:Nat}{m:List Nat}{c:Nat}(hi:([([105],73),([105],8464)]:List (List Nat × Nat))[i]? =some (m,c)):Fit w Z V x p i 2 m c:=
 λ_ _ _ _ _ _ _ _ _ _ _ _ _ _ _ _ _ _ _ _ _ _ _ _ _ _ _ _ _ _ _ _ _ _ _ _ _=>cA (l:=[([105],73),([105],8464)]) (yM hx (aw h (by simp[fi,List.replicate_succ])) (aw h (by simp[fi,List.replicate_succ])) (aw h (by simp[fi,List.replicate_succ]))) hi (by decide)
theorem v4:∀e∈([([105],73),([105],8464)]:List (List Nat × Nat)),okE 0 1 e:=by
 intro e he
 simp only[List.mem_cons,List.not_mem_nil,or_false]at he
 rcases he with rfl | rfl
 ·exact⟨by decide,0,1,rfl,by lia,by lia,by lia,by decide⟩
 ·exact⟨by decide,0,1,rfl,by lia,by lia,by lia,by decide⟩
theorem qU(hx:x.length<2^20):∀(r q:Nat),x.drop p=fi r q→0<r+q→
  ∃l:List (List Nat × Nat),0<l.length∧l.length≤5∧(∀e∈l,okE r q e)∧∀i m c,l[i]? =some (m,c)→Fit w Z V x p i l.length m c
 | r+3,q,h,_=>⟨[([102,102],64256),([102],70),([102],119813),([102],102)],by decide,by decide,wi r q,λ_ _ _ hi=>ym hx h hi⟩
 | 2,q+1,h,_=>⟨[([102,102,105],64259),([102,102],64256),([102],70),([102],119813),([102],102)],by decide,by decide,wg q,λ_ _ _ hi=>yk hx h hi⟩
 | 2,0,h,_=>⟨[([102,102],64256),([102],70),([102],119813),([102],102)],by decide,by decide,wf,λ_ _ _ hi=>yj hx h hi⟩
 | 1,q+2,h,_=>⟨[([102,105],64257),([102],70),([102],119813),([102],102)],by decide,by decide,we q,λ_ _ _ hi=>yi hx h hi⟩
 | 1,1,h,_=>⟨[([102,105],64257),([102],70),([102],119813),([102],102)],by decide,by decide,wb,λ_ _ _ hi=>yh hx h hi⟩
 | 1,0,h,_=>⟨[([102],70),([102],119813),([102],102)],by decide,by decide,wa,λ_ _ _ hi=>yg hx h hi⟩
 | 0,q+3,h,_=>⟨[([105],73),([105],8464)],by decide,by decide,v9 q,λ_ _ _ hi=>yf hx h hi⟩
 | 0,2,h,_=>⟨[([105],73),([105],8464)],by decide,by decide,v8,λ_ _ _ hi=>ye hx h hi⟩
 | 0,1,h,_=>⟨[([105],73),([105],8464)],by decide,by decide,v4,λ_ _ _ hi=>yd hx h hi⟩
 | 0,0,_,h=>absurd h (by decide)
noncomputable def uF(us:List Value):Prop:=∀(k c:Nat),unL[k]? =some c→∃tt,us[k]? =some (Value.int (.ofNat c) tt)
noncomputable def B8(w:World)(Z V:Bool)(x:List Nat)(p sd:Nat)(wd wd':List Nat)(ZL:Nat):Prop:=
 ∀(G:GP) (fa k1 k2 un sh s0 s1 s2 s3 s4 s5 s6 s7:Addr) (a0 a1 a2 a3 a4 a5 a6 a7 c0 c1 c2 c3 c4 c5 c6 c7:Tok) (es:Nat) (us:List Value) (eu:Nat) (u1 u2 t1 t2 t3 t4 u3 u4 t5 t6 t7:Tok) (v5 v6 v7:Value) (e:Nat),uF us→
  Ok (W2 w Z V) 3 (wlS (Pw w Z V) G fa k1 k2 un sh s0 s1 s2 s3 s4 s5 s6 s7 a0 a1 a2 a3 a4 a5 a6 a7 c0 c1 c2 c3 c4 c5 c6 c7 es us eu x p u1 u2 t1 t2 t3 t4 sd u3 wd u4 (iw (Pw w Z V) t5 t6 t7 v5 v6 v7) e wd' ZL)
structure Spelt (ws:List Nat) (r q:Nat):Prop where
 al:∀c∈ws,c∈bs
 dec:ws.flatMap b5=fi r q
 len:ws.length≤2*(r+q)
theorem Spelt.nil:Spelt [] 0 0:=⟨λc h=>(nomatch h),rfl,by decide⟩
theorem Spelt.step{ws:List Nat}{m:List Nat}{c:Nat}(h:Spelt ws (r-r1) (q-q1))(hc:(m,c)∈shopL)(hm:m=fi r1 q1)(h1:r1≤r)(h2:q1≤q)(h3:q1=0∨r1=r)(h4:0<r1+q1)(l:List Nat)(hl:∀y∈l,y∈unL)(hn:l.length≤1):
  Spelt (c::(l++ws)) r q:=by
 obtain⟨d1,d2,_,_⟩:=gU _ hc
 refine⟨λy hy=>?_,?_,?_⟩
 ·rcases List.mem_cons.mp hy with rfl | hy
  ·exact d2
  ·rcases List.mem_append.mp hy with hy | hy
   ·exact(js _ (hl _ hy)).2.1
   ·exact h.al _ hy
 ·rw[List.flatMap_cons,List.flatMap_append,h.dec,d1]
  have e:l.flatMap b5=[]:=List.flatMap_eq_nil_iff.mpr λy hy=>(js _ (hl _ hy)).1
  rw[e,hm,List.nil_append]
  rcases h3 with h3 | h3
  ·subst h3
   simp only[fi,List.replicate_zero,List.append_nil,Nat.sub_zero]
   rw[←List.append_assoc,List.replicate_append_replicate,Nat.add_sub_cancel' h1]
  ·subst h3
   simp only[fi,Nat.sub_self,List.replicate_zero,List.nil_append]
   rw[List.append_assoc,List.replicate_append_replicate,Nat.add_sub_cancel' h2]
 ·rw[List.length_cons,List.length_append]
  have:=h.len
  lia
theorem kj(h:x.drop p=fi r q)(h1:r1≤r)(h2:q1≤q)(h3:q1=0∨r1=r):x.drop (p+(fi r1 q1).length)=fi (r-r1) (q-q1):=by
 rw[←List.drop_drop,h,bP]
 rcases h3 with h3 | h3
 ·subst h3
  rw[Nat.add_zero,Nat.sub_zero,List.drop_append,List.drop_replicate,List.length_replicate,Nat.sub_eq_zero_of_le h1,List.drop_zero]
 ·subst h3
  rw[List.drop_append,List.drop_replicate,List.length_replicate,Nat.add_sub_cancel_left,List.drop_replicate,Nat.sub_eq_zero_of_le (Nat.le_add_right _ _),Nat.sub_self]
theorem oy{α:Type}{l:List α}{i:Nat}(h:i<l.length):∃m,l[i]? =some m∧m∈l:=⟨l[i],List.getElem?_eq_getElem h,List.getElem_mem h⟩
theorem mV(hx:x.length<2^17):∀(N r q p sd:Nat) (wd:List Nat),r+q≤N→x.drop p=fi r q→sd<65537→p≤x.length→wd.length+2*(r+q)<2^19→
  ∃ws ZL,ZL<65537∧Spelt ws r q∧B8 w Z V x p sd wd (wd++ws) ZL:=by
 intro N
 induction N with
 | zero=>
  intro r q p sd wd hN hd hs hp hw
  obtain⟨rfl,rfl⟩:r=0∧q=0:=by lia
  refine⟨[],sd,hs,Spelt.nil,?_⟩
  have hl:¬p<x.length:=by
   have:=congrArg List.length hd
   rw[List.length_drop,bP]at this;lia
  rw[List.append_nil]
  intro G fa k1 k2 un sh s0 s1 s2 s3 s4 s5 s6 s7 a0 a1 a2 a3 a4 a5 a6 a7 c0 c1 c2 c3 c4 c5 c6 c7 es us eu u1 u2 t1 t2 t3 t4 u3 u4 t5 t6 t7 v5 v6 v7 e hus
  exact qx (by lia) (decide_eq_false (by show ¬((p:Int)<(x.length:Int));lia))
 | succ N ih=>
  intro r q p sd wd hN hd hs hp hw
  by_cases h0:r+q=0
  ·obtain⟨rfl,rfl⟩:r=0∧q=0:=by lia
   refine⟨[],sd,hs,Spelt.nil,?_⟩
   have hl:¬p<x.length:=by
    have:=congrArg List.length hd
    rw[List.length_drop,bP]at this;lia
   rw[List.append_nil]
   intro G fa k1 k2 un sh s0 s1 s2 s3 s4 s5 s6 s7 a0 a1 a2 a3 a4 a5 a6 a7 c0 c1 c2 c3 c4 c5 c6 c7 es us eu u1 u2 t1 t2 t3 t4 u3 u4 t5 t6 t7 v5 v6 v7 e hus
   exact qx (by lia) (decide_eq_false (by show ¬((p:Int)<(x.length:Int));lia))
  ·obtain⟨l,hl0,hl5,hok,hfit⟩:=qU (w:=w) (Z:=Z) (V:=V) (x:=x) (p:=p) (by lia) r q hd (by lia)
   have Zy:p<x.length:=by
    have:=congrArg List.length hd
    rw[List.length_drop,bP]at this;lia
   obtain⟨⟨m,c⟩,hmc,hin⟩:=oy (Nat.mod_lt sd hl0)
   obtain⟨hsh,r1,q1,hm,g1,g2,g3,g4⟩:=hok _ hin
   have hm:m=fi r1 q1:=hm
   obtain⟨d1,d2,d3,d4⟩:=gU _ hsh
   have hml:m.length=r1+q1:=by rw[hm,bP]
   have hd':x.drop (p+m.length)=fi (r-r1) (q-q1):=by rw[hm];exact kj hd g1 g2 g3
   have Zo:p+m.length≤x.length:=by
    have:=congrArg List.length hd
    rw[List.length_drop,bP]at this;lia
   have ZJ:Int.fmod (.ofNat sd*75+74) 65537=.ofNat ((sd*75+74)%65537):=ba (sd*75+74) 65537
   have hq:Int.fmod (Int.fdiv (.ofNat sd) 24) 3=.ofNat (sd / 24%3):=by
    rw[show Int.fdiv (.ofNat sd) 24=.ofNat (sd / 24)from io sd 24];exact ba _ 3
   have hk:Int.fmod (Int.fdiv (.ofNat sd) 72) 27=.ofNat (sd / 72%27):=by
    rw[show Int.fdiv (.ofNat sd) 72=.ofNat (sd / 72)from io sd 72];exact ba _ 27
   have hdl:decide ((.ofNat p:Int)< .ofNat x.length)=true:=decide_eq_true (by show(p:Int)<(x.length:Int);lia)
   have hn:(Int.ofNat sd).natAbs<2^20:=by show sd<2^20;lia
   by_cases hz:sd / 24%3=0
   ·rw[hz]at hq
    obtain⟨cu,hcu,hcm⟩:=oy (l:=unL) (i:=sd / 72%27) (Nat.mod_lt _ (by decide))
    obtain⟨e1,e2,e3⟩:=js _ hcm
    obtain⟨ws,ZL,z1,z2,z3⟩:=ih (r-r1) (q-q1) (p+m.length) ((sd*75+74)%65537) (wd++[c]++[cu]) (by lia) hd' (Nat.mod_lt _ (by decide)) Zo (by rw[List.length_append,List.length_append];simp only[List.length_cons,List.length_nil];lia)
    refine⟨c::([cu]++ws),ZL,z1,z2.step hsh hm g1 g2 g3 g4 [cu] (λy hy=>by rw[List.mem_singleton]at hy;rw[hy];exact hcm) (Nat.le_refl _),?_⟩
    rw[show wd++c::([cu]++ws)=wd++[c]++[cu]++ws by simp]
    intro G fa k1 k2 un sh s0 s1 s2 s3 s4 s5 s6 s7 a0 a1 a2 a3 a4 a5 a6 a7 c0 c1 c2 c3 c4 c5 c6 c7 es us eu u1 u2 t1 t2 t3 t4 u3 u4 t5 t6 t7 v5 v6 v7 e hus
    obtain⟨tt,htt⟩:=hus _ _ hcu
    exact uM hq hk htt (by lia) e3 (by lia) (by lia) d4 d3 hdl (hfit _ _ _ hmc) (ba sd l.length) hl0 (Nat.mod_lt sd hl0) (by lia) hn ZJ λC U O=>by apply z3<;>exact hus
   ·obtain⟨ws,ZL,z1,z2,z3⟩:=ih (r-r1) (q-q1) (p+m.length) ((sd*75+74)%65537) (wd++[c]) (by lia) hd' (Nat.mod_lt _ (by decide)) Zo (by rw[List.length_append];simp only[List.length_cons,List.length_nil];lia)
    refine⟨c::([]++ws),ZL,z1,z2.step hsh hm g1 g2 g3 g4 [] (λy hy=>(nomatch hy)) (by decide),?_⟩
    rw[show wd++c::([]++ws)=wd++[c]++ws by simp]
    intro G fa k1 k2 un sh s0 s1 s2 s3 s4 s5 s6 s7 a0 a1 a2 a3 a4 a5 a6 a7 c0 c1 c2 c3 c4 c5 c6 c7 es us eu u1 u2 t1 t2 t3 t4 u3 u4 t5 t6 t7 v5 v6 v7 e hus
    exact uO hq (by rw[beq_eq_false_iff_ne];exact λh=>hz (Int.ofNat.inj h)) (by lia) (by lia) d4 d3 hdl (hfit _ _ _ hmc) (ba sd l.length) hl0 (Nat.mod_lt sd hl0) (by lia) hn ZJ λC U O=>by apply z3<;>exact hus
noncomputable def WlA(w:World)(Z V:Bool)(x:List Nat)(sd:Nat)(wd':List Nat)(ZL:Nat):Prop:=
 ∀(G:GP) (fa k1 k2 un sh s0 s1 s2 s3 s4 s5 s6 s7:Addr) (a0 a1 a2 a3 a4 a5 a6 a7 c0 c1 c2 c3 c4 c5 c6 c7:Tok) (es:Nat) (us:List Value) (eu:Nat) (u1 u2 t1 t2 t3 t4 u3 u4:Tok) (e:Nat),uF us→
  Ok (W2 w Z V) 3 (wlS (Pw w Z V) G fa k1 k2 un sh s0 s1 s2 s3 s4 s5 s6 s7 a0 a1 a2 a3 a4 a5 a6 a7 c0 c1 c2 c3 c4 c5 c6 c7 es us eu x 0 u1 u2 t1 t2 t3 t4 sd u3 [] u4 [] e wd' ZL)
theorem uS{sd:Nat}(h0:0<r+q)(hx:r+q<2^16)(hs:sd<65537):
  ∃ws ZL,ZL<65537∧Spelt ws r q∧WlA w Z V (fi r q) sd ws ZL:=by
 have hlen:=bP r q
 have hd:(fi r q).drop 0=fi r q:=rfl
 obtain⟨l,hl0,hl5,hok,hfit⟩:=qU (w:=w) (Z:=Z) (V:=V) (x:=fi r q) (p:=0) (by lia) r q hd h0
 obtain⟨⟨m,c⟩,hmc,hin⟩:=oy (Nat.mod_lt sd hl0)
 obtain⟨hsh,r1,q1,hm,g1,g2,g3,g4⟩:=hok _ hin
 have hm:m=fi r1 q1:=hm
 obtain⟨d1,d2,d3,d4⟩:=gU _ hsh
 have hml:m.length=r1+q1:=by rw[hm,bP]
 have hd':(fi r q).drop (0+m.length)=fi (r-r1) (q-q1):=by rw[hm];exact kj hd g1 g2 g3
 have ZJ:Int.fmod (.ofNat sd*75+74) 65537=.ofNat ((sd*75+74)%65537):=ba (sd*75+74) 65537
 have hq:Int.fmod (Int.fdiv (.ofNat sd) 24) 3=.ofNat (sd / 24%3):=by
  rw[show Int.fdiv (.ofNat sd) 24=.ofNat (sd / 24)from io sd 24];exact ba _ 3
 have hk:Int.fmod (Int.fdiv (.ofNat sd) 72) 27=.ofNat (sd / 72%27):=by
  rw[show Int.fdiv (.ofNat sd) 72=.ofNat (sd / 72)from io sd 72];exact ba _ 27
 have hdl:decide ((.ofNat 0:Int)< .ofNat (fi r q).length)=true:=decide_eq_true (by show((0:Nat):Int)<((fi r q).length:Int);lia)
 have hn:(Int.ofNat sd).natAbs<2^20:=by show sd<2^20;lia
 by_cases hz:sd / 24%3=0
 ·rw[hz]at hq
  obtain⟨cu,hcu,hcm⟩:=oy (l:=unL) (i:=sd / 72%27) (Nat.mod_lt _ (by decide))
  obtain⟨e1,e2,e3⟩:=js _ hcm
  obtain⟨ws,ZL,z1,z2,z3⟩:=mV (w:=w) (Z:=Z) (V:=V) (x:=fi r q) (by lia) _ (r-r1) (q-q1) (0+m.length) ((sd*75+74)%65537) ([]++[c]++[cu]) (Nat.le_refl _) hd' (Nat.mod_lt _ (by decide)) (by lia) (by simp only[List.nil_append,List.length_append,List.length_cons,List.length_nil];lia)
  refine⟨c::([cu]++ws),ZL,z1,z2.step hsh hm g1 g2 g3 g4 [cu] (λy hy=>by rw[List.mem_singleton]at hy;rw[hy];exact hcm) (Nat.le_refl _),?_⟩
  rw[show c::([cu]++ws)=[]++[c]++[cu]++ws by simp]
  intro G fa k1 k2 un sh s0 s1 s2 s3 s4 s5 s6 s7 a0 a1 a2 a3 a4 a5 a6 a7 c0 c1 c2 c3 c4 c5 c6 c7 es us eu u1 u2 t1 t2 t3 t4 u3 u4 e hus
  obtain⟨tt,htt⟩:=hus _ _ hcu
  exact uN hq hk htt (by lia) e3 (by lia) (by decide) d4 d3 hdl (hfit _ _ _ hmc) (ba sd l.length) hl0 (Nat.mod_lt sd hl0) (by lia) hn ZJ λC U O=>by apply z3<;>exact hus
 ·obtain⟨ws,ZL,z1,z2,z3⟩:=mV (w:=w) (Z:=Z) (V:=V) (x:=fi r q) (by lia) _ (r-r1) (q-q1) (0+m.length) ((sd*75+74)%65537) ([]++[c]) (Nat.le_refl _) hd' (Nat.mod_lt _ (by decide)) (by lia) (by simp only[List.nil_append,List.length_cons,List.length_nil];lia)
  refine⟨c::([]++ws),ZL,z1,z2.step hsh hm g1 g2 g3 g4 [] (λy hy=>(nomatch hy)) (by decide),?_⟩
  rw[show c::([]++ws)=[]++[c]++ws by simp]
  intro G fa k1 k2 un sh s0 s1 s2 s3 s4 s5 s6 s7 a0 a1 a2 a3 a4 a5 a6 a7 c0 c1 c2 c3 c4 c5 c6 c7 es us eu u1 u2 t1 t2 t3 t4 u3 u4 e hus
  exact uP hq (by rw[beq_eq_false_iff_ne];exact λh=>hz (Int.ofNat.inj h)) (by lia) (by decide) d4 d3 hdl (hfit _ _ _ hmc) (ba sd l.length) hl0 (Nat.mod_lt sd hl0) (by lia) hn ZJ λC U O=>by apply z3<;>exact hus
end
section
open PySem PySem.W PySem.W.X PySem.Builtin
noncomputable abbrev aD:List Nat:=[115,105,103,110]
noncomputable def qY:PySem.Expr→Nat→PySem.Expr
 | .Call _ C _ _,i=>C[i]?.getD noE
 | _,_=>noE
noncomputable def spE:PySem.Expr:=qY (exV (b4 (bdS (stA 13)) 4)) 0
noncomputable def qC(D fa:Addr):Env:=g7 (stA 13) spE 143 fa D []
noncomputable def iF(P:Params)(T:String)(x:List Nat)(u:Tok)(i:Nat)(vs:List Value)(e0:Nat)(kv:List DictEntry)(e1:Nat):List (Option Obj):=[some (dZ T (.str (mS x) u) i),some (lO vs e0),some (diO kv e1)]
noncomputable def spF(P:Params)(T:String)(n:Nat)(ys:List (List Nat)):FT:=λ_ U O=>⟨.ok .next,[(0,dZ T .none n),(1,lO (qSL ys (O 0)) (U 0)),(2,diO [en P aD (U 1) (O 1)] (U 2))],[]⟩
noncomputable def spS(P:Params)(G:GP)(T:String)(it Z9 D fa:Addr)(x:List Nat)(u:Tok)(i:Nat)(vs:List Value)(e0:Nat)(kv:List DictEntry)(e1:Nat)(n:Nat)(ys:List (List Nat)):ac:=
 sd (.compLoop spE 0 (.ref it) (.ref Z9) (qC D fa)) (aa [it,Z9,D]) (iF P T x u i vs e0 kv e1) G G 0 3 2 (spF P T n ys)
noncomputable def spA(P:Params)(G:GP)(T:String)(it Z9 D fa:Addr)(x:List Nat)(u:Tok)(i:Nat)(vs:List Value)(e0:Nat)(kv:List DictEntry)(e1:Nat)(n:Nat)(ys:List (List Nat)):ac:=
 sd (.compStart spE 0 (.ref it) (.ref Z9) (qC D fa)) (aa [it,Z9,D]) (iF P T x u i vs e0 kv e1) G G 0 3 2 (spF P T n ys)
end
section
open PySem PySem.W PySem.W.X PySem.Builtin
noncomputable abbrev iZ(G:GP)(c:Nat)(zz:List It):List It:=
 .i (ub 5 0xa60003a6a6)::.n::.f [] (λN=>fp G (@Nat.cast.{0} Int instNatCastInt c) 1 (N.t 2) (N.t 3) 1)::.i [166]::.f [] (λN=>aX G [92] [c] (N.t 6) (N.t 0))::zz
noncomputable abbrev iY(G:GP)(c:Nat)(zz:List It):List It:=
 .i (ub 5 0xa60003a6a6)::.n::.f [] (λN=>fp G (@Nat.cast.{0} Int instNatCastInt c) 1 (N.t 2) (N.t 3) 0)::.i [166]::zz
section
variable{w:World}{Z V:Bool}{G:GP}{it Z9 D fa:Addr}{x:List Nat}{u:Tok}{ys:List (List Nat)}{v v1:Value}{e0:Nat}{t1:Tok}{e1 c i:Nat}{vs:List Value}
theorem rK(hx:x[x.length]? =none):Ok (W2 w Z V) 3 (spS (Pw w Z V) G "str_ascii_iterator" it Z9 D fa x u x.length (qSL ys v) e0 [en (Pw w Z V) aD t1 v1] e1 x.length ys):=
 okC [] 8 (λN=>[e0,t1,e1]) (λN=>[v,v1])
 (.i [164]::.f [0] (λN=>k4 G it x u (x).length)::.i [168]::[])
 (λ_ _ _=>by kernel_rfl) (λN=>⟨okU (nX hx),trivial⟩)
theorem vH(nx:NX λC U O=>Ok (W2 w Z V) 3 (spS (Pw w Z V) G "str_ascii_iterator" it Z9 D fa x u 0 [] e0 [] e1 x.length ys)):Ok (W2 w Z V) 3 (spA (Pw w Z V) G "str_ascii_iterator" it Z9 D fa x u 0 [] e0 [] e1 x.length ys):=
 aj nx (λN=>List.map N.r []) (λN=>[]) (λN=>[]) 15
 (.i (pqB V)::[])
 (sF (sg2 (by kernel_rfl)) Z V) (λN=>trivial)
theorem vL(hc:x[0]? =some c)(hm:Int.fmod (.ofNat c) 2=0)(nx:NX λC U O=>Ok (W2 w Z V) 3 (spS (Pw w Z V) G "str_ascii_iterator" it Z9 D fa x u 1 [.str (mS [c]) (U 0)] (U 1) [en (Pw w Z V) aD (U 2) (O 0)] (U 3) x.length ys)):Ok (W2 w Z V) 3 (spS (Pw w Z V) G "str_ascii_iterator" it Z9 D fa x u 0 [] e0 [] e1 x.length ys):=
 aj nx (λN=>List.map N.r []) (λN=>[(N.t 0),(N.t 6),(N.t 1),(e1+1)]) (λN=>[(.str (mS [c]) (N.t 0))]) 37
 (.i [164]::.f [0] (λN=>cW G it x u 0 c)::(iY G c (.f [1] (λN=>am G Z9 [] e0 (.str (mS [c]) (N.t 0)))::[])))
 (sE (sg1 (by kernel_rfl)) Z) (λN=>⟨okU (dq hc),okU (b0 hm),okU (ao),trivial⟩)
theorem vK(hc:x[i]? =some c)(hv:vs.length<2^20)(hm:Int.fmod (.ofNat c) 2=0)(nx:NX λC U O=>Ok (W2 w Z V) 3 (spS (Pw w Z V) G "str_ascii_iterator" it Z9 D fa x u (i+1) (vs++[.str (mS [c]) (U 0)]) (U 1) [en (Pw w Z V) aD (U 2) (O 0)] (U 3) x.length ys)):Ok (W2 w Z V) 3 (spS (Pw w Z V) G "str_ascii_iterator" it Z9 D fa x u i vs e0 [en (Pw w Z V) aD t1 v1] e1 x.length ys):=
 aj nx (λN=>List.map N.r []) (λN=>[(N.t 0),(N.t 6),t1,e1]) (λN=>[(.str (mS [c]) (N.t 0))]) 37
 (.i [164]::.f [0] (λN=>cW G it x u i c)::(iY G c (.f [1] (λN=>am G Z9 vs e0 (.str (mS [c]) (N.t 0)))::[])))
 (sE (sg1 (by kernel_rfl)) Z) (λN=>⟨okU (dq hc),okU (b0 hm),okU (ao hv),trivial⟩)
theorem vJ(hc:x[0]? =some c)(hm:Int.fmod (.ofNat c) 2=1)(nx:NX λC U O=>Ok (W2 w Z V) 3 (spS (Pw w Z V) G "str_ascii_iterator" it Z9 D fa x u 1 [.str (mS [92,c]) (U 0)] (U 1) [en (Pw w Z V) aD (U 2) (O 0)] (U 3) x.length ys)):Ok (W2 w Z V) 3 (spS (Pw w Z V) G "str_ascii_iterator" it Z9 D fa x u 0 [] e0 [] e1 x.length ys):=
 aj nx (λN=>List.map N.r []) (λN=>[(N.t 7),(N.t 8),(N.t 1),(e1+1)]) (λN=>[(.str (mS [c]) (N.t 0))]) 41
 (.i [164]::.f [0] (λN=>cW G it x u 0 c)::(iZ G c (.f [1] (λN=>am G Z9 [] e0 (.str (mS [92,c]) (N.t 7)))::[])))
 (sE (sg1 (by kernel_rfl)) Z) (λN=>⟨okU (dq hc),okU (b0 hm),okU (bi),okU (ao),trivial⟩)
theorem vI(hc:x[i]? =some c)(hv:vs.length<2^20)(hm:Int.fmod (.ofNat c) 2=1)(nx:NX λC U O=>Ok (W2 w Z V) 3 (spS (Pw w Z V) G "str_ascii_iterator" it Z9 D fa x u (i+1) (vs++[.str (mS [92,c]) (U 0)]) (U 1) [en (Pw w Z V) aD (U 2) (O 0)] (U 3) x.length ys)):Ok (W2 w Z V) 3 (spS (Pw w Z V) G "str_ascii_iterator" it Z9 D fa x u i vs e0 [en (Pw w Z V) aD t1 v1] e1 x.length ys):=
 aj nx (λN=>List.map N.r []) (λN=>[(N.t 7),(N.t 8),t1,e1]) (λN=>[(.str (mS [c]) (N.t 0))]) 41
 (.i [164]::.f [0] (λN=>cW G it x u i c)::(iZ G c (.f [1] (λN=>am G Z9 vs e0 (.str (mS [92,c]) (N.t 7)))::[])))
 (sE (sg1 (by kernel_rfl)) Z) (λN=>⟨okU (dq hc),okU (b0 hm),okU (bi),okU (ao hv),trivial⟩)
theorem rJ(hx:x[x.length]? =none):Ok (W2 w Z V) 3 (spS (Pw w Z V) G "str_iterator" it Z9 D fa x u x.length (qSL ys v) e0 [en (Pw w Z V) aD t1 v1] e1 x.length ys):=
 okC [] 8 (λN=>[e0,t1,e1]) (λN=>[v,v1])
 (.i [164]::.f [0] (λN=>kZ G it x u (x).length)::.i [168]::[])
 (λ_ _ _=>by kernel_rfl) (λN=>⟨okU (nW hx),trivial⟩)
theorem vG(nx:NX λC U O=>Ok (W2 w Z V) 3 (spS (Pw w Z V) G "str_iterator" it Z9 D fa x u 0 [] e0 [] e1 x.length ys)):Ok (W2 w Z V) 3 (spA (Pw w Z V) G "str_iterator" it Z9 D fa x u 0 [] e0 [] e1 x.length ys):=
 aj nx (λN=>List.map N.r []) (λN=>[]) (λN=>[]) 15
 (.i (pqB V)::[])
 (sF (sg2 (by kernel_rfl)) Z V) (λN=>trivial)
theorem vF(hc:x[0]? =some c)(hm:Int.fmod (.ofNat c) 2=0)(nx:NX λC U O=>Ok (W2 w Z V) 3 (spS (Pw w Z V) G "str_iterator" it Z9 D fa x u 1 [.str (mS [c]) (U 0)] (U 1) [en (Pw w Z V) aD (U 2) (O 0)] (U 3) x.length ys)):Ok (W2 w Z V) 3 (spS (Pw w Z V) G "str_iterator" it Z9 D fa x u 0 [] e0 [] e1 x.length ys):=
 aj nx (λN=>List.map N.r []) (λN=>[(N.t 0),(N.t 6),(N.t 1),(e1+1)]) (λN=>[(.str (mS [c]) (N.t 0))]) 37
 (.i [164]::.f [0] (λN=>cV G it x u 0 c)::(iY G c (.f [1] (λN=>am G Z9 [] e0 (.str (mS [c]) (N.t 0)))::[])))
 (sE (sg1 (by kernel_rfl)) Z) (λN=>⟨okU (dm hc),okU (b0 hm),okU (ao),trivial⟩)
theorem vE(hc:x[i]? =some c)(hv:vs.length<2^20)(hm:Int.fmod (.ofNat c) 2=0)(nx:NX λC U O=>Ok (W2 w Z V) 3 (spS (Pw w Z V) G "str_iterator" it Z9 D fa x u (i+1) (vs++[.str (mS [c]) (U 0)]) (U 1) [en (Pw w Z V) aD (U 2) (O 0)] (U 3) x.length ys)):Ok (W2 w Z V) 3 (spS (Pw w Z V) G "str_iterator" it Z9 D fa x u i vs e0 [en (Pw w Z V) aD t1 v1] e1 x.length ys):=
 aj nx (λN=>List.map N.r []) (λN=>[(N.t 0),(N.t 6),t1,e1]) (λN=>[(.str (mS [c]) (N.t 0))]) 37
 (.i [164]::.f [0] (λN=>cV G it x u i c)::(iY G c (.f [1] (λN=>am G Z9 vs e0 (.str (mS [c]) (N.t 0)))::[])))
 (sE (sg1 (by kernel_rfl)) Z) (λN=>⟨okU (dm hc),okU (b0 hm),okU (ao hv),trivial⟩)
theorem vD(hc:x[0]? =some c)(hm:Int.fmod (.ofNat c) 2=1)(nx:NX λC U O=>Ok (W2 w Z V) 3 (spS (Pw w Z V) G "str_iterator" it Z9 D fa x u 1 [.str (mS [92,c]) (U 0)] (U 1) [en (Pw w Z V) aD (U 2) (O 0)] (U 3) x.length ys)):Ok (W2 w Z V) 3 (spS (Pw w Z V) G "str_iterator" it Z9 D fa x u 0 [] e0 [] e1 x.length ys):=
 aj nx (λN=>List.map N.r []) (λN=>[(N.t 7),(N.t 8),(N.t 1),(e1+1)]) (λN=>[(.str (mS [c]) (N.t 0))]) 41
 (.i [164]::.f [0] (λN=>cV G it x u 0 c)::(iZ G c (.f [1] (λN=>am G Z9 [] e0 (.str (mS [92,c]) (N.t 7)))::[])))
 (sE (sg1 (by kernel_rfl)) Z) (λN=>⟨okU (dm hc),okU (b0 hm),okU (bi),okU (ao),trivial⟩)
theorem vC(hc:x[i]? =some c)(hv:vs.length<2^20)(hm:Int.fmod (.ofNat c) 2=1)(nx:NX λC U O=>Ok (W2 w Z V) 3 (spS (Pw w Z V) G "str_iterator" it Z9 D fa x u (i+1) (vs++[.str (mS [92,c]) (U 0)]) (U 1) [en (Pw w Z V) aD (U 2) (O 0)] (U 3) x.length ys)):Ok (W2 w Z V) 3 (spS (Pw w Z V) G "str_iterator" it Z9 D fa x u i vs e0 [en (Pw w Z V) aD t1 v1] e1 x.length ys):=
 aj nx (λN=>List.map N.r []) (λN=>[(N.t 7),(N.t 8),t1,e1]) (λN=>[(.str (mS [c]) (N.t 0))]) 41
 (.i [164]::.f [0] (λN=>cV G it x u i c)::(iZ G c (.f [1] (λN=>am G Z9 vs e0 (.str (mS [92,c]) (N.t 7)))::[])))
 (sE (sg1 (by kernel_rfl)) Z) (λN=>⟨okU (dm hc),okU (b0 hm),okU (bi),okU (ao hv),trivial⟩)
end
noncomputable def spY(c:Nat):List Nat:=match c%2 with
 | 1=>[92,c]
 | _=>[c]
noncomputable def aB(x:List Nat):List (List Nat):=x.map spY
theorem fL{w:World}{Z V:Bool}{G:GP}{it Z9 D fa:Addr}{x:List Nat}{u:Tok}(hx:x.length<2^20):∀(l:List Nat) (i:Nat) (ys:List (List Nat)) (v:Value) (e0:Nat) (t1:Tok) (v1:Value) (e1:Nat),x.drop i=l→ys.length=i→i≤x.length→
  Ok (W2 w Z V) 3 (spS (Pw w Z V) G "str_ascii_iterator" it Z9 D fa x u i (qSL ys v) e0 [en (Pw w Z V) aD t1 v1] e1 x.length (ys++aB l))
 | [],i,ys,v,e0,t1,v1,e1,hl,hy,hi=>by
  have:i=x.length:=by have:=congrArg List.length hl;rw[List.length_drop]at this;simp only[List.length_nil]at this;lia
  subst this
  have:=rK (w:=w) (Z:=Z) (V:=V) (G:=G) (it:=it) (Z9:=Z9) (D:=D) (fa:=fa) (x:=x) (u:=u) (ys:=ys) (v:=v) (v1:=v1) (e0:=e0) (t1:=t1) (e1:=e1) (by simp)
  show Ok _ _ (spS _ _ _ _ _ _ _ _ _ _ _ _ _ _ _ (ys++[]))
  rw[List.append_nil]
  exact this
 | c::l,i,ys,v,e0,t1,v1,e1,hl,hy,hi=>by
  have hc:x[i]? =some c:=by
   have:=congrArg (λy=>y[0]?) hl
   simpa using this
  have Zy:i<x.length:=(List.getElem?_eq_some_iff.mp hc).1
  have hd:x.drop (i+1)=l:=by rw[←List.drop_drop,hl];rfl
  have hv:(qSL ys v).length<2^20:=by rw[bG];lia
  have e:ys++aB (c::l)=(ys++[spY c])++aB l:=by show ys++spY c::aB l=_;simp
  rw[e]
  have h2:c%2=0∨c%2=1:=by lia
  rcases h2 with h2 | h2
  ·have hs:spY c=[c]:=by simp[spY,h2]
   rw[hs]
   refine vK hc hv (by rw[show Int.fmod (.ofNat c) 2=.ofNat (c%2)from ba c 2,h2];rfl) λC U O=>?_
   obtain⟨v',Zs⟩:=aR ys v [c] (U 0)
   have:=fL (w:=w) (Z:=Z) (V:=V) (G:=G) (it:=it) (Z9:=Z9) (D:=D) (fa:=fa) (u:=u) hx l (i+1) (ys++[[c]]) v' (U 1) (U 2) (O 0) (U 3) hd (by simp[hy]) (by lia)
   rw[Zs]at this
   exact this
  ·have hs:spY c=[92,c]:=by simp[spY,h2]
   rw[hs]
   refine vI hc hv (by rw[show Int.fmod (.ofNat c) 2=.ofNat (c%2)from ba c 2,h2];rfl) λC U O=>?_
   obtain⟨v',Zs⟩:=aR ys v [92,c] (U 0)
   have:=fL (w:=w) (Z:=Z) (V:=V) (G:=G) (it:=it) (Z9:=Z9) (D:=D) (fa:=fa) (u:=u) hx l (i+1) (ys++[[92,c]]) v' (U 1) (U 2) (O 0) (U 3) hd (by simp[hy]) (by lia)
   rw[Zs]at this
   exact this
variable{w:World}{Z V:Bool}{G:GP}{it Z9 fa:Addr}{x:List Nat}{u:Tok}{e0 e1:Nat}
theorem rM{D:Addr}(hx:x.length<2^20)(h0:0<x.length):
  Ok (W2 w Z V) 3 (spA (Pw w Z V) G "str_ascii_iterator" it Z9 D fa x u 0 [] e0 [] e1 x.length (aB x)):=by
 refine vH λ_ _ _=>?_
 cases x with
 | nil=>exact absurd h0 (Nat.lt_irrefl _)
 | cons c l=>
  have e:aB (c::l)=[spY c]++aB l:=rfl
  rw[e]
  have h2:c%2=0∨c%2=1:=by lia
  rcases h2 with h2 | h2
  ·have hs:spY c=[c]:=by simp[spY,h2]
   rw[hs]
   refine vL (c:=c) rfl (by rw[show Int.fmod (.ofNat c) 2=.ofNat (c%2)from ba c 2,h2];rfl) λC U O=>?_
   obtain⟨v',Zs⟩:=aR [] .none [c] (U 0)
   have:=fL (w:=w) (Z:=Z) (V:=V) (G:=G) (it:=it) (Z9:=Z9) (D:=D) (fa:=fa) (u:=u) hx l 1 [[c]] v' (U 1) (U 2) (O 0) (U 3) rfl rfl (by lia)
   rw[List.nil_append]at Zs
   rw[Zs]at this
   exact this
  ·have hs:spY c=[92,c]:=by simp[spY,h2]
   rw[hs]
   refine vJ (c:=c) rfl (by rw[show Int.fmod (.ofNat c) 2=.ofNat (c%2)from ba c 2,h2];rfl) λC U O=>?_
   obtain⟨v',Zs⟩:=aR [] .none [92,c] (U 0)
   have:=fL (w:=w) (Z:=Z) (V:=V) (G:=G) (it:=it) (Z9:=Z9) (D:=D) (fa:=fa) (u:=u) hx l 1 [[92,c]] v' (U 1) (U 2) (O 0) (U 3) rfl rfl (by lia)
   rw[List.nil_append]at Zs
   rw[Zs]at this
   exact this
theorem fK{w:World}{Z V:Bool}{G:GP}{it Z9 D fa:Addr}{x:List Nat}{u:Tok}(hx:x.length<2^20):∀(l:List Nat) (i:Nat) (ys:List (List Nat)) (v:Value) (e0:Nat) (t1:Tok) (v1:Value) (e1:Nat),x.drop i=l→ys.length=i→i≤x.length→
  Ok (W2 w Z V) 3 (spS (Pw w Z V) G "str_iterator" it Z9 D fa x u i (qSL ys v) e0 [en (Pw w Z V) aD t1 v1] e1 x.length (ys++aB l))
 | [],i,ys,v,e0,t1,v1,e1,hl,hy,hi=>by
  have:i=x.length:=by have:=congrArg List.length hl;rw[List.length_drop]at this;simp only[List.length_nil]at this;lia
  subst this
  have:=rJ (w:=w) (Z:=Z) (V:=V) (G:=G) (it:=it) (Z9:=Z9) (D:=D) (fa:=fa) (x:=x) (u:=u) (ys:=ys) (v:=v) (v1:=v1) (e0:=e0) (t1:=t1) (e1:=e1) (by simp)
  show Ok _ _ (spS _ _ _ _ _ _ _ _ _ _ _ _ _ _ _ (ys++[]))
  rw[List.append_nil]
  exact this
 | c::l,i,ys,v,e0,t1,v1,e1,hl,hy,hi=>by
  have hc:x[i]? =some c:=by
   have:=congrArg (λy=>y[0]?) hl
   simpa using this
  have Zy:i<x.length:=(List.getElem?_eq_some_iff.mp hc).1
  have hd:x.drop (i+1)=l:=by rw[←List.drop_drop,hl];rfl
  have hv:(qSL ys v).length<2^20:=by rw[bG];lia
  have e:ys++aB (c::l)=(ys++[spY c])++aB l:=by show ys++spY c::aB l=_;simp
  rw[e]
  have h2:c%2=0∨c%2=1:=by lia
  rcases h2 with h2 | h2
  ·have hs:spY c=[c]:=by simp[spY,h2]
   rw[hs]
   refine vE hc hv (by rw[show Int.fmod (.ofNat c) 2=.ofNat (c%2)from ba c 2,h2];rfl) λC U O=>?_
   obtain⟨v',Zs⟩:=aR ys v [c] (U 0)
   have:=fK (w:=w) (Z:=Z) (V:=V) (G:=G) (it:=it) (Z9:=Z9) (D:=D) (fa:=fa) (u:=u) hx l (i+1) (ys++[[c]]) v' (U 1) (U 2) (O 0) (U 3) hd (by simp[hy]) (by lia)
   rw[Zs]at this
   exact this
  ·have hs:spY c=[92,c]:=by simp[spY,h2]
   rw[hs]
   refine vC hc hv (by rw[show Int.fmod (.ofNat c) 2=.ofNat (c%2)from ba c 2,h2];rfl) λC U O=>?_
   obtain⟨v',Zs⟩:=aR ys v [92,c] (U 0)
   have:=fK (w:=w) (Z:=Z) (V:=V) (G:=G) (it:=it) (Z9:=Z9) (D:=D) (fa:=fa) (u:=u) hx l (i+1) (ys++[[92,c]]) v' (U 1) (U 2) (O 0) (U 3) hd (by simp[hy]) (by lia)
   rw[Zs]at this
   exact this
theorem rL{D:Addr}(hx:x.length<2^20)(h0:0<x.length):
  Ok (W2 w Z V) 3 (spA (Pw w Z V) G "str_iterator" it Z9 D fa x u 0 [] e0 [] e1 x.length (aB x)):=by
 refine vG λ_ _ _=>?_
 cases x with
 | nil=>exact absurd h0 (Nat.lt_irrefl _)
 | cons c l=>
  have e:aB (c::l)=[spY c]++aB l:=rfl
  rw[e]
  have h2:c%2=0∨c%2=1:=by lia
  rcases h2 with h2 | h2
  ·have hs:spY c=[c]:=by simp[spY,h2]
   rw[hs]
   refine vF (c:=c) rfl (by rw[show Int.fmod (.ofNat c) 2=.ofNat (c%2)from ba c 2,h2];rfl) λC U O=>?_
   obtain⟨v',Zs⟩:=aR [] .none [c] (U 0)
   have:=fK (w:=w) (Z:=Z) (V:=V) (G:=G) (it:=it) (Z9:=Z9) (D:=D) (fa:=fa) (u:=u) hx l 1 [[c]] v' (U 1) (U 2) (O 0) (U 3) rfl rfl (by lia)
   rw[List.nil_append]at Zs
   rw[Zs]at this
   exact this
  ·have hs:spY c=[92,c]:=by simp[spY,h2]
   rw[hs]
   refine vD (c:=c) rfl (by rw[show Int.fmod (.ofNat c) 2=.ofNat (c%2)from ba c 2,h2];rfl) λC U O=>?_
   obtain⟨v',Zs⟩:=aR [] .none [92,c] (U 0)
   have:=fK (w:=w) (Z:=Z) (V:=V) (G:=G) (it:=it) (Z9:=Z9) (D:=D) (fa:=fa) (u:=u) hx l 1 [[92,c]] v' (U 1) (U 2) (O 0) (U 3) rfl rfl (by lia)
   rw[List.nil_append]at Zs
   rw[Zs]at this
   exact this
end
section
open PySem PySem.W PySem.W.X PySem.Builtin
variable{y0 y1 y2 y3 y4 y5 y6 y7 y8 y9 Z3 Z4 y12 y13 y14 y15 y16 y17 y18 y19 y20 y21 y22 y23 y24 y25 y26 u:Tok}{w:World}{Z V:Bool}{x:List Nat}{G:GP}{fa it Z9:Addr}{e0 e1:Nat}
theorem zc:uF [.int (.ofNat 173) y0,.int (.ofNat 847) y1,.int (.ofNat 6150) y2,.int (.ofNat 6155) y3,.int (.ofNat 6156) y4,.int (.ofNat 6157) y5,.int (.ofNat 8203) y6,.int (.ofNat 8204) y7,.int (.ofNat 8205) y8,.int (.ofNat 8288) y9,.int (.ofNat 65279) Z3,.int (.ofNat 65024) Z4,.int (.ofNat 65025) y12,.int (.ofNat 65026) y13,.int (.ofNat 65027) y14,.int (.ofNat 65028) y15,.int (.ofNat 65029) y16,.int (.ofNat 65030) y17,.int (.ofNat 65031) y18,.int (.ofNat 65032) y19,.int (.ofNat 65033) y20,.int (.ofNat 65034) y21,.int (.ofNat 65035) y22,.int (.ofNat 65036) y23,.int (.ofNat 65037) y24,.int (.ofNat 65038) y25,.int (.ofNat 65039) y26]:=λk c h=>by
 match k,h with
 | 0,h=>exact⟨y0,by cases h;rfl⟩
 | 1,h=>exact⟨y1,by cases h;rfl⟩
 | 2,h=>exact⟨y2,by cases h;rfl⟩
 | 3,h=>exact⟨y3,by cases h;rfl⟩
 | 4,h=>exact⟨y4,by cases h;rfl⟩
 | 5,h=>exact⟨y5,by cases h;rfl⟩
 | 6,h=>exact⟨y6,by cases h;rfl⟩
 | 7,h=>exact⟨y7,by cases h;rfl⟩
 | 8,h=>exact⟨y8,by cases h;rfl⟩
 | 9,h=>exact⟨y9,by cases h;rfl⟩
 | 10,h=>exact⟨Z3,by cases h;rfl⟩
 | 11,h=>exact⟨Z4,by cases h;rfl⟩
 | 12,h=>exact⟨y12,by cases h;rfl⟩
 | 13,h=>exact⟨y13,by cases h;rfl⟩
 | 14,h=>exact⟨y14,by cases h;rfl⟩
 | 15,h=>exact⟨y15,by cases h;rfl⟩
 | 16,h=>exact⟨y16,by cases h;rfl⟩
 | 17,h=>exact⟨y17,by cases h;rfl⟩
 | 18,h=>exact⟨y18,by cases h;rfl⟩
 | 19,h=>exact⟨y19,by cases h;rfl⟩
 | 20,h=>exact⟨y20,by cases h;rfl⟩
 | 21,h=>exact⟨y21,by cases h;rfl⟩
 | 22,h=>exact⟨y22,by cases h;rfl⟩
 | 23,h=>exact⟨y23,by cases h;rfl⟩
 | 24,h=>exact⟨y24,by cases h;rfl⟩
 | 25,h=>exact⟨y25,by cases h;rfl⟩
 | 26,h=>exact⟨y26,by cases h;rfl⟩
 | k+27,h=>exact absurd h (by simp[unL])
theorem pO{sd:Nat}{wd':List Nat}{ZL:Nat}{k1 k2 un sh s0 s1 s2 s3 s4 s5 s6 s7:Addr}{a0 a1 a2 a3 a4 a5 a6 a7 c0 c1 c2 c3 c4 c5 c6 c7:Tok}{es:Nat}{eu:Nat}{u1 u2 t1 t2 t3 t4 u3 u4:Tok}{e:Nat}(h:WlA w Z V x sd wd' ZL):
  Ok (W2 w Z V) 3 (wlS (Pw w Z V) G fa k1 k2 un sh s0 s1 s2 s3 s4 s5 s6 s7 a0 a1 a2 a3 a4 a5 a6 a7 c0 c1 c2 c3 c4 c5 c6 c7 es [.int (.ofNat 173) y0,.int (.ofNat 847) y1,.int (.ofNat 6150) y2,.int (.ofNat 6155) y3,.int (.ofNat 6156) y4,.int (.ofNat 6157) y5,.int (.ofNat 8203) y6,.int (.ofNat 8204) y7,.int (.ofNat 8205) y8,.int (.ofNat 8288) y9,.int (.ofNat 65279) Z3,.int (.ofNat 65024) Z4,.int (.ofNat 65025) y12,.int (.ofNat 65026) y13,.int (.ofNat 65027) y14,.int (.ofNat 65028) y15,.int (.ofNat 65029) y16,.int (.ofNat 65030) y17,.int (.ofNat 65031) y18,.int (.ofNat 65032) y19,.int (.ofNat 65033) y20,.int (.ofNat 65034) y21,.int (.ofNat 65035) y22,.int (.ofNat 65036) y23,.int (.ofNat 65037) y24,.int (.ofNat 65038) y25,.int (.ofNat 65039) y26] eu x 0 u1 u2 t1 t2 t3 t4 sd u3 [] u4 [] e wd' ZL):=h _ _ _ _ _ _ _ _ _ _ _ _ _ _ _ _ _ _ _ _ _ _ _ _ _ _ _ _ _ _ _ _ _ _ _ _ _ _ _ _ _ _ zc
theorem xz{D:Addr}(hx:x.length<2^20)(h0:0<x.length):
  Ok (W2 w Z V) 3 (spA (Pw w Z V) G "str_ascii_iterator" it Z9 D fa x u 0 [] e0 [] e1 x.length (aB x)):=rM hx h0
theorem xy{D:Addr}(hx:x.length<2^20)(h0:0<x.length):
  Ok (W2 w Z V) 3 (spA (Pw w Z V) G "str_iterator" it Z9 D fa x u 0 [] e0 [] e1 x.length (aB x)):=rL hx h0
noncomputable def dQ(G:GP)(x:List Nat)(t:Tok)(sd:Nat)(u:Tok)(y:List Nat)(ZL:Nat):ac:=
 Mine.sd (.call (.ref 144) ⟨[.str (mS x) t,.int (.ofNat sd) u],[]⟩) (aa []) [] G G 1 2 0 λC U _=>⟨.ok (.ret (.ref (C 0))),[],[some (tuO [.str (mS y) (U 0),.int (.ofNat ZL) (U 1)])]⟩
end
section
open PySem PySem.W PySem.W.X PySem.Builtin
noncomputable abbrev iU(G:GP)(w:World)(Z V:Bool)(x:List Nat)(t:Tok)(sd:Nat)(u:Tok)(ws:List Nat)(Zv:Nat)(zz:List It):List It:=
 .i (ub 15 0xa8a8a8a80003000302a4a4a5a58f90)::.n::.f [] (λN=>ko G (.ref (N.r 4)))::.i [169,169]::.f [5,4] (λN=>iq G (N.r 5) (N.r 4) (N.t 12) (N.t 13) (N.t 14))::.i [167,169,167]::.f [3,5] (λN=>hD G (N.r 3) (N.r 5) [(.int 173 (N.t 1)),(.int 847 (N.t 2)),(.int 6150 (N.t 3)),(.int 6155 (N.t 4)),(.int 6156 (N.t 5)),(.int 6157 (N.t 6)),(.int 8203 (N.t 7)),(.int 8204 (N.t 8)),(.int 8205 (N.t 9)),(.int 8288 (N.t 10)),(.int 65279 (N.t 11))] [(.int 65024 (N.t 15)),(.int 65025 (N.t 16)),(.int 65026 (N.t 17)),(.int 65027 (N.t 18)),(.int 65028 (N.t 19)),(.int 65029 (N.t 20)),(.int 65030 (N.t 21)),(.int 65031 (N.t 22)),(.int 65032 (N.t 23)),(.int 65033 (N.t 24)),(.int 65034 (N.t 25)),(.int 65035 (N.t 26)),(.int 65036 (N.t 27)),(.int 65037 (N.t 28)),(.int 65038 (N.t 29)),(.int 65039 (N.t 30))] 0 (N.t 31))::.i (ub 35 0xa6a6a4a4b7b5b5b4b5b5b5b5b5b5b4b5b5b5b5b5b5b4b5b5b5b5b5b4b4b4b4a4a4a4a4)::.f [0,1,2,6,15,7,8,9,10,11,12,13,14] (λN=>wlS (Pw w Z V) G (N.r 0) (N.r 1) (N.r 2) (N.r 6) (N.r 15) (N.r 7) (N.r 8) (N.r 9) (N.r 10) (N.r 11) (N.r 12) (N.r 13) (N.r 14) (N.t 33) (N.t 35) (N.t 37) (N.t 39) (N.t 41) (N.t 43) (N.t 45) (N.t 47) (N.t 34) (N.t 36) (N.t 38) (N.t 40) (N.t 42) (N.t 44) (N.t 46) (N.t 48) 0 [(.int (.ofNat 173) (N.t 1)),(.int (.ofNat 847) (N.t 2)),(.int (.ofNat 6150) (N.t 3)),(.int (.ofNat 6155) (N.t 4)),(.int (.ofNat 6156) (N.t 5)),(.int (.ofNat 6157) (N.t 6)),(.int (.ofNat 8203) (N.t 7)),(.int (.ofNat 8204) (N.t 8)),(.int (.ofNat 8205) (N.t 9)),(.int (.ofNat 8288) (N.t 10)),(.int (.ofNat 65279) (N.t 11)),(.int (.ofNat 65024) (N.t 15)),(.int (.ofNat 65025) (N.t 16)),(.int (.ofNat 65026) (N.t 17)),(.int (.ofNat 65027) (N.t 18)),(.int (.ofNat 65028) (N.t 19)),(.int (.ofNat 65029) (N.t 20)),(.int (.ofNat 65030) (N.t 21)),(.int (.ofNat 65031) (N.t 22)),(.int (.ofNat 65032) (N.t 23)),(.int (.ofNat 65033) (N.t 24)),(.int (.ofNat 65034) (N.t 25)),(.int (.ofNat 65035) (N.t 26)),(.int (.ofNat 65036) (N.t 27)),(.int (.ofNat 65037) (N.t 28)),(.int (.ofNat 65038) (N.t 29)),(.int (.ofNat 65039) (N.t 30))] 0 x 0 t (N.t 51) (N.t 0) (N.t 32) (N.t 49) (N.t 52) sd u [] (N.t 50) [] 4 ws Zv)::.i [164]::zz
noncomputable abbrev nu(G:GP)(ws:List Nat)(Zv k q:Nat)(zz:List It):List It:=
 .i [186,186,186]::.f [21] (λN=>lJ G (N.r 21) (@List.map.{0,0} Nat (@List.{0} Nat) spY ws) (N.z 4) (N.t 59) (N.t 60))::.i [164,164,164]::.n::.f [] (λN=>aZ G (Int.fdiv (.ofNat Zv) 4) 2 (N.t 66) (N.t 67) 1)::.i [164,164]::.n::.f [] (λN=>aZ G (Int.fdiv (.ofNat Zv) 8) 4 (N.t 72) (N.t 73) (.ofNat k))::.f [] (λN=>lH G [10,9,13,32] (N.t 70) k (N.t 74) q)::.f [] (λN=>aX G (@List.flatten.{0} Nat (@List.map.{0,0} Nat (@List.{0} Nat) spY ws)) [q] (N.t 63) (N.t 75))::.i [164]::zz
noncomputable abbrev nr(G:GP)(ws:List Nat)(Zv:Nat)(zz:List It):List It:=
 .i [186,186,186]::.f [21] (λN=>lJ G (N.r 21) (@List.map.{0,0} Nat (@List.{0} Nat) spY ws) (N.z 4) (N.t 59) (N.t 60))::.i [164,164,164]::.n::.f [] (λN=>aZ G (Int.fdiv (.ofNat Zv) 4) 2 (N.t 66) (N.t 67) 0)::.i [164]::.f [] (λN=>aX G [34] (@List.flatten.{0} Nat (@List.map.{0,0} Nat (@List.{0} Nat) spY ws)) (N.t 70) (N.t 63))::.f [] (λN=>aX G (34::(@List.flatten.{0} Nat (@List.map.{0,0} Nat (@List.{0} Nat) spY ws))) [34] (N.t 71) (N.t 72))::.i [164]::zz
section
variable{w:World}{Z V:Bool}{G:GP}{x:List Nat}{t:Tok}{sd:Nat}{u:Tok}{ws:List Nat}{Zv k q:Nat}
theorem yY(hL:WlA w Z V x sd ws Zv)(hw:ws.length<2^20)(h0:0<ws.length)(ha:ws.all (λc=>Nat.blt c 128)=true)(hf:(aB ws).flatten.length<2^20)(hf2:([34]++(aB ws).flatten).length<2^20)(hq:Int.fmod (Int.fdiv (.ofNat Zv) 4) 2=.ofNat 0):Ok (W2 w Z V) 5 (dQ G x t sd u ([34]++(aB ws).flatten++[34]) Zv):=
 okC [23] 246 (λN=>[(N.t 73),(N.t 53)]) (λN=>[])
 (iU G w Z V x t sd u ws Zv (.f [] (λN=>cU G ws (N.t 54))::.i [184]::.f [20,21,22] (λN=>spA (Pw w Z V) G "str_ascii_iterator" (N.r 20) (N.r 21) (N.r 22) (N.r 0) ws (N.t 54) 0 [] 0 [] 0 (ws).length (aB ws))::(nr G ws Zv [])))
 (sE (sg1 (by kernel_rfl)) Z) (λN=>⟨okU (eK),okU (dK),okU (gZ),okU (pO hL),okU (dJ ha),okU (xz hw h0),okU (jZ hf),okU (aH hq),okU (bi (by first | assumption | lia | (simp only[List.length_cons,List.length_nil];lia) | decide) hf),okU (bi hf2),trivial⟩)
theorem yX(hL:WlA w Z V x sd ws Zv)(hw:ws.length<2^20)(h0:0<ws.length)(ha:ws.all (λc=>Nat.blt c 128)=true)(hf:(aB ws).flatten.length<2^20)(hf2:([34]++(aB ws).flatten).length<2^20)(hq:Int.fmod (Int.fdiv (.ofNat Zv) 4) 2=.ofNat 1)(hk:Int.fmod (Int.fdiv (.ofNat Zv) 8) 4=.ofNat k)(hg:([10,9,13,32]:List Nat)[k]? =some q)(hk2:k<2^20):Ok (W2 w Z V) 5 (dQ G x t sd u ((aB ws).flatten++[q]) Zv):=
 okC [23] 255 (λN=>[(N.t 76),(N.t 53)]) (λN=>[])
 (iU G w Z V x t sd u ws Zv (.f [] (λN=>cU G ws (N.t 54))::.i [184]::.f [20,21,22] (λN=>spA (Pw w Z V) G "str_ascii_iterator" (N.r 20) (N.r 21) (N.r 22) (N.r 0) ws (N.t 54) 0 [] 0 [] 0 (ws).length (aB ws))::(nu G ws Zv k q [])))
 (sE (sg1 (by kernel_rfl)) Z) (λN=>⟨okU (eK),okU (dK),okU (gZ),okU (pO hL),okU (dJ ha),okU (xz hw h0),okU (jZ hf),okU (aH hq),okU (aH hk),okU (lq hg hk2),okU (bi hf),trivial⟩)
theorem yW(hL:WlA w Z V x sd ws Zv)(hw:ws.length<2^20)(h0:0<ws.length)(ha:ws.all (λc=>Nat.blt c 128)=false)(hf:(aB ws).flatten.length<2^20)(hf2:([34]++(aB ws).flatten).length<2^20)(hq:Int.fmod (Int.fdiv (.ofNat Zv) 4) 2=.ofNat 0):Ok (W2 w Z V) 5 (dQ G x t sd u ([34]++(aB ws).flatten++[34]) Zv):=
 okC [23] 246 (λN=>[(N.t 73),(N.t 53)]) (λN=>[])
 (iU G w Z V x t sd u ws Zv (.f [] (λN=>cT G ws (N.t 54))::.i [184]::.f [20,21,22] (λN=>spA (Pw w Z V) G "str_iterator" (N.r 20) (N.r 21) (N.r 22) (N.r 0) ws (N.t 54) 0 [] 0 [] 0 (ws).length (aB ws))::(nr G ws Zv [])))
 (sE (sg1 (by kernel_rfl)) Z) (λN=>⟨okU (eK),okU (dK),okU (gZ),okU (pO hL),okU (dI ha),okU (xy hw h0),okU (jZ hf),okU (aH hq),okU (bi (by first | assumption | lia | (simp only[List.length_cons,List.length_nil];lia) | decide) hf),okU (bi hf2),trivial⟩)
theorem yV(hL:WlA w Z V x sd ws Zv)(hw:ws.length<2^20)(h0:0<ws.length)(ha:ws.all (λc=>Nat.blt c 128)=false)(hf:(aB ws).flatten.length<2^20)(hf2:([34]++(aB ws).flatten).length<2^20)(hq:Int.fmod (Int.fdiv (.ofNat Zv) 4) 2=.ofNat 1)(hk:Int.fmod (Int.fdiv (.ofNat Zv) 8) 4=.ofNat k)(hg:([10,9,13,32]:List Nat)[k]? =some q)(hk2:k<2^20):Ok (W2 w Z V) 5 (dQ G x t sd u ((aB ws).flatten++[q]) Zv):=
 okC [23] 255 (λN=>[(N.t 76),(N.t 53)]) (λN=>[])
 (iU G w Z V x t sd u ws Zv (.f [] (λN=>cT G ws (N.t 54))::.i [184]::.f [20,21,22] (λN=>spA (Pw w Z V) G "str_iterator" (N.r 20) (N.r 21) (N.r 22) (N.r 0) ws (N.t 54) 0 [] 0 [] 0 (ws).length (aB ws))::(nu G ws Zv k q [])))
 (sE (sg1 (by kernel_rfl)) Z) (λN=>⟨okU (eK),okU (dK),okU (gZ),okU (pO hL),okU (dI ha),okU (xy hw h0),okU (jZ hf),okU (aH hq),okU (aH hk),okU (lq hg hk2),okU (bi hf),trivial⟩)
end
inductive Enc (ws:List Nat):List Nat→Prop where
 | quoted:Enc ws ([34]++(aB ws).flatten++[34])
 | blank (q:Nat):q∈([10,9,13,32]:List Nat)→Enc ws ((aB ws).flatten++[q])
noncomputable def bQ(w:World)(Z V:Bool)(x:List Nat)(sd:Nat)(y:List Nat)(ZL:Nat):Prop:=∀(G:GP) (t u:Tok),Ok (W2 w Z V) 5 (dQ G x t sd u y ZL)
theorem ph(c:Nat):(spY c).length≤2:=by
 unfold spY
 split<;>simp
theorem jH(ws:List Nat):(aB ws).flatten.length≤2*ws.length:=by
 induction ws with
 | nil=>decide
 | cons c l ih=>
  have:(aB (c::l)).flatten=spY c++(aB l).flatten:=rfl
  rw[this,List.length_append,List.length_cons]
  have:=ph c
  lia
theorem re{w:World}{Z V:Bool}{r q sd:Nat}(h0:0<r+q)(hx:r+q<2^10)(hs:sd<65537):
  ∃ws y ZL,ZL<65537∧Spelt ws r q∧Enc ws y∧bQ w Z V (fi r q) sd y ZL:=by
 obtain⟨ws,ZL,g1,g2,hL⟩:=uS (w:=w) (Z:=Z) (V:=V) h0 (by lia) hs
 have hl:=g2.len
 have hl2:=jH ws
 have hpos:0<ws.length:=by
  cases ws with
  | nil=>
   have:=congrArg List.length g2.dec
   rw[bP]at this
   simp at this;lia
  | cons c l=>exact Nat.succ_pos _
 have hf2:([34]++(aB ws).flatten).length<2^20:=by
  rw[List.length_append];simp only[List.length_cons,List.length_nil];lia
 have h4:Int.fdiv (.ofNat ZL) 4=.ofNat (ZL / 4):=io ZL 4
 have h8:Int.fdiv (.ofNat ZL) 8=.ofNat (ZL / 8):=io ZL 8
 have hq:Int.fmod (Int.fdiv (.ofNat ZL) 4) 2=.ofNat (ZL / 4%2):=by rw[h4];exact ba _ 2
 have hk:Int.fmod (Int.fdiv (.ofNat ZL) 8) 4=.ofNat (ZL / 8%4):=by rw[h8];exact ba _ 4
 have h2:ZL / 4%2=0∨ZL / 4%2=1:=by lia
 rcases h2 with h2 | h2
 ·rw[h2]at hq
  refine⟨ws,_,ZL,g1,g2,.quoted,λG t u=>?_⟩
  cases ha:ws.all (λc=>Nat.blt c 128)with
  | true=>exact yY hL (by lia) hpos ha (by lia) hf2 hq
  | false=>exact yW hL (by lia) hpos ha (by lia) hf2 hq
 ·rw[h2]at hq
  obtain⟨c,hc,hm⟩:=oy (l:=([10,9,13,32]:List Nat)) (i:=ZL / 8%4) (Nat.mod_lt _ (by decide))
  refine⟨ws,_,ZL,g1,g2,.blank c hm,λG t u=>?_⟩
  cases ha:ws.all (λc=>Nat.blt c 128)with
  | true=>exact yX hL (by lia) hpos ha (by lia) hf2 hq hk hc (by lia)
  | false=>exact yV hL (by lia) hpos ha (by lia) hf2 hq hk hc (by lia)
end
section
open PySem PySem.W PySem.W.X PySem.Builtin
noncomputable abbrev gD:Obj:=⟨.none,none,.fields ⟨[]⟩,⟨[]⟩⟩
noncomputable abbrev jJ:List Nat:=[108,105,110,101,110,111]
noncomputable abbrev gg:List Nat:=[105,110,115,116,114,101,97,109]
noncomputable abbrev eB:List Nat:=[119,104,105,116,101,115,112,97,99,101]
noncomputable abbrev gf:List Nat:=[112,117,115,104,98,97,99,107]
noncomputable abbrev rR:List Nat:=[114,101,97,100]
noncomputable abbrev d6:List Nat:=[116,101,120,116]
noncomputable abbrev bC:List Nat:=[10,9,13,32]
noncomputable def stR:Stmt:=b4 (bdS (stA 14)) 1
noncomputable abbrev k9:List Nat:=[95,108,97,119,95,108,101,120,101,114,46,60,108,111,99,97,108,115,62,46,114,101,97,100]
noncomputable def fdR(RC KP KT CT:Addr):FuncData:={fdS stR (mS k9) 3 (.str (mS [108,97,119,95,115,119,48,48,53,57,95,48,49]) 2288) (.ref RC) 0 with closure:=[(mS d6,KT),(mS aM,KP)],closureTuple:=.ref CT}
noncomputable abbrev lxO(D:Addr):Obj:=⟨.ref 59,some D,.plain,⟨[]⟩⟩
noncomputable abbrev fnO(fd:FuncData):Obj:=⟨.type "function",none,.func fd,⟨[]⟩⟩
noncomputable abbrev cdO(t:Tok)(J:Nat→Value):Obj:=⟨.type "code",none,.fields ⟨[J 0,.str (mS k9) t,J 1,J 2,J 3,J 4,J 5,J 6,J 7,J 8,J 9,J 10,J 11,J 12,J 13,J 14,J 15,J 16,J 17]⟩,⟨[]⟩⟩
noncomputable def dlO(P:Params)(S PB:Addr)(ln:Nat)(y1 y2 y3 y4 y5 y6:Tok)(e:Nat):Obj:=diO [en P jJ y1 (.int (.ofNat ln) y2),en P gg y3 (.ref S),en P eB y4 (.str (mS bC) y5),en P gf y6 (.ref PB)] e
noncomputable def dsO(P:Params)(R:Addr)(y7 y8 y9 Z3 Z4:Tok)(v1 v2 v3:Value)(e:Nat):Obj:=diO [en P jJ y7 v1,en P gg y8 .none,en P eB y9 v2,en P gf Z3 v3,en P rR Z4 (.ref R)] e
noncomputable def kD(RC KP KT PL CT:Addr)(t:Tok)(J:Nat→Value)(x:List Nat)(u:Tok)(p:Nat)(y:Tok)(e:Nat):List (Option Obj):=[some (fnO (fdR RC KP KT CT)),some (cdO t J),some (ceO (some (.ref PL))),some (ceO (some (.str (mS x) u))),some (lO [.int (.ofNat p) y] e)]
noncomputable def th(P:Params)(DL S DS R RC KP KT PL PB CT:Addr)(t:Tok)(J:Nat→Value)(x:List Nat)(u:Tok)(p:Nat)(y:Tok)(e:Nat)(ln:Nat)(y1 y2 y3 y4 y5 y6 y7 y8 y9 Z3 Z4:Tok)(v1 v2 v3:Value)(el es:Nat)(vs:List Value)(ep:Nat):List (Option Obj):=
 [some (lxO DL),some (dlO P S PB ln y1 y2 y3 y4 y5 y6 el),some (lxO DS),some (dsO P R y7 y8 y9 Z3 Z4 v1 v2 v3 es)]++kD RC KP KT PL CT t J x u p y e++[some (lO vs ep)]
noncomputable def nQ(P:Params)(G:GP)(x:List Nat)(u:Tok):ac:=
 sd (.call (.ref 151) ⟨[.str (mS x) u],[]⟩) (aa [146]) [some gD] G G 11 14 24 λC U O=>⟨.ok (.ret (.ref (C 0))),[(0,⟨.none,none,.fields ⟨[O 21,O 22,O 23]⟩,⟨[]⟩⟩)],
  th P (C 1) (C 2) (C 3) (C 4) (C 5) (C 6) (C 7) (C 8) (C 9) (C 10) (U 0) O x u 0 (U 1) 0 1 (U 2) (U 3) (U 4) (U 5) (U 6) (U 7) (U 8) (U 9) (U 10) (U 11) (U 12) (O 18) (O 19) (O 20) 4 5 [] 0++[some (tuO [.ref (C 6),.ref (C 7)])]⟩
noncomputable def jL(G:GP)(R RC KP KT PL CT:Addr)(t:Tok)(J:Nat→Value)(x:List Nat)(u:Tok)(p:Nat)(y:Tok)(e:Nat)(z:Tok)(ch:List Nat):ac:=
 sd (.call (.ref R) ⟨[.int (.ofNat 1) z],[]⟩) (aa [R,RC,KP,KT,PL]) (kD RC KP KT PL CT t J x u p y e) G G 0 3 0 λ_ U _=>⟨.ok (.ret (.str (mS ch) (U 0))),[(4,lO [.int (.ofNat (p+1)) (U 1)] (U 2))],[]⟩
end
section
open PySem PySem.W PySem.W.X PySem.Builtin
section
variable{w:World}{Z V:Bool}{G:GP}{x:List Nat}{u:Tok}{R RC KP KT PL CT:Addr}{t:Tok}{J:Nat→Value}{p:Nat}{y:Tok}{e:Nat}{z:Tok}{ch:List Nat}
theorem xr:Ok (W2 w Z V) 3 (nQ (Pw w Z V) G x u):=
 okC [18,17,14,13,12,11,3,2,4,20,5] 449 (λN=>[(N.t 2),(N.t 0),(N.t 29),(N.t 27),(N.t 31),(N.t 34),(N.t 32),(N.t 36),(N.t 14),(N.t 16),(N.t 19),(N.t 21),(N.t 24)]) (λN=>[(.str (mS [114,101,97,100]) (N.t 1)),(.str (mS fpy) (N.t 3)),(.int 108 0),(.int 1 0),(.int 0 0),(.int 0 0),(.int 19 0),(.ref (N.r 6)),(.bool true),(.int 181 0),(.ref (N.r 7)),.none,(.ref (N.r 8)),(.ref (N.r 9)),(.ref (N.r 10)),(.int (@Nat.cast.{0} Int instNatCastInt (N.t 7)) 0),(.int 108 0),(.str (mS fpy) (N.t 8)),(.int 1 (N.t 12)),(.str (mS [10,9,13,32]) (N.t 17)),(.ref (N.r 16)),(.int 108 0),(.int 4 0),(.ref (N.r 11))])
 (.i (ub 64 0x3b3bb2b302b3b3b3b32223233a3b3bb23bb23b3b3a3b3b3b3b3b3b3b3b3b3b3b3b3b3b3b3b3b3b3b3b3b3b3b3b3b03a5a5030403a4a4a4a496a7a702a6a69697)::.i (ub 64 0x3a3b3bb23bb23bb23a3b3bb2b3b1b1b13bb23a3b3bb23bb23bb23a3b3bb2b3b1b1b13bb23a3b3bb23bb23bb23a3b3bb2b3b3b1b1b13bb23a3b3bb23bb23bb23a)::.i (ub 64 0x23233a3b3bb63bb63b3b3a3b3b3b3b3b3b3b3b3b3b3b3b3b3b3b3b3b3b3b3b3b3b3b3b3ba503b1b1b13bb23a3b3bb23bb23bb23a3b3bb2a5a5a5a5b1b1b13bb2)::.i (ub 64 0x3bb6b7b5b5b53bb63a3b3bb63bb63bb63a3b3bb6b7b5b5b53bb63a3b3bb63bb63bb63a3b3bb6b7b7b5b5b53bb63a3b3bb63bb63bb63a3b3bb6b702b7b7b7b722)::.i (ub 15 0xb5b5b53bb63a3b3bb63bb63bb63a3b)::[])
 (λ_ _ _=>by kernel_rfl) (λN=>trivial)
theorem sD(hs:slS (mS x) p (p+1)=ch)(hp:(.ofNat (p+1):Int)-1=.ofNat p)(hx:(mS x).length<2^20):Ok (W2 w Z V) 3 (jL G R RC KP KT PL CT t J x u p y e z ch):=
 okC [] 75 (λN=>[(N.t 6),(N.t 2),e]) (λN=>[])
 (.i (ub 25 0xa9a8a8a8a8a8a6a7a8a8a8a8a8a8a9a8a8a8a8a602a9a9a5a4)::.f [] (λN=>dA G ((.ofNat p)+1) 1 (N.t 2) z (.ofNat p))::.i (ub 6 0xa8a8a8a8a8a6)::.f [6] (λN=>ar G (mS x) u (N.r 6) p (p+1) (N.t 4) (N.t 2) ch)::[])
 (λ_ _ _=>by kernel_rfl) (λN=>⟨okU (bV hp),okU (af hs (hx:=hx)),trivial⟩)
end
theorem nY{w:World}{Z V:Bool}{G:GP}{R RC KP KT PL CT:Addr}{t:Tok}{J:Nat→Value}{x:List Nat}{u:Tok}{p:Nat}{y:Tok}{e:Nat}{z:Tok}{ch:List Nat}(hs:slS (mS x) p (p+1)=ch)(hp:(.ofNat (p+1):Int)-1=.ofNat p)(hx:(mS x).length<2^20):Ok (W2 w Z V) 3 (jL G R RC KP KT PL CT t J x u p y e z ch):=sD hs hp hx
theorem mx{w:World}{Z V:Bool}{G:GP}{x:List Nat}{u:Tok}:Ok (W2 w Z V) 3 (nQ (Pw w Z V) G x u):=xr
end
section
open PySem PySem.W PySem.W.X PySem.Builtin
noncomputable def iN(P:Params)(DL S DS R RC KP KT PL PB CT:Addr)(t:Tok)(J:Nat→Value)(x:List Nat)(u:Tok)(p:Nat)(y:Tok)(e:Nat)(ln:Nat)(y1 y2 y3 y4 y5 y6 y7 y8 y9 Z3 Z4:Tok)(v1 v2 v3:Value)(el es:Nat):List (Option Obj):=
 [some (lxO DL),some (dlO P S PB ln y1 y2 y3 y4 y5 y6 el),some (lxO DS),some (dsO P R y7 y8 y9 Z3 Z4 v1 v2 v3 es)]++kD RC KP KT PL CT t J x u p y e
noncomputable def lf(P:Params)(k p:Nat)(U:Nat→Tok):List (Nat × Obj):=[(k+8,lO [.int (.ofNat (p+1)) (U 1)] (U 2))]
noncomputable def qE(P:Params)(S PB:Addr)(ln:Nat)(y1 y3 y4 y5 y6:Tok)(k p:Nat)(U:Nat→Tok):List (Nat × Obj):=[(k+1,dlO P S PB (ln+1) y1 (U 3) y3 y4 y5 y6 (U 4)),(k+8,lO [.int (.ofNat (p+1)) (U 1)] (U 2))]
noncomputable def ng(P:Params)(G:GP)(L:Addr)(DL S DS R RC KP KT PL PB CT:Addr)(t:Tok)(J:Nat→Value)(x:List Nat)(u:Tok)(p:Nat)(y:Tok)(e:Nat)(ln:Nat)(y1 y2 y3 y4 y5 y6 y7 y8 y9 Z3 Z4:Tok)(v1 v2 v3:Value)(el es:Nat)(ch:List Nat):ac:=
 sd (.call (.ref 42) ⟨[.ref L],[]⟩) (aa [L,DL,S,DS,R,RC,KP,KT,PL]) (iN P DL S DS R RC KP KT PL PB CT t J x u p y e ln y1 y2 y3 y4 y5 y6 y7 y8 y9 Z3 Z4 v1 v2 v3 el es) G G 0 5 0 λ_ U _=>⟨.ok (.ret (.str (mS ch) (U 0))),lf P 0 p U,[]⟩
end
section
open PySem PySem.W PySem.W.X PySem.Builtin
section
variable{w:World}{Z V:Bool}{G:GP}{L DL S DS R RC KP KT PL PB CT:Addr}{t:Tok}{J:Nat→Value}{x:List Nat}{u:Tok}{p:Nat}{y:Tok}{e ln:Nat}{y1 y2 y3 y4 y5 y6 y7 y8 y9 Z3 Z4:Tok}{v1 v2 v3:Value}{el es:Nat}{ch:List Nat}
theorem rc0(hs:slS (mS x) p (p+1)=ch)(hp:(.ofNat (p+1):Int)-1=.ofNat p)(hx:(mS x).length<2^20)(hn:(ch==[10])=false):Ok (W2 w Z V) 4 (ng (Pw w Z V) G L DL S DS R RC KP KT PL PB CT t J x u p y e ln y1 y2 y3 y4 y5 y6 y7 y8 y9 Z3 Z4 v1 v2 v3 el es ch):=
 okC [] 83 (λN=>[(N.t 4),(N.t 5),(N.t 6)]) (λN=>[])
 (.i (ub 43 0xa8a73ba6a63a3b3ba63a3b3ba63a3b3ba63a3b3ba63a3b3ba6a53ba4a43a3b3ba43a3b3ba4ad02adad292a)::.f [4,5,6,7,8] (λN=>jL G R RC KP KT PL CT t J x u p y e (N.t 3) ch)::.i [173,173,173]::.f [] (λN=>fF G ch [10] (N.t 4) (N.t 8) false)::.i [173]::[])
 (sE (sg1 (by kernel_rfl)) Z) (λN=>⟨okU (nY hs hp hx),okU (gN hn),trivial⟩)
end
variable{w:World}{Z V:Bool}{G:GP}{L DL S R RC KP KT PL PB CT:Addr}{t u y y1 y2 y3 y4 y5 y6 y7 y8 y9 Z3 Z4:Tok}{v1 v2 v3:Value}{J:Nat→Value}{x ch:List Nat}{p e ln el es:Nat}
theorem tB{DS:Addr}(hs:slS (mS x) p (p+1)=ch)(hp:(.ofNat (p+1):Int)-1=.ofNat p)(hx:(mS x).length<2^20)(hn:(ch==[10])=false):Ok (W2 w Z V) 4 (ng (Pw w Z V) G L DL S DS R RC KP KT PL PB CT t J x u p y e ln y1 y2 y3 y4 y5 y6 y7 y8 y9 Z3 Z4 v1 v2 v3 el es ch):=rc0 hs hp hx hn
end
section
open PySem PySem.W PySem.W.X PySem.Builtin
noncomputable def oO(L:Addr)(P:Params)(DL S DS R RC KP KT PL PB CT:Addr)(t:Tok)(J:Nat→Value)(x:List Nat)(u:Tok)(p:Nat)(y:Tok)(e:Nat)(ln:Nat)(y1 y2 y3 y4 y5 y6 y7 y8 y9 Z3 Z4:Tok)(v1 v2 v3:Value)(el es:Nat):List (Option Obj):=some (mtO 42 L)::iN P DL S DS R RC KP KT PL PB CT t J x u p y e ln y1 y2 y3 y4 y5 y6 y7 y8 y9 Z3 Z4 v1 v2 v3 el es
noncomputable def i6(BM:Addr)(ts:Tok)(L:Addr)(P:Params)(DL S DS R RC KP KT PL PB CT:Addr)(t:Tok)(J:Nat→Value)(x:List Nat)(u:Tok)(p:Nat)(y:Tok)(e:Nat)(ln:Nat)(y1 y2 y3 y4 y5 y6 y7 y8 y9 Z3 Z4:Tok)(v1 v2 v3:Value)(el es:Nat):List (Option Obj):=some (ciO BM ts)::some (mtO 42 L)::iN P DL S DS R RC KP KT PL PB CT t J x u p y e ln y1 y2 y3 y4 y5 y6 y7 y8 y9 Z3 Z4 v1 v2 v3 el es
noncomputable def ux(P:Params)(G:GP)(BM L:Addr)(DL S DS R RC KP KT PL PB CT:Addr)(t:Tok)(J:Nat→Value)(x:List Nat)(u:Tok)(p:Nat)(y:Tok)(e:Nat)(ln:Nat)(y1 y2 y3 y4 y5 y6 y7 y8 y9 Z3 Z4:Tok)(v1 v2 v3:Value)(el es:Nat)(ch:List Nat):ac:=
 sd (.call (.ref BM) ⟨[],[]⟩) (aa [BM,L,DL,S,DS,R,RC,KP,KT,PL]) (oO L P DL S DS R RC KP KT PL PB CT t J x u p y e ln y1 y2 y3 y4 y5 y6 y7 y8 y9 Z3 Z4 v1 v2 v3 el es) G G 0 5 0 λ_ U _=>⟨.ok (.ret (.str (mS ch) (U 0))),lf P 1 p U,[]⟩
noncomputable def uw(P:Params)(G:GP)(BM L:Addr)(DL S DS R RC KP KT PL PB CT:Addr)(t:Tok)(J:Nat→Value)(x:List Nat)(u:Tok)(p:Nat)(y:Tok)(e:Nat)(ln:Nat)(y1 y2 y3 y4 y5 y6 y7 y8 y9 Z3 Z4:Tok)(v1 v2 v3:Value)(el es:Nat)(ch:List Nat):ac:=
 sd (.call (.ref BM) ⟨[],[]⟩) (aa [BM,L,DL,S,DS,R,RC,KP,KT,PL]) (oO L P DL S DS R RC KP KT PL PB CT t J x u p y e ln y1 y2 y3 y4 y5 y6 y7 y8 y9 Z3 Z4 v1 v2 v3 el es) G G 0 5 0 λ_ U _=>⟨.ok (.ret (.str (mS ch) (U 0))),qE P S PB ln y1 y3 y4 y5 y6 1 p U,[]⟩
noncomputable def gE(P:Params)(G:GP)(CI BM:Addr)(ts:Tok)(L:Addr)(DL S DS R RC KP KT PL PB CT:Addr)(t:Tok)(J:Nat→Value)(x:List Nat)(u:Tok)(p:Nat)(y:Tok)(e:Nat)(ln:Nat)(y1 y2 y3 y4 y5 y6 y7 y8 y9 Z3 Z4:Tok)(v1 v2 v3:Value)(el es:Nat)(c:Nat):ac:=
 sd (.call (.builtin "callable_iterator.__next__") ⟨[.ref CI],[]⟩) (aa [CI,BM,L,DL,S,DS,R,RC,KP,KT,PL]) (i6 BM ts L P DL S DS R RC KP KT PL PB CT t J x u p y e ln y1 y2 y3 y4 y5 y6 y7 y8 y9 Z3 Z4 v1 v2 v3 el es) G G 0 5 0 λ_ U _=>⟨.ok (.ret (.str (mS [c]) (U 0))),lf P 2 p U,[]⟩
noncomputable def sX(P:Params)(G:GP)(CI BM:Addr)(ts:Tok)(L:Addr)(DL S DS R RC KP KT PL PB CT:Addr)(t:Tok)(J:Nat→Value)(x:List Nat)(u:Tok)(p:Nat)(y:Tok)(e:Nat)(ln:Nat)(y1 y2 y3 y4 y5 y6 y7 y8 y9 Z3 Z4:Tok)(v1 v2 v3:Value)(el es:Nat)(c:Nat):ac:=
 sd (.call (.builtin "callable_iterator.__next__") ⟨[.ref CI],[]⟩) (aa [CI,BM,L,DL,S,DS,R,RC,KP,KT,PL]) (i6 BM ts L P DL S DS R RC KP KT PL PB CT t J x u p y e ln y1 y2 y3 y4 y5 y6 y7 y8 y9 Z3 Z4 v1 v2 v3 el es) G G 0 5 0 λ_ U _=>⟨.ok (.ret (.str (mS [c]) (U 0))),qE P S PB ln y1 y3 y4 y5 y6 2 p U,[]⟩
noncomputable def xj(P:Params)(G:GP)(CI BM:Addr)(ts:Tok)(L:Addr)(DL S DS R RC KP KT PL PB CT:Addr)(t:Tok)(J:Nat→Value)(x:List Nat)(u:Tok)(p:Nat)(y:Tok)(e:Nat)(ln:Nat)(y1 y2 y3 y4 y5 y6 y7 y8 y9 Z3 Z4:Tok)(v1 v2 v3:Value)(el es:Nat):ac:=
 sd (.call (.builtin "callable_iterator.__next__") ⟨[.ref CI],[]⟩) (aa [CI,BM,L,DL,S,DS,R,RC,KP,KT,PL]) (i6 BM ts L P DL S DS R RC KP KT PL PB CT t J x u p y e ln y1 y2 y3 y4 y5 y6 y7 y8 y9 Z3 Z4 v1 v2 v3 el es) G G 2 5 0 λC U _=>⟨.error (.ref (C 1)),(0,ciE)::lf P 2 p U,[some dY,some (dc (C 0))]⟩
end
section
open PySem PySem.W PySem.W.X PySem.Builtin
section
variable{w:World}{Z V:Bool}{G:GP}{BM L DL S DS R RC KP KT PL PB CT:Addr}{t:Tok}{J:Nat→Value}{x:List Nat}{u:Tok}{p:Nat}{y:Tok}{e ln:Nat}{y1 y2 y3 y4 y5 y6 y7 y8 y9 Z3 Z4:Tok}{v1 v2 v3:Value}{el es:Nat}{ch:List Nat}
theorem bm0(hs:slS (mS x) p (p+1)=ch)(hp:(.ofNat (p+1):Int)-1=.ofNat p)(hx:(mS x).length<2^20)(hn:(ch==[10])=false):Ok (W2 w Z V) 4 (ux (Pw w Z V) G BM L DL S DS R RC KP KT PL PB CT t J x u p y e ln y1 y2 y3 y4 y5 y6 y7 y8 y9 Z3 Z4 v1 v2 v3 el es ch):=
 okC [] 85 (λN=>[(N.t 4),(N.t 5),(N.t 6)]) (λN=>[])
 (.i (ub 44 0xa9a83ba7a73a3b3ba73a3b3ba73a3b3ba73a3b3ba73a3b3ba7a63ba5a53a3b3ba53a3b3ba5ae02aeae292aa4)::.f [5,6,7,8,9] (λN=>jL G R RC KP KT PL CT t J x u p y e (N.t 3) ch)::.i [174,174,174]::.f [] (λN=>fF G ch [10] (N.t 4) (N.t 8) false)::.i [174]::[])
 (sE (sg1 (by kernel_rfl)) Z) (λN=>⟨okU (nY hs hp hx),okU (gN hn),trivial⟩)
theorem bm1(hs:slS (mS x) p (p+1)=ch)(hp:(.ofNat (p+1):Int)-1=.ofNat p)(hx:(mS x).length<2^20)(hn:(ch==[10])=true):Ok (W2 w Z V) 4 (uw (Pw w Z V) G BM L DL S DS R RC KP KT PL PB CT t J x u p y e ln y1 y2 y3 y4 y5 y6 y7 y8 y9 Z3 Z4 v1 v2 v3 el es ch):=
 okC [] 135 (λN=>[(N.t 4),(N.t 5),(N.t 6),(N.t 11),el]) (λN=>[])
 (.i (ub 44 0xa9a83ba7a73a3b3ba73a3b3ba73a3b3ba73a3b3ba73a3b3ba7a63ba5a53a3b3ba53a3b3ba5ae02aeae292aa4)::.f [5,6,7,8,9] (λN=>jL G R RC KP KT PL CT t J x u p y e (N.t 3) ch)::.i [174,174,174]::.f [] (λN=>fF G ch [10] (N.t 4) (N.t 8) true)::.i (ub 31 0xaea6a6a63ba53a3b3ba53ba53ba53a3b3ba5a63ba5a53a3b3ba53a3b3ba5ae)::[])
 (sE (sg1 (by kernel_rfl)) Z) (λN=>⟨okU (nY hs hp hx),okU (gN hn),trivial⟩)
end
variable{w:World}{Z V:Bool}{BM L DL S R RC KP KT PL PB CT:Addr}{G:GP}{t u y y1 y2 y3 y4 y5 y6 y7 y8 y9 Z3 Z4:Tok}{v1 v2 v3:Value}{J:Nat→Value}{x ch:List Nat}{p e ln el es:Nat}
theorem xR{DS:Addr}(hs:slS (mS x) p (p+1)=ch)(hp:(.ofNat (p+1):Int)-1=.ofNat p)(hx:(mS x).length<2^20)(hn:(ch==[10])=false):Ok (W2 w Z V) 4 (ux (Pw w Z V) G BM L DL S DS R RC KP KT PL PB CT t J x u p y e ln y1 y2 y3 y4 y5 y6 y7 y8 y9 Z3 Z4 v1 v2 v3 el es ch):=bm0 hs hp hx hn
theorem BD{DS:Addr}(hs:slS (mS x) p (p+1)=ch)(hp:(.ofNat (p+1):Int)-1=.ofNat p)(hx:(mS x).length<2^20)(hn:(ch==[10])=true):Ok (W2 w Z V) 4 (uw (Pw w Z V) G BM L DL S DS R RC KP KT PL PB CT t J x u p y e ln y1 y2 y3 y4 y5 y6 y7 y8 y9 Z3 Z4 v1 v2 v3 el es ch):=bm1 hs hp hx hn
theorem Bz{CI:Addr}{ts:Tok}{DS:Addr}(hs:slS (mS x) p (p+1)=[])(hp:(.ofNat (p+1):Int)-1=.ofNat p)(hx:(mS x).length<2^20):Ok (W2 w Z V) 5 (xj (Pw w Z V) G CI BM ts L DL S DS R RC KP KT PL PB CT t J x u p y e ln y1 y2 y3 y4 y5 y6 y7 y8 y9 Z3 Z4 v1 v2 v3 el es):=
 nG (lv:=4) (L:=L) (f:=42) (of:=wm (Pw w Z V)) (xR hs hp hx rfl) rfl rfl rfl (λx hx=>by
  rcases hx with _ | ⟨_,hx⟩
  ·rfl
  all_goals(repeat(first | (cases hx;done) | (rcases hx with _ | ⟨_,hx⟩;rfl)))) (λU p hp=>by
  have hp:p∈[((1+8:Nat),lO [.int (.ofNat _) (U 1)] (U 2))]:=hp
  rw[List.mem_singleton]at hp
  subst hp
  show(1+8:Nat)≠0
  decide)
end
section
open PySem PySem.W PySem.W.X PySem.Builtin
end
section
open PySem PySem.W PySem.W.X PySem.Builtin
section
variable{w:World}{Z V:Bool}{G:GP}{CI BM:Addr}{ts:Tok}{L DL S DS R RC KP KT PL PB CT:Addr}{t:Tok}{J:Nat→Value}{x:List Nat}{u:Tok}{p:Nat}{y:Tok}{e ln:Nat}{y1 y2 y3 y4 y5 y6 y7 y8 y9 Z3 Z4:Tok}{v1 v2 v3:Value}{el es d:Nat}
theorem nx0(hs:slS (mS x) p (p+1)=[d+1])(hp:(.ofNat (p+1):Int)-1=.ofNat p)(hx:(mS x).length<2^20)(hn:([d+1]==[10])=false)(h0:(([]:List Nat)==[d+1])=false):Ok (W2 w Z V) 5 (gE (Pw w Z V) G CI BM ts L DL S DS R RC KP KT PL PB CT t J x u p y e ln y1 y2 y3 y4 y5 y6 y7 y8 y9 Z3 Z4 v1 v2 v3 el es (d+1)):=
 okC [] 15 (λN=>[(N.t 0),(N.t 1),(N.t 2)]) (λN=>[])
 (.i (ub 5 0x2aa5a4a4a4)::.f [1,2,3,4,5,6,7,8,9,10] (λN=>ux (Pw w Z V) G BM L DL S DS R RC KP KT PL PB CT t J x u p y e ln y1 y2 y3 y4 y5 y6 y7 y8 y9 Z3 Z4 v1 v2 v3 el es [(d+1)])::.i [164,164]::.f [] (λN=>fF G [] [(d+1)] ts (N.t 0) false)::[])
 (sE (sg1 (by kernel_rfl)) Z) (λN=>⟨okU (xR hs hp hx hn),okU (gN h0),trivial⟩)
theorem nx1(hs:slS (mS x) p (p+1)=[d+1])(hp:(.ofNat (p+1):Int)-1=.ofNat p)(hx:(mS x).length<2^20)(hn:([d+1]==[10])=true)(h0:(([]:List Nat)==[d+1])=false):Ok (W2 w Z V) 5 (sX (Pw w Z V) G CI BM ts L DL S DS R RC KP KT PL PB CT t J x u p y e ln y1 y2 y3 y4 y5 y6 y7 y8 y9 Z3 Z4 v1 v2 v3 el es (d+1)):=
 okC [] 15 (λN=>[(N.t 0),(N.t 1),(N.t 2),(N.t 3),(N.t 4)]) (λN=>[])
 (.i (ub 5 0x2aa5a4a4a4)::.f [1,2,3,4,5,6,7,8,9,10] (λN=>uw (Pw w Z V) G BM L DL S DS R RC KP KT PL PB CT t J x u p y e ln y1 y2 y3 y4 y5 y6 y7 y8 y9 Z3 Z4 v1 v2 v3 el es [(d+1)])::.i [164,164]::.f [] (λN=>fF G [] [(d+1)] ts (N.t 0) false)::[])
 (sE (sg1 (by kernel_rfl)) Z) (λN=>⟨okU (BD hs hp hx hn),okU (gN h0),trivial⟩)
end
theorem jg{w:World}{Z V:Bool}{CI BM:Addr}{ts:Tok}{G:GP}{L DL S DS R RC KP KT PL PB CT:Addr}{t:Tok}{J:Nat→Value}{x:List Nat}{u:Tok}{p:Nat}{y:Tok}{e:Nat}{ln:Nat}{y1 y2 y3 y4 y5 y6 y7 y8 y9 Z3 Z4:Tok}{v1 v2 v3:Value}{el es:Nat}{c:Nat}(hs:slS (mS x) p (p+1)=[c])(hp:(.ofNat (p+1):Int)-1=.ofNat p)(hx:(mS x).length<2^20)(hn:([c]==[10])=false)(h0:0<c:=by first | assumption | decide | lia):Ok (W2 w Z V) 5 (gE (Pw w Z V) G CI BM ts L DL S DS R RC KP KT PL PB CT t J x u p y e ln y1 y2 y3 y4 y5 y6 y7 y8 y9 Z3 Z4 v1 v2 v3 el es c):=by
 cases c with
 | zero=>exact absurd h0 (Nat.lt_irrefl _)
 | succ d=>exact nx0 hs hp hx hn rfl
theorem BA{w:World}{Z V:Bool}{CI BM:Addr}{ts:Tok}{G:GP}{L DL S DS R RC KP KT PL PB CT:Addr}{t:Tok}{J:Nat→Value}{x:List Nat}{u:Tok}{p:Nat}{y:Tok}{e:Nat}{ln:Nat}{y1 y2 y3 y4 y5 y6 y7 y8 y9 Z3 Z4:Tok}{v1 v2 v3:Value}{el es:Nat}{c:Nat}(hs:slS (mS x) p (p+1)=[c])(hp:(.ofNat (p+1):Int)-1=.ofNat p)(hx:(mS x).length<2^20)(hn:([c]==[10])=true)(h0:0<c:=by first | assumption | decide | lia):Ok (W2 w Z V) 5 (sX (Pw w Z V) G CI BM ts L DL S DS R RC KP KT PL PB CT t J x u p y e ln y1 y2 y3 y4 y5 y6 y7 y8 y9 Z3 Z4 v1 v2 v3 el es c):=by
 cases c with
 | zero=>exact absurd h0 (Nat.lt_irrefl _)
 | succ d=>exact nx1 hs hp hx hn rfl
end
section
open PySem PySem.W PySem.W.X PySem.Builtin
noncomputable def orW:Stmt→List Stmt
 | .If _ _ o _=>o
 | _=>[]
noncomputable abbrev rP:List Nat:=[115,101,108,102]
noncomputable abbrev fO:List Nat:=[116,111,107,101,110]
noncomputable abbrev pi:List Nat:=[102,105,116,101,114]
noncomputable abbrev zD:List Nat:=[99,104]
noncomputable def xX:Stmt:=stM 4 2
noncomputable def qQ:Stmt:=b4 (bdS xX) 3
noncomputable def ilQ:Stmt:=b4 (bdW (b4 (bdW qQ) 1)) 0
noncomputable def ilU:Stmt:=b4 (orW (b4 (bdW qQ) 1)) 2
noncomputable abbrev vN:List Nat:=[95,110,101,116,114,99,108,101,120,46,103,101,116,95,116,111,107,101,110]
noncomputable def xZ(fr:Addr):Env:={kX xX 49 48 fr with qual:=mS vN++eH}
noncomputable def xY(P:Params)(L CI:Addr)(x1 x2 x3 x4:Tok)(tok:List Nat)(tt:Tok)(vc:Value)(ef:Nat):Obj:=frO [en P rP x1 (.ref L),en P fO x2 (.str (mS tok) tt),en P pi x3 (.ref CI),en P zD x4 vc] ef
noncomputable def tG(CI BM:Addr)(ts:Tok)(L:Addr)(P:Params)(DL S DS R RC KP KT PL PB CT:Addr)(t:Tok)(J:Nat→Value)(x:List Nat)(u:Tok)(p:Nat)(y:Tok)(e:Nat)(ln:Nat)(y1 y2 y3 y4 y5 y6 y7 y8 y9 Z3 Z4:Tok)(v1 v2 v3:Value)(el es:Nat)(x1 x2 x3 x4:Tok)(tok:List Nat)(tt:Tok)(vc:Value)(ef:Nat):List (Option Obj):=
 some (xY P L CI x1 x2 x3 x4 tok tt vc ef)::i6 BM ts L P DL S DS R RC KP KT PL PB CT t J x u p y e ln y1 y2 y3 y4 y5 y6 y7 y8 y9 Z3 Z4 v1 v2 v3 el es
noncomputable def ilS(st:Stmt)(P:Params)(G:GP)(fr CI BM:Addr)(ts:Tok)(L:Addr)(DL S DS R RC KP KT PL PB CT:Addr)(t:Tok)(J:Nat→Value)(x:List Nat)(u:Tok)(p:Nat)(y:Tok)(e:Nat)(ln:Nat)(y1 y2 y3 y4 y5 y6 y7 y8 y9 Z3 Z4:Tok)(v1 v2 v3:Value)(el es:Nat)(x1 x2 x3 x4:Tok)(tok:List Nat)(tt:Tok)(vc:Value)(ef:Nat)(ZN:List Nat)(p' Zr:Nat):ac:=
 sd (cM st (.ref CI) (xZ fr)) (aa [fr,CI,BM,L,DL,S,DS,R,RC,KP,KT,PL]) (tG CI BM ts L P DL S DS R RC KP KT PL PB CT t J x u p y e ln y1 y2 y3 y4 y5 y6 y7 y8 y9 Z3 Z4 v1 v2 v3 el es x1 x2 x3 x4 tok tt vc ef) G G 0 6 1 λ_ U O=>
  ⟨.ok (.ret (.str (mS ZN) (U 0))),[(0,xY P L CI x1 x2 x3 x4 ZN (U 0) (O 0) (U 1)),(4,dlO P S PB Zr y1 (U 2) y3 y4 y5 y6 (U 3)),(11,lO [.int (.ofNat p') (U 4)] (U 5))],[]⟩
end
section
open PySem PySem.W PySem.W.X PySem.Builtin
section
variable{w:World}{Z V:Bool}{G:GP}{fr CI BM:Addr}{ts:Tok}{L DL S DS R RC KP KT PL PB CT:Addr}{t:Tok}{J:Nat→Value}{x:List Nat}{u:Tok}{p:Nat}{y:Tok}{e ln:Nat}{y1 y2 y3 y4 y5 y6 y7 y8 y9 Z3 Z4:Tok}{v1 v2 v3:Value}{el es:Nat}{x1 x2 x3 x4:Tok}{tok:List Nat}{tt:Tok}{vc:Value}{ef:Nat}{ZN:List Nat}{p' Zr c:Nat}
theorem BJ(hs:slS (mS x) p (p+1)=[c])(hp:(.ofNat (p+1):Int)-1=.ofNat p)(hx:(mS x).length<2^20)(hn:([c]==[10])=false)(h3:([c]==[34])=false)(h92:([c]==[92])=false)(hc0:0<c)(ht:tok.length<2^19)(nx:NX λC U O=>Ok (W2 w Z V) 6 (ilS ilQ (Pw w Z V) G fr CI BM ts L DL S DS R RC KP KT PL PB CT t J x u (p+1) (U 0) (U 1) ln y1 y2 y3 y4 y5 y6 y7 y8 y9 Z3 Z4 v1 v2 v3 el es x1 x2 x3 x4 (tok++[c]) (U 2) (O 0) (U 3) ZN p' Zr)):Ok (W2 w Z V) 6 (ilS ilQ (Pw w Z V) G fr CI BM ts L DL S DS R RC KP KT PL PB CT t J x u p y e ln y1 y2 y3 y4 y5 y6 y7 y8 y9 Z3 Z4 v1 v2 v3 el es x1 x2 x3 x4 tok tt vc ef ZN p' Zr):=
 aj nx (λN=>List.map N.r []) (λN=>[(N.t 1),(N.t 2),(N.t 8),ef]) (λN=>[(.str (mS [c]) (N.t 0))]) 42
 (.i [165]::.f [1,2,3,4,5,6,7,8,9,10,11] (λN=>gE (Pw w Z V) G CI BM ts L DL S DS R RC KP KT PL PB CT t J x u p y e ln y1 y2 y3 y4 y5 y6 y7 y8 y9 Z3 Z4 v1 v2 v3 el es c)::.i [164,164,164]::.f [] (λN=>fF G [c] [34] (N.t 0) (N.t 6) false)::.i [164]::.f [] (λN=>fF G [c] [92] (N.t 0) (N.t 7) false)::.i [164,164]::.f [] (λN=>aX G tok [c] tt (N.t 0))::.i [164,164]::[])
 (sE (sg1 (by kernel_rfl)) Z) (λN=>⟨okU (jg hs hp hx hn hc0),okU (gN h3),okU (gN h92),okU (bi),trivial⟩)
theorem BI(hs:slS (mS x) p (p+1)=[92])(hp:(.ofNat (p+1):Int)-1=.ofNat p)(hx:(mS x).length<2^20)(ZI:slS (mS x) (p+1) (p+1+1)=[c])(hp2:(.ofNat (p+1+1):Int)-1=.ofNat (p+1))(hn:([c]==[10])=false)(ht:tok.length<2^19)(nx:NX λC U O=>Ok (W2 w Z V) 6 (ilS ilQ (Pw w Z V) G fr CI BM ts L DL S DS R RC KP KT PL PB CT t J x u (p+1+1) (U 0) (U 1) ln y1 y2 y3 y4 y5 y6 y7 y8 y9 Z3 Z4 v1 v2 v3 el es x1 x2 x3 x4 (tok++[c]) (U 2) (O 0) (U 3) ZN p' Zr)):Ok (W2 w Z V) 6 (ilS ilQ (Pw w Z V) G fr CI BM ts L DL S DS R RC KP KT PL PB CT t J x u p y e ln y1 y2 y3 y4 y5 y6 y7 y8 y9 Z3 Z4 v1 v2 v3 el es x1 x2 x3 x4 tok tt vc ef ZN p' Zr):=
 aj nx (λN=>List.map N.r []) (λN=>[(N.t 9),(N.t 10),(N.t 14),ef]) (λN=>[(.str (mS [c]) (N.t 8))]) 77
 (.i [165]::.f [1,2,3,4,5,6,7,8,9,10,11] (λN=>gE (Pw w Z V) G CI BM ts L DL S DS R RC KP KT PL PB CT t J x u p y e ln y1 y2 y3 y4 y5 y6 y7 y8 y9 Z3 Z4 v1 v2 v3 el es 92)::.i (ub 21 0x2aa8a72a3a3b3ba73a3b3ba73a3b3ba7a4a4a4a4a4)::.f [3,4,5,6,7,8,9,10,11] (λN=>ng (Pw w Z V) G L DL S DS R RC KP KT PL PB CT t J x u (p+1) (N.t 1) (N.t 2) ln y1 y2 y3 y4 y5 y6 y7 y8 y9 Z3 Z4 v1 v2 v3 el es [c])::.i (ub 4 0xa4a4a4a4)::.f [] (λN=>aX G tok [c] tt (N.t 8))::.i [164,164]::[])
 (sE (sg1 (by kernel_rfl)) Z) (λN=>⟨okU (jg hs hp hx (by first | assumption | lia | (simp only[List.length_cons,List.length_nil];lia) | decide)),okU (tB ZI hp2 hx hn),okU (bi),trivial⟩)
theorem BH(hs:slS (mS x) p (p+1)=[34])(hp:(.ofNat (p+1):Int)-1=.ofNat p)(hx:(mS x).length<2^20):Ok (W2 w Z V) 6 (ilS ilQ (Pw w Z V) G fr CI BM ts L DL S DS R RC KP KT PL PB CT t J x u p y e ln y1 y2 y3 y4 y5 y6 y7 y8 y9 Z3 Z4 v1 v2 v3 el es x1 x2 x3 x4 tok tt vc ef tok (p+1) ln):=
 okC [] 26 (λN=>[tt,ef,y2,el,(N.t 1),(N.t 2)]) (λN=>[(.str (mS [34]) (N.t 0))])
 (.i [165]::.f [1,2,3,4,5,6,7,8,9,10,11] (λN=>gE (Pw w Z V) G CI BM ts L DL S DS R RC KP KT PL PB CT t J x u p y e ln y1 y2 y3 y4 y5 y6 y7 y8 y9 Z3 Z4 v1 v2 v3 el es 34)::.i (ub 4 0xa4a4a4a4)::[])
 (sE (sg1 (by kernel_rfl)) Z) (λN=>⟨okU (jg hs hp hx (by first | assumption | lia | (simp only[List.length_cons,List.length_nil];lia) | decide)),trivial⟩)
theorem BG(hs:slS (mS x) p (p+1)=[c])(hp:(.ofNat (p+1):Int)-1=.ofNat p)(hx:(mS x).length<2^20)(hn:([c]==[10])=false)(h3:inS bC [c]=false)(h92:([c]==[92])=false)(hc0:0<c)(ht:tok.length<2^19)(nx:NX λC U O=>Ok (W2 w Z V) 6 (ilS ilU (Pw w Z V) G fr CI BM ts L DL S DS R RC KP KT PL PB CT t J x u (p+1) (U 0) (U 1) ln y1 y2 y3 y4 y5 y6 y7 y8 y9 Z3 Z4 v1 v2 v3 el es x1 x2 x3 x4 (tok++[c]) (U 2) (O 0) (U 3) ZN p' Zr)):Ok (W2 w Z V) 6 (ilS ilU (Pw w Z V) G fr CI BM ts L DL S DS R RC KP KT PL PB CT t J x u p y e ln y1 y2 y3 y4 y5 y6 y7 y8 y9 Z3 Z4 v1 v2 v3 el es x1 x2 x3 x4 tok tt vc ef ZN p' Zr):=
 aj nx (λN=>List.map N.r []) (λN=>[(N.t 1),(N.t 2),(N.t 8),ef]) (λN=>[(.str (mS [c]) (N.t 0))]) 59
 (.i [165]::.f [1,2,3,4,5,6,7,8,9,10,11] (λN=>gE (Pw w Z V) G CI BM ts L DL S DS R RC KP KT PL PB CT t J x u p y e ln y1 y2 y3 y4 y5 y6 y7 y8 y9 Z3 Z4 v1 v2 v3 el es c)::.i (ub 16 0xa83ba7a73a3b3ba73a3b3ba7a4a4a4a4)::.f [] (λN=>kn G [10,9,13,32] [c] y5 (N.t 0) false)::.i [164]::.f [] (λN=>fF G [c] [92] (N.t 0) (N.t 7) false)::.i [164,164]::.f [] (λN=>aX G tok [c] tt (N.t 0))::.i [164,164]::[])
 (sE (sg1 (by kernel_rfl)) Z) (λN=>⟨okU (jg hs hp hx hn hc0),okU (kR h3),okU (gN h92),okU (bi),trivial⟩)
theorem BF(hs:slS (mS x) p (p+1)=[92])(hp:(.ofNat (p+1):Int)-1=.ofNat p)(hx:(mS x).length<2^20)(ZI:slS (mS x) (p+1) (p+1+1)=[c])(hp2:(.ofNat (p+1+1):Int)-1=.ofNat (p+1))(hn:([c]==[10])=false)(h3:inS bC [92]=false)(ht:tok.length<2^19)(nx:NX λC U O=>Ok (W2 w Z V) 6 (ilS ilU (Pw w Z V) G fr CI BM ts L DL S DS R RC KP KT PL PB CT t J x u (p+1+1) (U 0) (U 1) ln y1 y2 y3 y4 y5 y6 y7 y8 y9 Z3 Z4 v1 v2 v3 el es x1 x2 x3 x4 (tok++[c]) (U 2) (O 0) (U 3) ZN p' Zr)):Ok (W2 w Z V) 6 (ilS ilU (Pw w Z V) G fr CI BM ts L DL S DS R RC KP KT PL PB CT t J x u p y e ln y1 y2 y3 y4 y5 y6 y7 y8 y9 Z3 Z4 v1 v2 v3 el es x1 x2 x3 x4 tok tt vc ef ZN p' Zr):=
 aj nx (λN=>List.map N.r []) (λN=>[(N.t 9),(N.t 10),(N.t 14),ef]) (λN=>[(.str (mS [c]) (N.t 8))]) 92
 (.i [165]::.f [1,2,3,4,5,6,7,8,9,10,11] (λN=>gE (Pw w Z V) G CI BM ts L DL S DS R RC KP KT PL PB CT t J x u p y e ln y1 y2 y3 y4 y5 y6 y7 y8 y9 Z3 Z4 v1 v2 v3 el es 92)::.i (ub 16 0xa83ba7a73a3b3ba73a3b3ba7a4a4a4a4)::.f [] (λN=>kn G [10,9,13,32] [92] y5 (N.t 0) false)::.i (ub 18 0x2aa8a72a3a3b3ba73a3b3ba73a3b3ba7a4a4)::.f [3,4,5,6,7,8,9,10,11] (λN=>ng (Pw w Z V) G L DL S DS R RC KP KT PL PB CT t J x u (p+1) (N.t 1) (N.t 2) ln y1 y2 y3 y4 y5 y6 y7 y8 y9 Z3 Z4 v1 v2 v3 el es [c])::.i (ub 4 0xa4a4a4a4)::.f [] (λN=>aX G tok [c] tt (N.t 8))::.i [164,164]::[])
 (sE (sg1 (by kernel_rfl)) Z) (λN=>⟨okU (jg hs hp hx (by first | assumption | lia | (simp only[List.length_cons,List.length_nil];lia) | decide)),okU (kR h3),okU (tB ZI hp2 hx hn),okU (bi),trivial⟩)
theorem xW(hs:slS (mS x) p (p+1)=[c])(hp:(.ofNat (p+1):Int)-1=.ofNat p)(hx:(mS x).length<2^20)(hn:([c]==[10])=false)(h3:inS bC [c]=true)(hc0:0<c):Ok (W2 w Z V) 6 (ilS ilU (Pw w Z V) G fr CI BM ts L DL S DS R RC KP KT PL PB CT t J x u p y e ln y1 y2 y3 y4 y5 y6 y7 y8 y9 Z3 Z4 v1 v2 v3 el es x1 x2 x3 x4 tok tt vc ef tok (p+1) ln):=
 okC [] 41 (λN=>[tt,ef,y2,el,(N.t 1),(N.t 2)]) (λN=>[(.str (mS [c]) (N.t 0))])
 (.i [165]::.f [1,2,3,4,5,6,7,8,9,10,11] (λN=>gE (Pw w Z V) G CI BM ts L DL S DS R RC KP KT PL PB CT t J x u p y e ln y1 y2 y3 y4 y5 y6 y7 y8 y9 Z3 Z4 v1 v2 v3 el es c)::.i (ub 16 0xa83ba7a73a3b3ba73a3b3ba7a4a4a4a4)::.f [] (λN=>kn G [10,9,13,32] [c] y5 (N.t 0) true)::.i [164]::[])
 (λ_ _ _=>by kernel_rfl) (λN=>⟨okU (jg hs hp hx hn hc0),okU (kR h3),trivial⟩)
theorem xV(hs:slS (mS x) p (p+1)=[10])(hp:(.ofNat (p+1):Int)-1=.ofNat p)(hx:(mS x).length<2^20)(h3:inS bC [10]=true):Ok (W2 w Z V) 6 (ilS ilU (Pw w Z V) G fr CI BM ts L DL S DS R RC KP KT PL PB CT t J x u p y e ln y1 y2 y3 y4 y5 y6 y7 y8 y9 Z3 Z4 v1 v2 v3 el es x1 x2 x3 x4 tok tt vc ef tok (p+1) (ln+1)):=
 okC [] 41 (λN=>[tt,ef,(N.t 3),(N.t 4),(N.t 1),(N.t 2)]) (λN=>[(.str (mS [10]) (N.t 0))])
 (.i [165]::.f [1,2,3,4,5,6,7,8,9,10,11] (λN=>sX (Pw w Z V) G CI BM ts L DL S DS R RC KP KT PL PB CT t J x u p y e ln y1 y2 y3 y4 y5 y6 y7 y8 y9 Z3 Z4 v1 v2 v3 el es 10)::.i (ub 16 0xa83ba7a73a3b3ba73a3b3ba7a4a4a4a4)::.f [] (λN=>kn G [10,9,13,32] [10] y5 (N.t 0) true)::.i [164]::[])
 (λ_ _ _=>by kernel_rfl) (λN=>⟨okU (BA hs hp hx (by first | assumption | lia | (simp only[List.length_cons,List.length_nil];lia) | decide)),okU (kR h3),trivial⟩)
end
noncomputable def jy(w:World)(Z V:Bool)(st:Stmt)(x:List Nat)(p:Nat)(tok:List Nat)(d:Nat)(ZN:List Nat)(p':Nat):Prop:=
 ∀(G:GP) (fr CI BM:Addr) (ts:Tok) (L DL S DS R RC KP KT PL PB CT:Addr) (t:Tok) (J:Nat→Value) (u y:Tok) (e ln:Nat) (y1 y2 y3 y4 y5 y6 y7 y8 y9 Z3 Z4:Tok) (v1 v2 v3:Value) (el es:Nat) (x1 x2 x3 x4 tt:Tok) (vc:Value) (ef:Nat),Ok (W2 w Z V) 6 (ilS st (Pw w Z V) G fr CI BM ts L DL S DS R RC KP KT PL PB CT t J x u p y e ln y1 y2 y3 y4 y5 y6 y7 y8 y9 Z3 Z4 v1 v2 v3 el es x1 x2 x3 x4 tok tt vc ef ZN p' (ln+d))
theorem hpL(p:Nat):(.ofNat (p+1):Int)-1=.ofNat p:=by
 show((p+1:Nat):Int)-1=(p:Int)
 lia
theorem cY:∀c∈bs,([c]==[10])=false∧([c]==[34])=false∧([c]==[92])=false∧inS bC [c]=false∧0<c:=by decide+kernel
theorem dB:∀c∈bC,inS bC [c]=true∧0<c:=by decide+kernel
theorem ir:inS bC [92]=false:=by decide+kernel
theorem bf{x:List Nat}{p:Nat}{a b:List Nat}(h:x.drop p=a++b):x.drop (p+a.length)=b:=by
 rw[←List.drop_drop,h,List.drop_left]
theorem de{c:Nat}(h:c%2=0):spY c=[c]:=by simp[spY,h]
theorem ez{c:Nat}(h:c%2=1):spY c=[92,c]:=by simp[spY,h]
theorem bz(c:Nat)(ws:List Nat):(aB (c::ws)).flatten=spY c++(aB ws).flatten:=rfl
theorem jk{w:World}{Z V:Bool}{x Z5:List Nat}(hx:(mS x).length<2^20):∀(ws:List Nat) (p:Nat) (tok:List Nat),(∀c∈ws,c∈bs)→x.drop p=(aB ws).flatten++([34]++Z5)→tok.length+ws.length<2^18→
  jy w Z V ilQ x p tok 0 (tok++ws) (p+(aB ws).flatten.length+1)
 | [],p,tok,_,h,_=>by
  have h:x.drop p=[34]++Z5:=h
  rw[show(aB []).flatten.length=0 from rfl,Nat.add_zero,List.append_nil]
  unfold jy;intros
  exact BH (aw h rfl) (hpL p) hx
 | c::ws,p,tok,Zl,h,hl=>by
  unfold jy;intros
  obtain⟨a1,a2,a3,a4,a5⟩:=cY c (Zl c (.head _))
  rw[List.length_cons]at hl
  have hal':∀c∈ws,c∈bs:=λc hc=>Zl c (.tail _ hc)
  rw[bz]at h
  rw[bz,List.length_append,show tok++c::ws=(tok++[c])++ws by simp]
  have h2:c%2=0∨c%2=1:=by lia
  rcases h2 with h2 | h2
  ·rw[de h2]at h ⊢
   have h':x.drop p=[c]++((aB ws).flatten++([34]++Z5)):=by rw[h];simp
   have hd:=bf h'
   have ih:=jk (w:=w) (Z:=Z) (V:=V) hx ws (p+1) (tok++[c]) hal' hd (by rw[List.length_append];simp only[List.length_cons,List.length_nil];lia)
   rw[show p+([c].length+(aB ws).flatten.length)+1=p+1+(aB ws).flatten.length+1 by simp only[List.length_cons,List.length_nil];lia]
   exact BJ (aw h' rfl) (hpL p) hx a1 a2 a3 a5 (by lia) λC U O=>by apply ih
  ·rw[ez h2]at h ⊢
   have h':x.drop p=[92,c]++((aB ws).flatten++([34]++Z5)):=by rw[h];simp
   have h1:x.drop p=[92]++([c]++((aB ws).flatten++([34]++Z5))):=h'
   have hd:=bf h'
   have ih:=jk (w:=w) (Z:=Z) (V:=V) hx ws (p+1+1) (tok++[c]) hal' hd (by rw[List.length_append];simp only[List.length_cons,List.length_nil];lia)
   rw[show p+([92,c].length+(aB ws).flatten.length)+1=p+1+1+(aB ws).flatten.length+1 by simp only[List.length_cons,List.length_nil];lia]
   exact BI (aw h1 rfl) (hpL p) hx (aw (bf h1) rfl) (hpL (p+1)) a1 (by lia) λC U O=>by apply ih
theorem fU{w:World}{Z V:Bool}{x Z5:List Nat}(hx:(mS x).length<2^20)(q:Nat)(hq:q∈bC):∀(ws:List Nat) (p:Nat) (tok:List Nat),(∀c∈ws,c∈bs)→x.drop p=(aB ws).flatten++([q]++Z5)→tok.length+ws.length<2^18→
  jy w Z V ilU x p tok (if q=10 then 1 else 0) (tok++ws) (p+(aB ws).flatten.length+1)
 | [],p,tok,_,h,_=>by
  have h:x.drop p=[q]++Z5:=h
  rw[show(aB []).flatten.length=0 from rfl,Nat.add_zero,List.append_nil]
  unfold jy;intros
  by_cases hten:q=10
  ·subst hten
   rw[if_pos rfl]
   exact xV (aw h rfl) (hpL p) hx (dB 10 hq).1
  ·rw[if_neg hten]
   exact xW (aw h rfl) (hpL p) hx (by rw[beq_eq_false_iff_ne];intro z;exact hten (List.cons.inj z).1) (dB q hq).1 (dB q hq).2
 | c::ws,p,tok,Zl,h,hl=>by
  unfold jy;intros
  obtain⟨a1,a2,a3,a4,a5⟩:=cY c (Zl c (.head _))
  rw[List.length_cons]at hl
  have hal':∀c∈ws,c∈bs:=λc hc=>Zl c (.tail _ hc)
  rw[bz]at h
  rw[bz,List.length_append,show tok++c::ws=(tok++[c])++ws by simp]
  have h2:c%2=0∨c%2=1:=by lia
  rcases h2 with h2 | h2
  ·rw[de h2]at h ⊢
   have h':x.drop p=[c]++((aB ws).flatten++([q]++Z5)):=by rw[h];simp
   have hd:=bf h'
   have ih:=fU (w:=w) (Z:=Z) (V:=V) hx q hq ws (p+1) (tok++[c]) hal' hd (by rw[List.length_append];simp only[List.length_cons,List.length_nil];lia)
   rw[show p+([c].length+(aB ws).flatten.length)+1=p+1+(aB ws).flatten.length+1 by simp only[List.length_cons,List.length_nil];lia]
   exact BG (aw h' rfl) (hpL p) hx a1 a4 a3 a5 (by lia) λC U O=>by apply ih
  ·rw[ez h2]at h ⊢
   have h':x.drop p=[92,c]++((aB ws).flatten++([q]++Z5)):=by rw[h];simp
   have h1:x.drop p=[92]++([c]++((aB ws).flatten++([q]++Z5))):=h'
   have hd:=bf h'
   have ih:=fU (w:=w) (Z:=Z) (V:=V) hx q hq ws (p+1+1) (tok++[c]) hal' hd (by rw[List.length_append];simp only[List.length_cons,List.length_nil];lia)
   rw[show p+([92,c].length+(aB ws).flatten.length)+1=p+1+1+(aB ws).flatten.length+1 by simp only[List.length_cons,List.length_nil];lia]
   exact BF (aw h1 rfl) (hpL p) hx (aw (bf h1) rfl) (hpL (p+1)) a1 ir (by lia) λC U O=>by apply ih
end
section
open PySem PySem.W PySem.W.X PySem.Builtin
variable{w:World}{Z V:Bool}{G:GP}{fr CI BM L DL S R RC KP KT PL PB CT:Addr}{ts t u y y1 y2 y3 y4 y5 y6 y7 y8 y9 Z3 Z4 x1 x2 x3 x4 tt:Tok}{v1 v2 v3 vc:Value}{J:Nat→Value}{e ln el es ef p d p':Nat}{x tok ZN:List Nat}
noncomputable def oa(P:Params)(DL S DS R RC KP KT PL PB CT:Addr)(t:Tok)(J:Nat→Value)(x:List Nat)(u:Tok)(p:Nat)(y:Tok)(e:Nat)(ln:Nat)(y1 y2 y3 y4 y5 y6 y7 y8 y9 Z3 Z4:Tok)(v1 v2 v3:Value)(el es:Nat)(vs:List Value)(ep:Nat):List (Option Obj):=iN P DL S DS R RC KP KT PL PB CT t J x u p y e ln y1 y2 y3 y4 y5 y6 y7 y8 y9 Z3 Z4 v1 v2 v3 el es++[some (lO vs ep)]
noncomputable def gtS(P:Params)(G:GP)(L:Addr)(DL S DS R RC KP KT PL PB CT:Addr)(t:Tok)(J:Nat→Value)(x:List Nat)(u:Tok)(p:Nat)(y:Tok)(e:Nat)(ln:Nat)(y1 y2 y3 y4 y5 y6 y7 y8 y9 Z3 Z4:Tok)(v1 v2 v3:Value)(el es:Nat)(ep:Nat)(ZN:List Nat)(p' Zr:Nat):ac:=
 sd (.call (.ref 49) ⟨[.ref L],[]⟩) (aa [L,DL,S,DS,R,RC,KP,KT,PL,PB]) (oa P DL S DS R RC KP KT PL PB CT t J x u p y e ln y1 y2 y3 y4 y5 y6 y7 y8 y9 Z3 Z4 v1 v2 v3 el es [] ep) G G 0 5 0 λ_ U _=>⟨.ok (.ret (.str (mS ZN) (U 0))),[(1,dlO P S PB Zr y1 (U 1) y3 y4 y5 y6 (U 2)),(8,lO [.int (.ofNat p') (U 3)] (U 4))],[]⟩
end
section
open PySem PySem.W PySem.W.X PySem.Builtin
noncomputable abbrev i4(zz:List It):List It:=
 .i (ub 56 0xb0b0b0b0b0aeaeaeaf2a3a3b3ba53ba4a42a2a2a3a3b3ba43a3b3ba4ae0003aeaeadadadadada53ba4a43a3b3ba43a3b3ba4ae02aeae3031)::zz
section
variable{w:World}{Z V:Bool}{G:GP}{L DL S DS R RC KP KT PL PB CT:Addr}{t:Tok}{J:Nat→Value}{x:List Nat}{u:Tok}{p:Nat}{y:Tok}{e ln:Nat}{y1 y2 y3 y4 y5 y6 y7 y8 y9 Z3 Z4:Tok}{v1 v2 v3:Value}{el es ep d:Nat}{ZN:List Nat}{p' c:Nat}
theorem gtQ(hs:slS (mS x) p (p+1)=[34])(hp:(.ofNat (p+1):Int)-1=.ofNat p)(hx:(mS x).length<2^20)(h3:inS bC [34]=false)(hI:jy w Z V ilQ x (p+1) [] d ZN p'):Ok (W2 w Z V) 7 (gtS (Pw w Z V) G L DL S DS R RC KP KT PL PB CT t J x u p y e ln y1 y2 y3 y4 y5 y6 y7 y8 y9 Z3 Z4 v1 v2 v3 el es ep ZN p' (ln+d)):=
 okC [] 175 (λN=>[(N.t 17),(N.t 19),(N.t 20),(N.t 21),(N.t 22)]) (λN=>[])
 (i4 (.f [12,11,0,1,2,3,4,5,6,7,8] (λN=>gE (Pw w Z V) G (N.r 12) (N.r 11) (N.t 7) L DL S DS R RC KP KT PL PB CT t J x u p y e ln y1 y2 y3 y4 y5 y6 y7 y8 y9 Z3 Z4 v1 v2 v3 el es 34)::.i (ub 16 0xa53ba4a43a3b3ba43a3b3ba4aeaeaeae)::.f [] (λN=>kn G [10,9,13,32] [34] y5 (N.t 9) false)::.i (ub 6 0xb0b0b0b0aeae)::.f [10,12,11,0,1,2,3,4,5,6,7,8] (λN=>ilS ilQ (Pw w Z V) G (N.r 10) (N.r 12) (N.r 11) (N.t 7) L DL S DS R RC KP KT PL PB CT t J x u (p+1) (N.t 10) (N.t 11) ln y1 y2 y3 y4 y5 y6 y7 y8 y9 Z3 Z4 v1 v2 v3 el es (N.t 0) (N.t 5) (N.t 8) (N.t 14) [] (N.t 4) (.str (mS [34]) (N.t 9)) 4 ZN p' (ln+d))::[]))
 (sE (sg1 (by kernel_rfl)) Z) (λN=>⟨okU (jg hs hp hx (by first | assumption | lia | (simp only[List.length_cons,List.length_nil];lia) | decide)),okU (kR h3),okU (by apply hI),trivial⟩)
theorem BV(hs:slS (mS x) p (p+1)=[c])(hp:(.ofNat (p+1):Int)-1=.ofNat p)(hx:(mS x).length<2^20)(hn:([c]==[10])=false)(h3:inS bC [c]=false)(h34:([c]==[34])=false)(h92:([c]==[92])=false)(hc0:0<c)(hI:jy w Z V ilU x (p+1) [c] d ZN p'):Ok (W2 w Z V) 7 (gtS (Pw w Z V) G L DL S DS R RC KP KT PL PB CT t J x u p y e ln y1 y2 y3 y4 y5 y6 y7 y8 y9 Z3 Z4 v1 v2 v3 el es ep ZN p' (ln+d)):=
 okC [] 194 (λN=>[(N.t 20),(N.t 22),(N.t 23),(N.t 24),(N.t 25)]) (λN=>[])
 (i4 (.f [12,11,0,1,2,3,4,5,6,7,8] (λN=>gE (Pw w Z V) G (N.r 12) (N.r 11) (N.t 7) L DL S DS R RC KP KT PL PB CT t J x u p y e ln y1 y2 y3 y4 y5 y6 y7 y8 y9 Z3 Z4 v1 v2 v3 el es c)::.i (ub 16 0xa53ba4a43a3b3ba43a3b3ba4aeaeaeae)::.f [] (λN=>kn G [10,9,13,32] [c] y5 (N.t 9) false)::.i [174]::.f [] (λN=>fF G [c] [34] (N.t 9) (N.t 16) false)::.i [174]::.f [] (λN=>fF G [c] [92] (N.t 9) (N.t 17) false)::.i [174,174]::.f [] (λN=>aX G [] [c] (N.t 4) (N.t 9))::.i (ub 7 0xb0b0b0b0aeaeae)::.f [10,12,11,0,1,2,3,4,5,6,7,8] (λN=>ilS ilU (Pw w Z V) G (N.r 10) (N.r 12) (N.r 11) (N.t 7) L DL S DS R RC KP KT PL PB CT t J x u (p+1) (N.t 10) (N.t 11) ln y1 y2 y3 y4 y5 y6 y7 y8 y9 Z3 Z4 v1 v2 v3 el es (N.t 0) (N.t 5) (N.t 8) (N.t 14) [c] (N.t 18) (.str (mS [c]) (N.t 9)) 4 ZN p' (ln+d))::[]))
 (sE (sg1 (by kernel_rfl)) Z) (λN=>⟨okU (jg hs hp hx hn hc0),okU (kR h3),okU (gN h34),okU (gN h92),okU (bi),okU (by apply hI),trivial⟩)
theorem BU(hs:slS (mS x) p (p+1)=[92])(hp:(.ofNat (p+1):Int)-1=.ofNat p)(hx:(mS x).length<2^20)(ZI:slS (mS x) (p+1) (p+1+1)=[c])(hp2:(.ofNat (p+1+1):Int)-1=.ofNat (p+1))(hn:([c]==[10])=false)(h34:(([92]:List Nat)==[34])=false)(h3:inS bC [92]=false)(hI:jy w Z V ilU x (p+1+1) [c] d ZN p'):Ok (W2 w Z V) 7 (gtS (Pw w Z V) G L DL S DS R RC KP KT PL PB CT t J x u p y e ln y1 y2 y3 y4 y5 y6 y7 y8 y9 Z3 Z4 v1 v2 v3 el es ep ZN p' (ln+d)):=
 okC [] 227 (λN=>[(N.t 26),(N.t 28),(N.t 29),(N.t 30),(N.t 31)]) (λN=>[])
 (i4 (.f [12,11,0,1,2,3,4,5,6,7,8] (λN=>gE (Pw w Z V) G (N.r 12) (N.r 11) (N.t 7) L DL S DS R RC KP KT PL PB CT t J x u p y e ln y1 y2 y3 y4 y5 y6 y7 y8 y9 Z3 Z4 v1 v2 v3 el es 92)::.i (ub 16 0xa53ba4a43a3b3ba43a3b3ba4aeaeaeae)::.f [] (λN=>kn G [10,9,13,32] [92] y5 (N.t 9) false)::.i [174]::.f [] (λN=>fF G [92] [34] (N.t 9) (N.t 16) false)::.i (ub 18 0x2aa5a42a3a3b3ba43a3b3ba43a3b3ba4aeae)::.f [0,1,2,3,4,5,6,7,8] (λN=>ng (Pw w Z V) G L DL S DS R RC KP KT PL PB CT t J x u (p+1) (N.t 10) (N.t 11) ln y1 y2 y3 y4 y5 y6 y7 y8 y9 Z3 Z4 v1 v2 v3 el es [c])::.i (ub 4 0xaeaeaeae)::.f [] (λN=>aX G [] [c] (N.t 4) (N.t 18))::.i (ub 7 0xb0b0b0b0aeaeae)::.f [10,12,11,0,1,2,3,4,5,6,7,8] (λN=>ilS ilU (Pw w Z V) G (N.r 10) (N.r 12) (N.r 11) (N.t 7) L DL S DS R RC KP KT PL PB CT t J x u ((p+1)+1) (N.t 19) (N.t 20) ln y1 y2 y3 y4 y5 y6 y7 y8 y9 Z3 Z4 v1 v2 v3 el es (N.t 0) (N.t 5) (N.t 8) (N.t 14) [c] (N.t 24) (.str (mS [c]) (N.t 18)) 4 ZN p' (ln+d))::[]))
 (sE (sg1 (by kernel_rfl)) Z) (λN=>⟨okU (jg hs hp hx (by first | assumption | lia | (simp only[List.length_cons,List.length_nil];lia) | decide)),okU (kR h3),okU (gN h34),okU (tB ZI hp2 hx hn),okU (bi),okU (by apply hI),trivial⟩)
theorem gtE(hs:slS (mS x) p (p+1)=[])(hp:(.ofNat (p+1):Int)-1=.ofNat p)(hx:(mS x).length<2^20):Ok (W2 w Z V) 7 (gtS (Pw w Z V) G L DL S DS R RC KP KT PL PB CT t J x u p y e ln y1 y2 y3 y4 y5 y6 y7 y8 y9 Z3 Z4 v1 v2 v3 el es ep [] (p+1) ln):=
 okC [] 127 (λN=>[(N.t 4),y2,el,(N.t 10),(N.t 11)]) (λN=>[])
 (i4 (.f [12,11,0,1,2,3,4,5,6,7,8] (λN=>xj (Pw w Z V) G (N.r 12) (N.r 11) (N.t 7) L DL S DS R RC KP KT PL PB CT t J x u p y e ln y1 y2 y3 y4 y5 y6 y7 y8 y9 Z3 Z4 v1 v2 v3 el es)::.i [178,174]::[]))
 (sE (sg1 (by kernel_rfl)) Z) (λN=>⟨okU (Bz hs hp hx),trivial⟩)
end
noncomputable def bo(w:World)(Z V:Bool)(x:List Nat)(p:Nat)(d:Nat)(ZN:List Nat)(p':Nat):Prop:=
 ∀(G:GP) (L DL S DS R RC KP KT PL PB CT:Addr) (t:Tok) (J:Nat→Value) (u y:Tok) (e ln:Nat) (y1 y2 y3 y4 y5 y6 y7 y8 y9 Z3 Z4:Tok) (v1 v2 v3:Value) (el es ep:Nat),
  Ok (W2 w Z V) 7 (gtS (Pw w Z V) G L DL S DS R RC KP KT PL PB CT t J x u p y e ln y1 y2 y3 y4 y5 y6 y7 y8 y9 Z3 Z4 v1 v2 v3 el es ep ZN p' (ln+d))
noncomputable def nlS(y:List Nat):Nat:=y.countP (· ==10)
theorem pD{ws:List Nat}(h:∀c∈ws,c∈bs):nlS (aB ws).flatten=0:=by
 unfold nlS
 rw[List.countP_eq_zero]
 intro c hc
 obtain⟨l,hl,hc⟩:=List.mem_flatten.mp hc
 obtain⟨d,hd,rfl⟩:=List.mem_map.mp hl
 have a:=cY d (h d hd)
 have h2:d%2=0∨d%2=1:=by lia
 have hd10:d≠10:=λe=>by
  have:=a.1
  rw[e]at this
  exact absurd this (by decide)
 rcases h2 with h2 | h2
 ·rw[de h2,List.mem_singleton]at hc
  subst hc
  simpa using hd10
 ·rw[ez h2]at hc
  rcases List.mem_cons.mp hc with rfl | hc
  ·decide
  ·rw[List.mem_singleton]at hc
   subst hc
   simpa using hd10
theorem tO{w:World}{Z V:Bool}{x Z5 ws y:List Nat}{p:Nat}(hx:(mS x).length<2^20)(Zl:∀c∈ws,c∈bs)(h0:0<ws.length)(hl:ws.length<2^17)(he:Enc ws y)(h:x.drop p=y++Z5):
  bo w Z V x p (nlS y) ws (p+y.length):=by
 have hnl:=pD Zl
 cases he with
 | quoted=>
  intro G L DL S DS R RC KP KT PL PB CT t J u y_ e ln y1 y2 y3 y4 y5 y6 y7 y8 y9 Z3 Z4 v1 v2 v3 el es ep
  have h':x.drop p=[34]++((aB ws).flatten++([34]++Z5)):=by rw[h];simp
  have hd:=bf h'
  have hI:=jk (w:=w) (Z:=Z) (V:=V) (Z5:=Z5) hx ws (p+1) [] Zl hd (by simp only[List.length_nil];lia)
  have e1:nlS ([34]++(aB ws).flatten++[34])=0:=by
   unfold nlS at hnl ⊢
   rw[List.countP_append,List.countP_append,hnl];rfl
  have e2:p+([34]++(aB ws).flatten++[34]).length=p+1+(aB ws).flatten.length+1:=by
   rw[List.length_append,List.length_append];simp only[List.length_cons,List.length_nil];lia
  rw[e1,e2]
  exact gtQ (aw h' rfl) (hpL p) hx (by decide+kernel) hI
 | blank q hq=>
  intro G L DL S DS R RC KP KT PL PB CT t J u y_ e ln y1 y2 y3 y4 y5 y6 y7 y8 y9 Z3 Z4 v1 v2 v3 el es ep
  have e1:nlS ((aB ws).flatten++[q])=(if q=10 then 1 else 0):=by
   unfold nlS at hnl ⊢
   rw[List.countP_append,hnl]
   by_cases hz:q=10
   ·subst hz;rfl
   ·rw[if_neg hz,List.countP_cons_of_neg (by simpa using hz)];rfl
  rw[e1]
  cases ws with
  | nil=>exact absurd h0 (Nat.lt_irrefl _)
  | cons c ws=>
   obtain⟨a1,a2,a3,a4,a5⟩:=cY c (Zl c (.head _))
   have hal':∀c∈ws,c∈bs:=λc hc=>Zl c (.tail _ hc)
   rw[List.length_cons]at hl
   rw[bz]at h
   have h2:c%2=0∨c%2=1:=by lia
   rcases h2 with h2 | h2
   ·rw[de h2]at h
    have h':x.drop p=[c]++((aB ws).flatten++([q]++Z5)):=by rw[h];simp
    have hI:=fU (w:=w) (Z:=Z) (V:=V) (Z5:=Z5) hx q hq ws (p+1) [c] hal' (bf h') (by simp only[List.length_cons,List.length_nil];lia)
    have e2:p+((aB (c::ws)).flatten++[q]).length=p+1+(aB ws).flatten.length+1:=by
     rw[bz,de h2,List.length_append,List.length_append];simp only[List.length_cons,List.length_nil];lia
    rw[e2]
    exact BV (aw h' rfl) (hpL p) hx a1 a4 a2 a3 a5 hI
   ·rw[ez h2]at h
    have h':x.drop p=[92,c]++((aB ws).flatten++([q]++Z5)):=by rw[h];simp
    have h1:x.drop p=[92]++([c]++((aB ws).flatten++([q]++Z5))):=h'
    have hI:=fU (w:=w) (Z:=Z) (V:=V) (Z5:=Z5) hx q hq ws (p+1+1) [c] hal' (bf h') (by simp only[List.length_cons,List.length_nil];lia)
    have e2:p+((aB (c::ws)).flatten++[q]).length=p+1+1+(aB ws).flatten.length+1:=by
     rw[bz,ez h2,List.length_append,List.length_append];simp only[List.length_cons,List.length_nil];lia
    rw[e2]
    exact BU (aw h1 rfl) (hpL p) hx (aw (bf h1) rfl) (hpL (p+1)) a1 (by decide) ir hI
theorem ia{w:World}{Z V:Bool}{x:List Nat}{p:Nat}(hx:(mS x).length<2^20)(h:x.length≤p):bo w Z V x p 0 [] (p+1):=by
 intro G L DL S DS R RC KP KT PL PB CT t J u y_ e ln y1 y2 y3 y4 y5 y6 y7 y8 y9 Z3 Z4 v1 v2 v3 el es ep
 exact gtE (aw (List.drop_eq_nil_of_le h) rfl) (hpL p) hx
end
section
open PySem PySem.W PySem.W.X PySem.Builtin
noncomputable def ed(G:GP)(c:Nat)(t:Tok)(v:Bool):ac:=sd (.call (.ref 81) ⟨[.str (mS [c]) t],[]⟩) (aa []) [] G G 0 0 0 λ_ _ _=>rV (.bool v)
noncomputable def cJ(G:GP)(c:Nat)(t:Tok)(m:List Nat):ac:=sd (.call (.ref 127) ⟨[.str (mS [c]) t],[]⟩) (aa []) [] G G 0 1 0 λ_ U _=>rV (.str (mS m) (U 0))
end
section
open PySem PySem.W PySem.W.X PySem.Builtin
section
variable{w:World}{Z V:Bool}{G:GP}{c:Nat}{t:Tok}{v:Bool}{m:List Nat}{tt:Tok}
theorem xU(h:cK (Pw w Z V) (.ofNat c)=v):Ok (W2 w Z V) 2 (ed G c t v):=
 okC [] 30 (λN=>[]) (λN=>[])
 (.i (ub 11 0x474703a4000302a4a45051)::.f [] (λN=>oJ G (@Nat.cast.{0} Int instNatCastInt c) (N.t 1) v)::[])
 (λ_ _ _=>by kernel_rfl) (λN=>⟨okU (tA h),trivial⟩)
theorem gK(h:b3W (Pw w Z V) (.ofNat c)=.str (mS m) tt):Ok (W2 w Z V) 2 (cJ G c t m):=
 okC [] 49 (λN=>[tt]) (λN=>[])
 (.i (ub 13 0xa40003525252520302a4a47e7f)::.n::.f [] (λN=>gX G (@Nat.cast.{0} Int instNatCastInt c) (N.t 1) (.str (mS m) tt))::.i (ub 4 0xa4a4a4a4)::[])
 (λ_ _ _=>by kernel_rfl) (λN=>⟨okU (jj h),trivial⟩)
theorem mn(h:b3W (Pw w Z V) (.ofNat 70)=.none):Ok (W2 w Z V) 2 (cJ G 70 t [102]):=
 okC [] 57 (λN=>[(N.t 3)]) (λN=>[])
 (.i (ub 13 0xa40003525252520302a4a47e7f)::.n::.f [] (λN=>gX G 70 (N.t 1) .none)::.i (ub 4 0xa4a4a4a4)::[])
 (λ_ _ _=>by kernel_rfl) (λN=>⟨okU (jj h),trivial⟩)
theorem kN(h:b3W (Pw w Z V) (.ofNat 102)=.none):Ok (W2 w Z V) 2 (cJ G 102 t [102]):=
 okC [] 57 (λN=>[(N.t 3)]) (λN=>[])
 (.i (ub 13 0xa40003525252520302a4a47e7f)::.n::.f [] (λN=>gX G 102 (N.t 1) .none)::.i (ub 4 0xa4a4a4a4)::[])
 (λ_ _ _=>by kernel_rfl) (λN=>⟨okU (jj h),trivial⟩)
theorem mm(h:b3W (Pw w Z V) (.ofNat 73)=.none):Ok (W2 w Z V) 2 (cJ G 73 t [105]):=
 okC [] 57 (λN=>[(N.t 3)]) (λN=>[])
 (.i (ub 13 0xa40003525252520302a4a47e7f)::.n::.f [] (λN=>gX G 73 (N.t 1) .none)::.i (ub 4 0xa4a4a4a4)::[])
 (λ_ _ _=>by kernel_rfl) (λN=>⟨okU (jj h),trivial⟩)
end
theorem uV:∀(P:Params),∀c∈unL,cK P (.ofNat c)=true:=by
 intro P c hc
 have:(unL.all λc=>cK P (.ofNat c))=true:=by kernel_rfl
 exact List.all_eq_true.mp this c hc
theorem rh:∀(P:Params),∀e∈shopL,cK P (.ofNat e.2)=false:=by
 intro P e he
 have:(shopL.all λe=> !cK P (.ofNat e.2))=true:=by kernel_rfl
 have:=List.all_eq_true.mp this e he
 simpa using this
noncomputable def tF(m:List Nat):Value→Bool
 | .str s _=>s.cps.toList==m
 | _=>false
theorem bW{m:List Nat}{v:Value}(h:tF m v=true):∃t,v=.str (mS m) t:=by
 cases v with
 | str s t=>
  refine⟨t,?_⟩
  have:s.cps.toList=m:=beq_iff_eq.mp h
  subst this
  rfl
 | _=>cases h
theorem tf{w:World}{Z V:Bool}{G:GP}{t:Tok}:∀e∈shopL,Ok (W2 w Z V) 2 (cJ G e.2 t e.1):=by
 intro e he
 simp only[shopL,List.mem_cons,List.not_mem_nil,or_false]at he
 rcases he with rfl | rfl | rfl | rfl | rfl | rfl | rfl | rfl
 ·obtain⟨tt,h⟩:=bW (m:=[102,102,105]) (v:=b3W (Pw w Z V) (.ofNat 64259)) (by kernel_rfl)
  exact gK h
 ·obtain⟨tt,h⟩:=bW (m:=[102,102]) (v:=b3W (Pw w Z V) (.ofNat 64256)) (by kernel_rfl)
  exact gK h
 ·obtain⟨tt,h⟩:=bW (m:=[102,105]) (v:=b3W (Pw w Z V) (.ofNat 64257)) (by kernel_rfl)
  exact gK h
 ·exact mn (by kernel_rfl)
 ·obtain⟨tt,h⟩:=bW (m:=[102]) (v:=b3W (Pw w Z V) (.ofNat 119813)) (by kernel_rfl)
  exact gK h
 ·exact kN (by kernel_rfl)
 ·exact mm (by kernel_rfl)
 ·obtain⟨tt,h⟩:=bW (m:=[105]) (v:=b3W (Pw w Z V) (.ofNat 8464)) (by kernel_rfl)
  exact gK h
end
section
open PySem PySem.W PySem.W.X PySem.Builtin
noncomputable def hJ:Stmt:=b4 (bdS (stA 16)) 7
noncomputable def tcE:PySem.Expr:=qY (exV (b4 (bdW hJ) 0)) 0
noncomputable def qA(D fa:Addr):Env:=g7 (stA 16) tcE 162 fa D []
noncomputable def tcF(P:Params)(T:String)(n:Nat)(ys:List (List Nat)):FT:=λ_ U O=>⟨.ok .next,[(0,dZ T .none n),(1,lO (qSL ys (O 0)) (U 0)),(2,diO [en P aD (U 1) (O 1)] (U 2))],[]⟩
noncomputable def tcS(P:Params)(G:GP)(T:String)(it Z9 D fa:Addr)(x:List Nat)(u:Tok)(i:Nat)(vs:List Value)(e0:Nat)(kv:List DictEntry)(e1:Nat)(n:Nat)(ys:List (List Nat)):ac:=
 sd (.compLoop tcE 0 (.ref it) (.ref Z9) (qA D fa)) (aa [it,Z9,D]) (iF P T x u i vs e0 kv e1) G G 0 3 2 (tcF P T n ys)
noncomputable def tcA(P:Params)(G:GP)(T:String)(it Z9 D fa:Addr)(x:List Nat)(u:Tok)(i:Nat)(vs:List Value)(e0:Nat)(kv:List DictEntry)(e1:Nat)(n:Nat)(ys:List (List Nat)):ac:=
 sd (.compStart tcE 0 (.ref it) (.ref Z9) (qA D fa)) (aa [it,Z9,D]) (iF P T x u i vs e0 kv e1) G G 0 3 2 (tcF P T n ys)
theorem dw{w:World}{Z V:Bool}{G:GP}{c:Nat}{t:Tok}{v:Bool}(h:cK (Pw w Z V) (.ofNat c)=v):Ok (W2 w Z V) 2 (ed G c t v):=xU h
theorem lr{w:World}{Z V:Bool}{G:GP}{c:Nat}{m:List Nat}{t:Tok}(h:(m,c)∈shopL):Ok (W2 w Z V) 2 (cJ G c t m):=tf (m,c) h
end
section
open PySem PySem.W PySem.W.X PySem.Builtin
noncomputable abbrev iX(G:GP)(c:Nat)(m:List Nat)(zz:List It):List It:=
 .i (ub 5 0x51a603a6a6)::.f [] (λN=>ed G c (N.t 0) false)::.i [3,166,127]::.f [] (λN=>cJ G c (N.t 0) m)::zz
section
variable{w:World}{Z V:Bool}{G:GP}{it Z9 D fa:Addr}{x:List Nat}{u:Tok}{ys:List (List Nat)}{v v1:Value}{e0:Nat}{t1:Tok}{e1 c:Nat}{m:List Nat}{i:Nat}{vs:List Value}
theorem rD(hx:x[x.length]? =none):Ok (W2 w Z V) 3 (tcS (Pw w Z V) G "str_ascii_iterator" it Z9 D fa x u x.length (qSL ys v) e0 [en (Pw w Z V) aD t1 v1] e1 x.length ys):=
 okC [] 8 (λN=>[e0,t1,e1]) (λN=>[v,v1])
 (.i [164]::.f [0] (λN=>k4 G it x u (x).length)::.i [168]::[])
 (λ_ _ _=>by kernel_rfl) (λN=>⟨okU (nX hx),trivial⟩)
theorem vt(nx:NX λC U O=>Ok (W2 w Z V) 3 (tcS (Pw w Z V) G "str_ascii_iterator" it Z9 D fa x u 0 [] e0 [] e1 x.length ys)):Ok (W2 w Z V) 3 (tcA (Pw w Z V) G "str_ascii_iterator" it Z9 D fa x u 0 [] e0 [] e1 x.length ys):=
 aj nx (λN=>List.map N.r []) (λN=>[]) (λN=>[]) 15
 (.i (pqB V)::[])
 (sF (sg2 (by kernel_rfl)) Z V) (λN=>trivial)
theorem vy(hc:x[0]? =some c)(hi:cK (Pw w Z V) (.ofNat c)=false)(hm:(m,c)∈shopL)(nx:NX λC U O=>Ok (W2 w Z V) 3 (tcS (Pw w Z V) G "str_ascii_iterator" it Z9 D fa x u 1 [.str (mS m) (U 0)] (U 1) [en (Pw w Z V) aD (U 2) (O 0)] (U 3) x.length ys)):Ok (W2 w Z V) 3 (tcS (Pw w Z V) G "str_ascii_iterator" it Z9 D fa x u 0 [] e0 [] e1 x.length ys):=
 aj nx (λN=>List.map N.r []) (λN=>[(N.t 2),(N.t 3),(N.t 1),(e1+1)]) (λN=>[(.str (mS [c]) (N.t 0))]) 32
 (.i [164]::.f [0] (λN=>cW G it x u 0 c)::(iX G c m (.f [1] (λN=>am G Z9 [] e0 (.str (mS m) (N.t 2)))::[])))
 (λ_ _ _=>by kernel_rfl) (λN=>⟨okU (dq hc),okU (dw hi),okU (lr hm),okU (ao),trivial⟩)
theorem vx(hc:x[i]? =some c)(hv:vs.length<2^20)(hi:cK (Pw w Z V) (.ofNat c)=false)(hm:(m,c)∈shopL)(nx:NX λC U O=>Ok (W2 w Z V) 3 (tcS (Pw w Z V) G "str_ascii_iterator" it Z9 D fa x u (i+1) (vs++[.str (mS m) (U 0)]) (U 1) [en (Pw w Z V) aD (U 2) (O 0)] (U 3) x.length ys)):Ok (W2 w Z V) 3 (tcS (Pw w Z V) G "str_ascii_iterator" it Z9 D fa x u i vs e0 [en (Pw w Z V) aD t1 v1] e1 x.length ys):=
 aj nx (λN=>List.map N.r []) (λN=>[(N.t 2),(N.t 3),t1,e1]) (λN=>[(.str (mS [c]) (N.t 0))]) 32
 (.i [164]::.f [0] (λN=>cW G it x u i c)::(iX G c m (.f [1] (λN=>am G Z9 vs e0 (.str (mS m) (N.t 2)))::[])))
 (λ_ _ _=>by kernel_rfl) (λN=>⟨okU (dq hc),okU (dw hi),okU (lr hm),okU (ao hv),trivial⟩)
theorem vw(hc:x[0]? =some c)(hi:cK (Pw w Z V) (.ofNat c)=true)(nx:NX λC U O=>Ok (W2 w Z V) 3 (tcS (Pw w Z V) G "str_ascii_iterator" it Z9 D fa x u 1 [] (U 1) [en (Pw w Z V) aD (U 2) (O 0)] (U 3) x.length ys)):Ok (W2 w Z V) 3 (tcS (Pw w Z V) G "str_ascii_iterator" it Z9 D fa x u 0 [] e0 [] e1 x.length ys):=
 aj nx (λN=>List.map N.r []) (λN=>[0,e0,(N.t 1),(e1+1)]) (λN=>[(.str (mS [c]) (N.t 0))]) 23
 (.i [164]::.f [0] (λN=>cW G it x u 0 c)::.i (ub 5 0x51a603a6a6)::.f [] (λN=>ed G c (N.t 0) true)::[])
 (λ_ _ _=>by kernel_rfl) (λN=>⟨okU (dq hc),okU (dw hi),trivial⟩)
theorem vu(hc:x[i]? =some c)(hi:cK (Pw w Z V) (.ofNat c)=true)(nx:NX λC U O=>Ok (W2 w Z V) 3 (tcS (Pw w Z V) G "str_ascii_iterator" it Z9 D fa x u (i+1) vs (U 1) [en (Pw w Z V) aD (U 2) (O 0)] (U 3) x.length ys)):Ok (W2 w Z V) 3 (tcS (Pw w Z V) G "str_ascii_iterator" it Z9 D fa x u i vs e0 [en (Pw w Z V) aD t1 v1] e1 x.length ys):=
 aj nx (λN=>List.map N.r []) (λN=>[0,e0,t1,e1]) (λN=>[(.str (mS [c]) (N.t 0))]) 23
 (.i [164]::.f [0] (λN=>cW G it x u i c)::.i (ub 5 0x51a603a6a6)::.f [] (λN=>ed G c (N.t 0) true)::[])
 (λ_ _ _=>by kernel_rfl) (λN=>⟨okU (dq hc),okU (dw hi),trivial⟩)
theorem rC(hx:x[x.length]? =none):Ok (W2 w Z V) 3 (tcS (Pw w Z V) G "str_iterator" it Z9 D fa x u x.length (qSL ys v) e0 [en (Pw w Z V) aD t1 v1] e1 x.length ys):=
 okC [] 8 (λN=>[e0,t1,e1]) (λN=>[v,v1])
 (.i [164]::.f [0] (λN=>kZ G it x u (x).length)::.i [168]::[])
 (λ_ _ _=>by kernel_rfl) (λN=>⟨okU (nW hx),trivial⟩)
theorem vr(nx:NX λC U O=>Ok (W2 w Z V) 3 (tcS (Pw w Z V) G "str_iterator" it Z9 D fa x u 0 [] e0 [] e1 x.length ys)):Ok (W2 w Z V) 3 (tcA (Pw w Z V) G "str_iterator" it Z9 D fa x u 0 [] e0 [] e1 x.length ys):=
 aj nx (λN=>List.map N.r []) (λN=>[]) (λN=>[]) 15
 (.i (pqB V)::[])
 (sF (sg2 (by kernel_rfl)) Z V) (λN=>trivial)
theorem vo(hc:x[0]? =some c)(hi:cK (Pw w Z V) (.ofNat c)=false)(hm:(m,c)∈shopL)(nx:NX λC U O=>Ok (W2 w Z V) 3 (tcS (Pw w Z V) G "str_iterator" it Z9 D fa x u 1 [.str (mS m) (U 0)] (U 1) [en (Pw w Z V) aD (U 2) (O 0)] (U 3) x.length ys)):Ok (W2 w Z V) 3 (tcS (Pw w Z V) G "str_iterator" it Z9 D fa x u 0 [] e0 [] e1 x.length ys):=
 aj nx (λN=>List.map N.r []) (λN=>[(N.t 2),(N.t 3),(N.t 1),(e1+1)]) (λN=>[(.str (mS [c]) (N.t 0))]) 32
 (.i [164]::.f [0] (λN=>cV G it x u 0 c)::(iX G c m (.f [1] (λN=>am G Z9 [] e0 (.str (mS m) (N.t 2)))::[])))
 (λ_ _ _=>by kernel_rfl) (λN=>⟨okU (dm hc),okU (dw hi),okU (lr hm),okU (ao),trivial⟩)
theorem vn(hc:x[i]? =some c)(hv:vs.length<2^20)(hi:cK (Pw w Z V) (.ofNat c)=false)(hm:(m,c)∈shopL)(nx:NX λC U O=>Ok (W2 w Z V) 3 (tcS (Pw w Z V) G "str_iterator" it Z9 D fa x u (i+1) (vs++[.str (mS m) (U 0)]) (U 1) [en (Pw w Z V) aD (U 2) (O 0)] (U 3) x.length ys)):Ok (W2 w Z V) 3 (tcS (Pw w Z V) G "str_iterator" it Z9 D fa x u i vs e0 [en (Pw w Z V) aD t1 v1] e1 x.length ys):=
 aj nx (λN=>List.map N.r []) (λN=>[(N.t 2),(N.t 3),t1,e1]) (λN=>[(.str (mS [c]) (N.t 0))]) 32
 (.i [164]::.f [0] (λN=>cV G it x u i c)::(iX G c m (.f [1] (λN=>am G Z9 vs e0 (.str (mS m) (N.t 2)))::[])))
 (λ_ _ _=>by kernel_rfl) (λN=>⟨okU (dm hc),okU (dw hi),okU (lr hm),okU (ao hv),trivial⟩)
theorem vl(hc:x[0]? =some c)(hi:cK (Pw w Z V) (.ofNat c)=true)(nx:NX λC U O=>Ok (W2 w Z V) 3 (tcS (Pw w Z V) G "str_iterator" it Z9 D fa x u 1 [] (U 1) [en (Pw w Z V) aD (U 2) (O 0)] (U 3) x.length ys)):Ok (W2 w Z V) 3 (tcS (Pw w Z V) G "str_iterator" it Z9 D fa x u 0 [] e0 [] e1 x.length ys):=
 aj nx (λN=>List.map N.r []) (λN=>[0,e0,(N.t 1),(e1+1)]) (λN=>[(.str (mS [c]) (N.t 0))]) 23
 (.i [164]::.f [0] (λN=>cV G it x u 0 c)::.i (ub 5 0x51a603a6a6)::.f [] (λN=>ed G c (N.t 0) true)::[])
 (λ_ _ _=>by kernel_rfl) (λN=>⟨okU (dm hc),okU (dw hi),trivial⟩)
theorem vj(hc:x[i]? =some c)(hi:cK (Pw w Z V) (.ofNat c)=true)(nx:NX λC U O=>Ok (W2 w Z V) 3 (tcS (Pw w Z V) G "str_iterator" it Z9 D fa x u (i+1) vs (U 1) [en (Pw w Z V) aD (U 2) (O 0)] (U 3) x.length ys)):Ok (W2 w Z V) 3 (tcS (Pw w Z V) G "str_iterator" it Z9 D fa x u i vs e0 [en (Pw w Z V) aD t1 v1] e1 x.length ys):=
 aj nx (λN=>List.map N.r []) (λN=>[0,e0,t1,e1]) (λN=>[(.str (mS [c]) (N.t 0))]) 23
 (.i [164]::.f [0] (λN=>cV G it x u i c)::.i (ub 5 0x51a603a6a6)::.f [] (λN=>ed G c (N.t 0) true)::[])
 (λ_ _ _=>by kernel_rfl) (λN=>⟨okU (dm hc),okU (dw hi),trivial⟩)
end
noncomputable def tcY(c:Nat):List (List Nat):=match unL.contains c with
 | true=>[]
 | false=>[b5 c]
noncomputable def a8(ws:List Nat):List (List Nat):=ws.flatMap tcY
variable{w:World}{Z V:Bool}{G:GP}{it Z9 fa:Addr}{x:List Nat}{u:Tok}{e0 e1:Nat}
theorem fH{c:Nat}(h:c∈bs):(∀P,cK P (.ofNat c)=true)∧tcY c=[]∨(∀P,cK P (.ofNat c)=false)∧tcY c=[b5 c]∧(b5 c,c)∈shopL:=by
 rcases List.mem_append.mp h with h | h
 ·obtain⟨e,he,rfl⟩:=List.mem_map.mp h
  refine .inr ⟨λP=>rh P e he,?_⟩
  have:∀e∈shopL,tcY e.2=[b5 e.2]∧(b5 e.2,e.2)∈shopL:=by decide+kernel
  exact this e he
 ·refine .inl ⟨λP=>uV P c h,?_⟩
  have:∀c∈unL,tcY c=[]:=by decide+kernel
  exact this c h
theorem hO:∀(ws:List Nat),(∀c∈ws,c∈bs)→(a8 ws).flatten=ws.flatMap b5
 | [],_=>rfl
 | c::ws,h=>by
  have ih:=hO ws λc hc=>h c (.tail _ hc)
  show(tcY c++a8 ws).flatten=b5 c++ws.flatMap b5
  rw[List.flatten_append,ih]
  congr 1
  rcases List.mem_append.mp (h c (.head _))with g | g
  ·obtain⟨e,he,rfl⟩:=List.mem_map.mp g
   have:∀e∈shopL,(tcY e.2).flatten=b5 e.2:=by decide+kernel
   exact this e he
  ·have:∀c∈unL,(tcY c).flatten=b5 c:=by decide+kernel
   exact this c g
theorem fJ{w:World}{Z V:Bool}{G:GP}{it Z9 D fa:Addr}{x:List Nat}{u:Tok}(hx:x.length<2^20)(ha:∀c∈x,c∈bs):∀(l:List Nat) (i:Nat) (ys:List (List Nat)) (v:Value) (e0:Nat) (t1:Tok) (v1:Value) (e1:Nat),x.drop i=l→ys.length≤i→i≤x.length→
  Ok (W2 w Z V) 3 (tcS (Pw w Z V) G "str_ascii_iterator" it Z9 D fa x u i (qSL ys v) e0 [en (Pw w Z V) aD t1 v1] e1 x.length (ys++a8 l))
 | [],i,ys,v,e0,t1,v1,e1,hl,hy,hi=>by
  have:i=x.length:=by have:=congrArg List.length hl;rw[List.length_drop]at this;simp only[List.length_nil]at this;lia
  subst this
  have:=rD (w:=w) (Z:=Z) (V:=V) (G:=G) (it:=it) (Z9:=Z9) (D:=D) (fa:=fa) (u:=u) (x:=x) (ys:=ys) (v:=v) (v1:=v1) (e0:=e0) (t1:=t1) (e1:=e1) (by simp)
  show Ok _ _ (tcS _ _ _ _ _ _ _ _ _ _ _ _ _ _ _ (ys++[]))
  rw[List.append_nil]
  exact this
 | c::l,i,ys,v,e0,t1,v1,e1,hl,hy,hi=>by
  have hc:x[i]? =some c:=by
   have:=congrArg (λy=>y[0]?) hl
   simpa using this
  have Zy:i<x.length:=(List.getElem?_eq_some_iff.mp hc).1
  have hd:x.drop (i+1)=l:=by rw[←List.drop_drop,hl];rfl
  have hv:(qSL ys v).length<2^20:=by rw[bG];lia
  have e:ys++a8 (c::l)=(ys++tcY c)++a8 l:=by show ys++(tcY c++a8 l)=_;simp
  rw[e]
  rcases fH (ha c (List.mem_of_getElem? hc))with⟨h1,h2⟩ | ⟨h1,h2,h3⟩
  ·rw[h2,List.append_nil]
   exact vu hc (h1 _) λC U O=>fJ (w:=w) (Z:=Z) (V:=V) (G:=G) (it:=it) (Z9:=Z9) (D:=D) (fa:=fa) (u:=u) hx ha l (i+1) ys v (U 1) (U 2) (O 0) (U 3) hd (by lia) (by lia)
  ·rw[h2]
   refine vx hc hv (h1 _) h3 λC U O=>?_
   obtain⟨v',Zs⟩:=aR ys v (b5 c) (U 0)
   have:=fJ (w:=w) (Z:=Z) (V:=V) (G:=G) (it:=it) (Z9:=Z9) (D:=D) (fa:=fa) (u:=u) hx ha l (i+1) (ys++[b5 c]) v' (U 1) (U 2) (O 0) (U 3) hd (by rw[List.length_append];simp only[List.length_cons,List.length_nil];lia) (by lia)
   rw[Zs]at this
   exact this
theorem rF{D:Addr}(hx:x.length<2^20)(h0:0<x.length)(ha:∀c∈x,c∈bs):
  Ok (W2 w Z V) 3 (tcA (Pw w Z V) G "str_ascii_iterator" it Z9 D fa x u 0 [] e0 [] e1 x.length (a8 x)):=by
 refine vt λ_ _ _=>?_
 cases x with
 | nil=>exact absurd h0 (Nat.lt_irrefl _)
 | cons c l=>
  have e:a8 (c::l)=tcY c++a8 l:=rfl
  rw[e]
  rcases fH (ha c (.head _))with⟨h1,h2⟩ | ⟨h1,h2,h3⟩
  ·rw[h2]
   refine vw (c:=c) rfl (h1 _) λC U O=>?_
   have:=fJ (w:=w) (Z:=Z) (V:=V) (G:=G) (it:=it) (Z9:=Z9) (D:=D) (fa:=fa) (u:=u) hx ha l 1 [] .none (U 1) (U 2) (O 0) (U 3) rfl (by first | exact Nat.le_refl _ | decide) (by lia)
   exact this
  ·rw[h2]
   refine vy (c:=c) rfl (h1 _) h3 λC U O=>?_
   obtain⟨v',Zs⟩:=aR [] .none (b5 c) (U 0)
   have:=fJ (w:=w) (Z:=Z) (V:=V) (G:=G) (it:=it) (Z9:=Z9) (D:=D) (fa:=fa) (u:=u) hx ha l 1 [b5 c] v' (U 1) (U 2) (O 0) (U 3) rfl (by first | exact Nat.le_refl _ | decide) (by lia)
   rw[List.nil_append]at Zs
   rw[Zs]at this
   exact this
theorem fI{w:World}{Z V:Bool}{G:GP}{it Z9 D fa:Addr}{x:List Nat}{u:Tok}(hx:x.length<2^20)(ha:∀c∈x,c∈bs):∀(l:List Nat) (i:Nat) (ys:List (List Nat)) (v:Value) (e0:Nat) (t1:Tok) (v1:Value) (e1:Nat),x.drop i=l→ys.length≤i→i≤x.length→
  Ok (W2 w Z V) 3 (tcS (Pw w Z V) G "str_iterator" it Z9 D fa x u i (qSL ys v) e0 [en (Pw w Z V) aD t1 v1] e1 x.length (ys++a8 l))
 | [],i,ys,v,e0,t1,v1,e1,hl,hy,hi=>by
  have:i=x.length:=by have:=congrArg List.length hl;rw[List.length_drop]at this;simp only[List.length_nil]at this;lia
  subst this
  have:=rC (w:=w) (Z:=Z) (V:=V) (G:=G) (it:=it) (Z9:=Z9) (D:=D) (fa:=fa) (u:=u) (x:=x) (ys:=ys) (v:=v) (v1:=v1) (e0:=e0) (t1:=t1) (e1:=e1) (by simp)
  show Ok _ _ (tcS _ _ _ _ _ _ _ _ _ _ _ _ _ _ _ (ys++[]))
  rw[List.append_nil]
  exact this
 | c::l,i,ys,v,e0,t1,v1,e1,hl,hy,hi=>by
  have hc:x[i]? =some c:=by
   have:=congrArg (λy=>y[0]?) hl
   simpa using this
  have Zy:i<x.length:=(List.getElem?_eq_some_iff.mp hc).1
  have hd:x.drop (i+1)=l:=by rw[←List.drop_drop,hl];rfl
  have hv:(qSL ys v).length<2^20:=by rw[bG];lia
  have e:ys++a8 (c::l)=(ys++tcY c)++a8 l:=by show ys++(tcY c++a8 l)=_;simp
  rw[e]
  rcases fH (ha c (List.mem_of_getElem? hc))with⟨h1,h2⟩ | ⟨h1,h2,h3⟩
  ·rw[h2,List.append_nil]
   exact vj hc (h1 _) λC U O=>fI (w:=w) (Z:=Z) (V:=V) (G:=G) (it:=it) (Z9:=Z9) (D:=D) (fa:=fa) (u:=u) hx ha l (i+1) ys v (U 1) (U 2) (O 0) (U 3) hd (by lia) (by lia)
  ·rw[h2]
   refine vn hc hv (h1 _) h3 λC U O=>?_
   obtain⟨v',Zs⟩:=aR ys v (b5 c) (U 0)
   have:=fI (w:=w) (Z:=Z) (V:=V) (G:=G) (it:=it) (Z9:=Z9) (D:=D) (fa:=fa) (u:=u) hx ha l (i+1) (ys++[b5 c]) v' (U 1) (U 2) (O 0) (U 3) hd (by rw[List.length_append];simp only[List.length_cons,List.length_nil];lia) (by lia)
   rw[Zs]at this
   exact this
theorem rE{D:Addr}(hx:x.length<2^20)(h0:0<x.length)(ha:∀c∈x,c∈bs):
  Ok (W2 w Z V) 3 (tcA (Pw w Z V) G "str_iterator" it Z9 D fa x u 0 [] e0 [] e1 x.length (a8 x)):=by
 refine vr λ_ _ _=>?_
 cases x with
 | nil=>exact absurd h0 (Nat.lt_irrefl _)
 | cons c l=>
  have e:a8 (c::l)=tcY c++a8 l:=rfl
  rw[e]
  rcases fH (ha c (.head _))with⟨h1,h2⟩ | ⟨h1,h2,h3⟩
  ·rw[h2]
   refine vl (c:=c) rfl (h1 _) λC U O=>?_
   have:=fI (w:=w) (Z:=Z) (V:=V) (G:=G) (it:=it) (Z9:=Z9) (D:=D) (fa:=fa) (u:=u) hx ha l 1 [] .none (U 1) (U 2) (O 0) (U 3) rfl (by first | exact Nat.le_refl _ | decide) (by lia)
   exact this
  ·rw[h2]
   refine vo (c:=c) rfl (h1 _) h3 λC U O=>?_
   obtain⟨v',Zs⟩:=aR [] .none (b5 c) (U 0)
   have:=fI (w:=w) (Z:=Z) (V:=V) (G:=G) (it:=it) (Z9:=Z9) (D:=D) (fa:=fa) (u:=u) hx ha l 1 [b5 c] v' (U 1) (U 2) (O 0) (U 3) rfl (by first | exact Nat.le_refl _ | decide) (by lia)
   rw[List.nil_append]at Zs
   rw[Zs]at this
   exact this
end
section
open PySem PySem.W PySem.W.X PySem.Builtin
open AutoSeq1 (wpAny_loadPart')
noncomputable def bB(G:GP)(c n:Nat)(t u:Tok):ac:=cB "str.__mul__" [.str (mS [c]) t,.int (.ofNat n) u] [] G 0 1 λ_ U _=>rV (.str (mS (List.replicate n c)) (U 0))
variable{w:World}{G:GP}{n m r0 s0 r1 s1 r2 s2:Nat}{t u t0 u0 v0 w0 t1 u1 v1 w1 t2 u2 v2 w2:Tok}{x:List Nat}{Z V:Bool}{a b d0 d1 g0 g1 d2 g2:Addr}
theorem aC{w:World}{G:GP}{c:Nat}{t u:Tok}(hn:n<2^10:=by first | assumption | lia | decide):Ok w 1 (bB G c n t u):=by
 have:=xA (w:=w) (G:=G) (x:=[c]) (n:=n) (t:=t) (u:=u) (by show 1<2^10;decide) hn
 unfold oK at this
 have e:(List.replicate n [c]).flatten=List.replicate n c:=by simp
 rw[e]at this
 exact this
noncomputable def cX(G:GP)(L:Addr)(ys:List (List Nat))(v:Value)(t:Tok)(e:Nat)(z:List Nat):ac:=cB "str.join" [.str (mS []) t,.ref L] [(L,some (lO (qSL ys v) e))] G 0 1 λ_ U _=>rV (.str (mS z) (U 0))
theorem dv{L:Addr}{ys:List (List Nat)}{v:Value}{e:Nat}{z:List Nat}(h:ys.flatten=z)(hz:z.length<2^20):Ok w 1 (cX G L ys v t e z):=by
 subst h
 exact jZ hz
theorem eI{sd:Nat}{y:List Nat}{ZL:Nat}(h:bQ w Z V x sd y ZL):Ok (W2 w Z V) 5 (dQ G x t sd u y ZL):=h _ _ _
noncomputable abbrev pT(p:Nat × Nat)(t:Tok × Tok):Obj:=tuO [.int (.ofNat p.1) t.1,.int (.ofNat p.2) t.2]
noncomputable def neT(G:GP)(a b:Addr)(n m:Nat)(pairs:List ((Addr × Addr) × (Nat × Nat) × (Tok × Tok) × (Tok × Tok))):ac:=
 cB "list.__ne__" [.ref a,.ref b] ((a,some (lO (pairs.map λp=>.ref p.1.1) n))::(b,some (lO (pairs.map λp=>.ref p.1.2) m))::pairs.flatMap λp=>[(p.1.1,some (pT p.2.1 p.2.2.1)),(p.1.2,some (pT p.2.1 p.2.2.2))]) G 0 0 λ_ _ _=>rV (.bool false)
theorem kL{pairs:List ((Addr × Addr) × (Nat × Nat) × (Tok × Tok) × (Tok × Tok))}:Ok w 1 (neT G a b n m pairs):=by
 have hsz:(Array.mk (pairs.map λp=>Value.ref p.1.1)).size=(Array.mk (pairs.map λp=>Value.ref p.1.2)).size:=by
  show(pairs.map λp=>Value.ref p.1.1).length=(pairs.map λp=>Value.ref p.1.2).length
  simp
 refine aN F.slot_list_ne F.entry_list_ne (F.args_list_ne_2 _ _) (lk (n:=n) (m:=m) hsz) rfl λA R h gs d U os hA hG hB hP K=>?_
 have ho:=(hP.get _ (.head _) _ rfl).1
 have ho2:=(hP.get _ (.tail _ (.head _)) _ rfl).1
 refine⟨⟨_,ho,rfl⟩,ho,ho2,λj h1 h2=>?_,K h gs U (λ_=>0) (λ_=>0) (λ_=>.none) hG (ax hB)⟩
 have hj:j<pairs.length:=by
  have:j<(pairs.map λp=>Value.ref p.1.1).length:=h1
  simpa using this
 have g1:(Array.mk (pairs.map λp=>Value.ref p.1.1))[j]=.ref pairs[j].1.1:=by simp
 have g2:(Array.mk (pairs.map λp=>Value.ref p.1.2))[j]=.ref pairs[j].1.2:=by simp
 rw[g1,g2]
 have m1:(pairs[j].1.1,some (pT pairs[j].2.1 pairs[j].2.2.1))∈(neT G a b n m pairs).pre:=.tail _ (.tail _ (List.mem_flatMap.mpr ⟨pairs[j],List.getElem_mem hj,.head _⟩))
 have m2:(pairs[j].1.2,some (pT pairs[j].2.1 pairs[j].2.2.2))∈(neT G a b n m pairs).pre:=.tail _ (.tail _ (List.mem_flatMap.mpr ⟨pairs[j],List.getElem_mem hj,.tail _ (.head _)⟩))
 have o1:=(hP.get _ m1 _ rfl).1
 have o2:=(hP.get _ m2 _ rfl).1
 intro prog w' E Q hq
 have it:∀(p:Nat × Nat) (t:Tok × Tok),ItemsAre (intKind prog w') [.ofNat p.1,.ofNat p.2] [.int (.ofNat p.1) t.1,.int (.ofNat p.2) t.2]:=λp t=>
  .cons (by simp[intKind,Value.isInt]) (.cons (by simp[intKind,Value.isInt]) .nil)
 refine wpAny_eqBool_tuple (knd:=intKind prog w') (x:=[.ofNat pairs[j].2.1.1,.ofNat pairs[j].2.1.2]) (y:=[.ofNat pairs[j].2.1.1,.ofNat pairs[j].2.1.2]) ?_ ⟨_,_,_,o1,rfl,rfl,it _ _⟩ ⟨_,_,_,o2,rfl,rfl,it _ _⟩ ?_
 ·have:=hA.un
  show A.units+1<9900
  lia
 ·rw[decide_eq_true rfl];exact hq
noncomputable def q7(G:GP)(a b:Addr)(n m:Nat)(d0 d1 g0 g1:Addr)(r0 s0 r1 s1:Nat)(t0 u0 v0 w0 t1 u1 v1 w1:Tok):ac:=cB "list.__ne__" [.ref a,.ref b] [(a,some (lO [.ref d0,.ref d1] n)),(b,some (lO [.ref g0,.ref g1] m)),(d0,some (tuO [.int (.ofNat r0) t0,.int (.ofNat s0) u0])),(g0,some (tuO [.int (.ofNat r0) v0,.int (.ofNat s0) w0])),(d1,some (tuO [.int (.ofNat r1) t1,.int (.ofNat s1) u1])),(g1,some (tuO [.int (.ofNat r1) v1,.int (.ofNat s1) w1]))] G 0 0 λ_ _ _=>rV (.bool false)
theorem qO:Ok w 1 (q7 G a b n m d0 d1 g0 g1 r0 s0 r1 s1 t0 u0 v0 w0 t1 u1 v1 w1):=kL (pairs:=[((d0,g0),(r0,s0),(t0,u0),(v0,w0)),((d1,g1),(r1,s1),(t1,u1),(v1,w1))])
noncomputable def q6(G:GP)(a b:Addr)(n m:Nat)(d0 d1 d2 g0 g1 g2:Addr)(r0 s0 r1 s1 r2 s2:Nat)(t0 u0 v0 w0 t1 u1 v1 w1 t2 u2 v2 w2:Tok):ac:=cB "list.__ne__" [.ref a,.ref b] [(a,some (lO [.ref d0,.ref d1,.ref d2] n)),(b,some (lO [.ref g0,.ref g1,.ref g2] m)),(d0,some (tuO [.int (.ofNat r0) t0,.int (.ofNat s0) u0])),(g0,some (tuO [.int (.ofNat r0) v0,.int (.ofNat s0) w0])),(d1,some (tuO [.int (.ofNat r1) t1,.int (.ofNat s1) u1])),(g1,some (tuO [.int (.ofNat r1) v1,.int (.ofNat s1) w1])),(d2,some (tuO [.int (.ofNat r2) t2,.int (.ofNat s2) u2])),(g2,some (tuO [.int (.ofNat r2) v2,.int (.ofNat s2) w2]))] G 0 0 λ_ _ _=>rV (.bool false)
theorem qN:Ok w 1 (q6 G a b n m d0 d1 d2 g0 g1 g2 r0 s0 r1 s1 r2 s2 t0 u0 v0 w0 t1 u1 v1 w1 t2 u2 v2 w2):=kL (pairs:=[((d0,g0),(r0,s0),(t0,u0),(v0,w0)),((d1,g1),(r1,s1),(t1,u1),(v1,w1)),((d2,g2),(r2,s2),(t2,u2),(v2,w2))])
noncomputable def q5(G:GP)(a b:Addr)(n m:Nat)(d0 d1 d2 d3 g0 g1 g2 g3:Addr)(r0 s0 r1 s1 r2 s2 r3 s3:Nat)(t0 u0 v0 w0 t1 u1 v1 w1 t2 u2 v2 w2 t3 u3 v3 w3:Tok):ac:=cB "list.__ne__" [.ref a,.ref b] [(a,some (lO [.ref d0,.ref d1,.ref d2,.ref d3] n)),(b,some (lO [.ref g0,.ref g1,.ref g2,.ref g3] m)),(d0,some (tuO [.int (.ofNat r0) t0,.int (.ofNat s0) u0])),(g0,some (tuO [.int (.ofNat r0) v0,.int (.ofNat s0) w0])),(d1,some (tuO [.int (.ofNat r1) t1,.int (.ofNat s1) u1])),(g1,some (tuO [.int (.ofNat r1) v1,.int (.ofNat s1) w1])),(d2,some (tuO [.int (.ofNat r2) t2,.int (.ofNat s2) u2])),(g2,some (tuO [.int (.ofNat r2) v2,.int (.ofNat s2) w2])),(d3,some (tuO [.int (.ofNat r3) t3,.int (.ofNat s3) u3])),(g3,some (tuO [.int (.ofNat r3) v3,.int (.ofNat s3) w3]))] G 0 0 λ_ _ _=>rV (.bool false)
theorem qM{d3 g3:Addr}{r3 s3:Nat}{t3 u3 v3 w3:Tok}:Ok w 1 (q5 G a b n m d0 d1 d2 d3 g0 g1 g2 g3 r0 s0 r1 s1 r2 s2 r3 s3 t0 u0 v0 w0 t1 u1 v1 w1 t2 u2 v2 w2 t3 u3 v3 w3):=kL (pairs:=[((d0,g0),(r0,s0),(t0,u0),(v0,w0)),((d1,g1),(r1,s1),(t1,u1),(v1,w1)),((d2,g2),(r2,s2),(t2,u2),(v2,w2)),((d3,g3),(r3,s3),(t3,u3),(v3,w3))])
end
section
open PySem PySem.W PySem.W.X PySem.Builtin
noncomputable abbrev kA:List Nat:=[116,111,108,100]
noncomputable abbrev eC:List Nat:=[112,108,97,99,101,115]
noncomputable abbrev lb:List Nat:=[108,101,120,101,114]
noncomputable abbrev bc:List Nat:=[119,97,105,116,105,110,103]
noncomputable abbrev bR:List Nat:=[109,97,114,107,115]
noncomputable abbrev dg:List Nat:=[115,116,97,121]
noncomputable abbrev rS:List Nat:=[108,101,102,116]
noncomputable abbrev rN:List Nat:=[116,117,114,110]
noncomputable abbrev s_x:List Nat:=[120]
noncomputable abbrev aE(i:Nat):Stmt:=b4 (bdS (stA 16)) i
noncomputable def an(fr Z7 Z6 Z8:Addr):Env:={kX (stA 16) 163 162 fr with cells:=[(mS eC,Z7),(mS lb,Z6),(mS gc,Z8)]}
noncomputable def kq(G:GP)(x:List Nat)(t:Tok)(n:Nat):ac:=cB "len" [.str (mS x) t] [] G 0 1 λ_ U _=>rV (.int (.ofNat n) (U 0))
theorem b7{w:World}{G:GP}{x:List Nat}{t:Tok}{n:Nat}(h:x.length=n)(hn:n<2^20):Ok w 1 (kq G x t n):=by
 subst h
 exact ah hn
theorem aS{w:World}{G:GP}{x y:List Nat}{t u:Tok}(hx:x.length<2^20:=by first | assumption | lia | (simp only[List.length_cons,List.length_nil,List.length_append,List.length_replicate];lia))(hy:y.length<2^20:=by first | assumption | lia | (simp only[List.length_cons,List.length_nil,List.length_append,List.length_replicate];lia)):Ok w 1 (aX G x y t u):=bi hx hy
noncomputable def mU(P:Params)(a b:Addr)(z1 z2 z3 z4:Tok)(sd:Nat)(u3:Tok)(tx:List Nat)(u4:Tok)(kv:List DictEntry)(ef:Nat):Obj:=
 frO ([en P bu z1 (.ref a),en P bt z2 (.ref b),en P d7 z3 (.int (.ofNat sd) u3),en P d6 z4 (.str (mS tx) u4)]++kv) ef
noncomputable def mQ(P:Params)(a b RL:Addr)(z1 z2 z3 z4:Tok)(sd:Nat)(u3:Tok)(tx:List Nat)(u4:Tok)(ef el:Nat)(g0 g1:Addr)(r0 s0 r1 s1:Nat)(k0 l0 k1 l1:Tok):List (Option Obj):=
 [some (mU P a b z1 z2 z3 z4 sd u3 tx u4 [] ef),some (liO RL 0),some (lO [.ref g0,.ref g1] el),some (tuO [.int (.ofNat r0) k0,.int (.ofNat s0) l0]),some (tuO [.int (.ofNat r1) k1,.int (.ofNat s1) l1])]
noncomputable def mN(P:Params)(G:GP)(fr Z7 Z6 Z8 it a b RL:Addr)(z1 z2 z3 z4:Tok)(sd:Nat)(u3:Tok)(tx:List Nat)(u4:Tok)(ef el:Nat)(g0 g1:Addr)(r0 s0 r1 s1:Nat)(k0 l0 k1 l1:Tok)(tx':List Nat)(ZL:Nat):ac:=
 Mine.sd (cM (aE 3) (.ref it) (an fr Z7 Z6 Z8)) (aa [fr,it,RL,g0,g1]) (mQ P a b RL z1 z2 z3 z4 sd u3 tx u4 ef el g0 g1 r0 s0 r1 s1 k0 l0 k1 l1) G G 0 6 5 λ_ U O=>
  ⟨.ok .next,[(0,mU P a b z1 z2 z3 z4 ZL (U 0) tx' (U 1) [en P bS (U 2) (O 0),en P cE (U 3) (O 1),en P d5 (U 4) (O 2)] (U 5)),(1,⟨.type "list_iterator",none,.fields ⟨[O 3,O 4]⟩,⟨[]⟩⟩)],[]⟩
noncomputable def mT(P:Params)(a b:Addr)(z1 z2 z3 z4:Tok)(sd:Nat)(u3:Tok)(tx:List Nat)(u4:Tok)(kv:List DictEntry)(ef:Nat):Obj:=
 frO ([en P bu z1 (.ref a),en P bt z2 (.ref b),en P d7 z3 (.int (.ofNat sd) u3),en P d6 z4 (.str (mS tx) u4)]++kv) ef
noncomputable def mP(P:Params)(a b RL:Addr)(z1 z2 z3 z4:Tok)(sd:Nat)(u3:Tok)(tx:List Nat)(u4:Tok)(ef el:Nat)(g0 g1 g2:Addr)(r0 s0 r1 s1 r2 s2:Nat)(k0 l0 k1 l1 k2 l2:Tok):List (Option Obj):=
 [some (mT P a b z1 z2 z3 z4 sd u3 tx u4 [] ef),some (liO RL 0),some (lO [.ref g0,.ref g1,.ref g2] el),some (tuO [.int (.ofNat r0) k0,.int (.ofNat s0) l0]),some (tuO [.int (.ofNat r1) k1,.int (.ofNat s1) l1]),some (tuO [.int (.ofNat r2) k2,.int (.ofNat s2) l2])]
noncomputable def mM(P:Params)(G:GP)(fr Z7 Z6 Z8 it a b RL:Addr)(z1 z2 z3 z4:Tok)(sd:Nat)(u3:Tok)(tx:List Nat)(u4:Tok)(ef el:Nat)(g0 g1 g2:Addr)(r0 s0 r1 s1 r2 s2:Nat)(k0 l0 k1 l1 k2 l2:Tok)(tx':List Nat)(ZL:Nat):ac:=
 Mine.sd (cM (aE 3) (.ref it) (an fr Z7 Z6 Z8)) (aa [fr,it,RL,g0,g1,g2]) (mP P a b RL z1 z2 z3 z4 sd u3 tx u4 ef el g0 g1 g2 r0 s0 r1 s1 r2 s2 k0 l0 k1 l1 k2 l2) G G 0 6 5 λ_ U O=>
  ⟨.ok .next,[(0,mT P a b z1 z2 z3 z4 ZL (U 0) tx' (U 1) [en P bS (U 2) (O 0),en P cE (U 3) (O 1),en P d5 (U 4) (O 2)] (U 5)),(1,⟨.type "list_iterator",none,.fields ⟨[O 3,O 4]⟩,⟨[]⟩⟩)],[]⟩
noncomputable def mR(P:Params)(a b:Addr)(z1 z2 z3 z4:Tok)(sd:Nat)(u3:Tok)(tx:List Nat)(u4:Tok)(kv:List DictEntry)(ef:Nat):Obj:=
 frO ([en P bu z1 (.ref a),en P bt z2 (.ref b),en P d7 z3 (.int (.ofNat sd) u3),en P d6 z4 (.str (mS tx) u4)]++kv) ef
noncomputable def mO(P:Params)(a b RL:Addr)(z1 z2 z3 z4:Tok)(sd:Nat)(u3:Tok)(tx:List Nat)(u4:Tok)(ef el:Nat)(g0 g1 g2 g3:Addr)(r0 s0 r1 s1 r2 s2 r3 s3:Nat)(k0 l0 k1 l1 k2 l2 k3 l3:Tok):List (Option Obj):=
 [some (mR P a b z1 z2 z3 z4 sd u3 tx u4 [] ef),some (liO RL 0),some (lO [.ref g0,.ref g1,.ref g2,.ref g3] el),some (tuO [.int (.ofNat r0) k0,.int (.ofNat s0) l0]),some (tuO [.int (.ofNat r1) k1,.int (.ofNat s1) l1]),some (tuO [.int (.ofNat r2) k2,.int (.ofNat s2) l2]),some (tuO [.int (.ofNat r3) k3,.int (.ofNat s3) l3])]
noncomputable def mL(P:Params)(G:GP)(fr Z7 Z6 Z8 it a b RL:Addr)(z1 z2 z3 z4:Tok)(sd:Nat)(u3:Tok)(tx:List Nat)(u4:Tok)(ef el:Nat)(g0 g1 g2 g3:Addr)(r0 s0 r1 s1 r2 s2 r3 s3:Nat)(k0 l0 k1 l1 k2 l2 k3 l3:Tok)(tx':List Nat)(ZL:Nat):ac:=
 Mine.sd (cM (aE 3) (.ref it) (an fr Z7 Z6 Z8)) (aa [fr,it,RL,g0,g1,g2,g3]) (mO P a b RL z1 z2 z3 z4 sd u3 tx u4 ef el g0 g1 g2 g3 r0 s0 r1 s1 r2 s2 r3 s3 k0 l0 k1 l1 k2 l2 k3 l3) G G 0 6 5 λ_ U O=>
  ⟨.ok .next,[(0,mR P a b z1 z2 z3 z4 ZL (U 0) tx' (U 1) [en P bS (U 2) (O 0),en P cE (U 3) (O 1),en P d5 (U 4) (O 2)] (U 5)),(1,⟨.type "list_iterator",none,.fields ⟨[O 3,O 4]⟩,⟨[]⟩⟩)],[]⟩
end
section
open PySem PySem.W PySem.W.X PySem.Builtin
noncomputable abbrev kJ(G:GP)(r1:Nat)(k1:Tok)(s1:Nat)(l1:Tok)(q1 Zw:Nat)(y1:List Nat)(Zv:Nat)(zz:List It):List It:=
 .n::.f [] (λN=>bB G 102 r1 (N.t 16) k1)::.i [164,164]::.f [] (λN=>dA G (.ofNat s1) (.ofNat r1) l1 k1 (.ofNat q1))::.n::.f [] (λN=>bB G 105 q1 (N.t 18) (N.t 19))::.f [] (λN=>aX G (.replicate r1 102) (.replicate q1 105) (N.t 17) (N.t 20))::.i [164,144]::.f [] (λN=>dQ G (fi r1 q1) (N.t 21) Zw (N.t 9) y1 Zv)::zz
noncomputable abbrev kI(G:GP)(r0:Nat)(k0:Tok)(s0:Nat)(l0:Tok)(q0 Zx:Nat)(u3:Tok)(y0:List Nat)(Zw:Nat)(zz:List It):List It:=
 .n::.f [] (λN=>bB G 102 r0 (N.t 2) k0)::.i [164,164]::.f [] (λN=>dA G (.ofNat s0) (.ofNat r0) l0 k0 (.ofNat q0))::.n::.f [] (λN=>bB G 105 q0 (N.t 4) (N.t 5))::.f [] (λN=>aX G (.replicate r0 102) (.replicate q0 105) (N.t 3) (N.t 6))::.i [164,144]::.f [] (λN=>dQ G (fi r0 q0) (N.t 7) Zx u3 y0 Zw)::zz
noncomputable abbrev nB(G:GP)(r2:Nat)(k2:Tok)(s2:Nat)(l2:Tok)(q2 Zv:Nat)(y2:List Nat)(sd3:Nat)(zz:List It):List It:=
 .n::.f [] (λN=>bB G 102 r2 (N.t 30) k2)::.i [164,164]::.f [] (λN=>dA G (.ofNat s2) (.ofNat r2) l2 k2 (.ofNat q2))::.n::.f [] (λN=>bB G 105 q2 (N.t 32) (N.t 33))::.f [] (λN=>aX G (.replicate r2 102) (.replicate q2 105) (N.t 31) (N.t 34))::.i [164,144]::.f [] (λN=>dQ G (fi r2 q2) (N.t 35) Zv (N.t 23) y2 sd3)::zz
section
variable{w:World}{Z V:Bool}{G:GP}{fr Z7 Z6 Z8 it a b RL:Addr}{z1 z2 z3 z4:Tok}{Zx Zw Zv:Nat}{u3 u4:Tok}{ef el:Nat}{g0 g1:Addr}{r0 s0 r1 s1:Nat}{k0 l0 k1 l1:Tok}{q0:Nat}{y0:List Nat}{q1:Nat}{y1:List Nat}{sd3:Nat}{g2:Addr}{r2 s2:Nat}{k2 l2:Tok}{q2:Nat}{y2:List Nat}{sd4:Nat}{g3:Addr}{r3 s3:Nat}{k3 l3:Tok}{q3:Nat}{y3:List Nat}
theorem zb(hq0:(.ofNat s0:Int)- .ofNat r0=.ofNat q0)(hr0:r0<2^10)(hqq0:q0<2^10)(hW0:bQ w Z V (fi r0 q0) Zx y0 Zw)(hy0:y0.length<2^10)(hq1:(.ofNat s1:Int)- .ofNat r1=.ofNat q1)(hr1:r1<2^10)(hqq1:q1<2^10)(hW1:bQ w Z V (fi r1 q1) Zw y1 Zv)(hy1:y1.length<2^10)(hx0:([]:List Nat).length<2^20)(hx1:(y0).length<2^20):Ok (W2 w Z V) 6 (mN (Pw w Z V) G fr Z7 Z6 Z8 it a b RL z1 z2 z3 z4 Zx u3 [] u4 ef el g0 g1 r0 s0 r1 s1 k0 l0 k1 l1 (y0++y1) Zv):=
 okC [] 387 (λN=>[(N.t 23),(N.t 26),(N.t 0),(N.t 1),(N.t 10),(((ef+1)+1)+1)]) (λN=>[(.int (.ofNat r1) k1),(.int (.ofNat s1) l1),(.str (mS y1) (N.t 22)),.none,(.int 2 0)])
 (.i (ub 41 0xa403a4a4a4a4aba9a9a7a9a9a9a9a9a9a7a9a9a9a9a9a9a7a9a9a9a9a9a7a7a7a7a5a5a5a6a5a5a5a5)::(kI G r0 k0 s0 l0 q0 Zx u3 y0 Zw (.i (ub 33 0xa4a4a4a4a4a4afadadacadadadadadadacadadadadadadacadadadadadacacacac)::.f [] (λN=>aX G [] y0 u4 (N.t 8))::.i (ub 43 0xa403a4a4a4a4b2b0b0a8b0b0b0b0b0b0a8b0b0b0b0b0b0a8b0b0b0b0b0a8a8a8a8a5a5a5a6a5a5a5a5a4a4)::(kJ G r1 k1 s1 l1 q1 Zw y1 Zv (.i (ub 33 0xa4a4a4a4a4a4b6b4b4b3b4b4b4b4b4b4b3b4b4b4b4b4b4b3b4b4b4b4b4b3b3b3b3)::.f [] (λN=>aX G y0 y1 (N.t 12) (N.t 22))::.i (ub 10 0xb8a5a5a6a5a5a5a5a4a4)::[])))))
 (sE (sg1 (by kernel_rfl)) Z) (λN=>⟨okU (aC hr0),okU (bV hq0),okU (aC hqq0),okU (aS),okU (eI hW0),okU (aS (by first | assumption | lia | (simp only[List.length_cons,List.length_nil];lia) | decide) hx1),okU (aC hr1),okU (bV hq1),okU (aC hqq1),okU (aS),okU (eI hW1),okU (aS hx1),trivial⟩)
theorem za(hq0:(.ofNat s0:Int)- .ofNat r0=.ofNat q0)(hr0:r0<2^10)(hqq0:q0<2^10)(hW0:bQ w Z V (fi r0 q0) Zx y0 Zw)(hy0:y0.length<2^10)(hq1:(.ofNat s1:Int)- .ofNat r1=.ofNat q1)(hr1:r1<2^10)(hqq1:q1<2^10)(hW1:bQ w Z V (fi r1 q1) Zw y1 Zv)(hy1:y1.length<2^10)(hq2:(.ofNat s2:Int)- .ofNat r2=.ofNat q2)(hr2:r2<2^10)(hqq2:q2<2^10)(hW2:bQ w Z V (fi r2 q2) Zv y2 sd3)(hy2:y2.length<2^10)(hx0:([]:List Nat).length<2^20)(hx1:(y0).length<2^20)(hx2:((y0++y1)).length<2^20):Ok (W2 w Z V) 6 (mM (Pw w Z V) G fr Z7 Z6 Z8 it a b RL z1 z2 z3 z4 Zx u3 [] u4 ef el g0 g1 g2 r0 s0 r1 s1 r2 s2 k0 l0 k1 l1 k2 l2 ((y0++y1)++y2) sd3):=
 okC [] 570 (λN=>[(N.t 37),(N.t 40),(N.t 0),(N.t 1),(N.t 10),(((ef+1)+1)+1)]) (λN=>[(.int (.ofNat r2) k2),(.int (.ofNat s2) l2),(.str (mS y2) (N.t 36)),.none,(.int 3 0)])
 (.i (ub 41 0xa403a4a4a4a4acaaaaa7aaaaaaaaaaaaa7aaaaaaaaaaaaa7aaaaaaaaaaa7a7a7a7a5a5a5a6a5a5a5a5)::(kI G r0 k0 s0 l0 q0 Zx u3 y0 Zw (.i (ub 33 0xa4a4a4a4a4a4b0aeaeadaeaeaeaeaeaeadaeaeaeaeaeaeadaeaeaeaeaeadadadad)::.f [] (λN=>aX G [] y0 u4 (N.t 8))::.i (ub 43 0xa403a4a4a4a4b3b1b1a8b1b1b1b1b1b1a8b1b1b1b1b1b1a8b1b1b1b1b1a8a8a8a8a5a5a5a6a5a5a5a5a4a4)::(kJ G r1 k1 s1 l1 q1 Zw y1 Zv (.i (ub 33 0xa4a4a4a4a4a4b7b5b5b4b5b5b5b5b5b5b4b5b5b5b5b5b5b4b5b5b5b5b5b4b4b4b4)::.f [] (λN=>aX G y0 y1 (N.t 12) (N.t 22))::.i (ub 43 0xa403a4a4a4a4bab8b8a9b8b8b8b8b8b8a9b8b8b8b8b8b8a9b8b8b8b8b8a9a9a9a9a5a5a5a6a5a5a5a5a4a4)::(nB G r2 k2 s2 l2 q2 Zv y2 sd3 (.i (ub 33 0xa4a4a4a4a4a4bebcbcbbbcbcbcbcbcbcbbbcbcbcbcbcbcbbbcbcbcbcbcbbbbbbbb)::.f [] (λN=>aX G (y0++y1) y2 (N.t 26) (N.t 36))::.i (ub 10 0xc0a5a5a6a5a5a5a5a4a4)::[])))))))
 (sE (sg1 (by kernel_rfl)) Z) (λN=>⟨okU (aC hr0),okU (bV hq0),okU (aC hqq0),okU (aS),okU (eI hW0),okU (aS (by first | assumption | lia | (simp only[List.length_cons,List.length_nil];lia) | decide) hx1),okU (aC hr1),okU (bV hq1),okU (aC hqq1),okU (aS),okU (eI hW1),okU (aS hx1),okU (aC hr2),okU (bV hq2),okU (aC hqq2),okU (aS),okU (eI hW2),okU (aS hx2),trivial⟩)
theorem yZ(hq0:(.ofNat s0:Int)- .ofNat r0=.ofNat q0)(hr0:r0<2^10)(hqq0:q0<2^10)(hW0:bQ w Z V (fi r0 q0) Zx y0 Zw)(hy0:y0.length<2^10)(hq1:(.ofNat s1:Int)- .ofNat r1=.ofNat q1)(hr1:r1<2^10)(hqq1:q1<2^10)(hW1:bQ w Z V (fi r1 q1) Zw y1 Zv)(hy1:y1.length<2^10)(hq2:(.ofNat s2:Int)- .ofNat r2=.ofNat q2)(hr2:r2<2^10)(hqq2:q2<2^10)(hW2:bQ w Z V (fi r2 q2) Zv y2 sd3)(hy2:y2.length<2^10)(hq3:(.ofNat s3:Int)- .ofNat r3=.ofNat q3)(hr3:r3<2^10)(hqq3:q3<2^10)(hW3:bQ w Z V (fi r3 q3) sd3 y3 sd4)(hy3:y3.length<2^10)(hx0:([]:List Nat).length<2^20)(hx1:(y0).length<2^20)(hx2:((y0++y1)).length<2^20)(hx3:(((y0++y1)++y2)).length<2^20):Ok (W2 w Z V) 6 (mL (Pw w Z V) G fr Z7 Z6 Z8 it a b RL z1 z2 z3 z4 Zx u3 [] u4 ef el g0 g1 g2 g3 r0 s0 r1 s1 r2 s2 r3 s3 k0 l0 k1 l1 k2 l2 k3 l3 (((y0++y1)++y2)++y3) sd4):=
 okC [] 753 (λN=>[(N.t 51),(N.t 54),(N.t 0),(N.t 1),(N.t 10),(((ef+1)+1)+1)]) (λN=>[(.int (.ofNat r3) k3),(.int (.ofNat s3) l3),(.str (mS y3) (N.t 50)),.none,(.int 4 0)])
 (.i (ub 41 0xa403a4a4a4a4adababa7ababababababa7ababababababa7abababababa7a7a7a7a5a5a5a6a5a5a5a5)::(kI G r0 k0 s0 l0 q0 Zx u3 y0 Zw (.i (ub 33 0xa4a4a4a4a4a4b1afafaeafafafafafafaeafafafafafafaeafafafafafaeaeaeae)::.f [] (λN=>aX G [] y0 u4 (N.t 8))::.i (ub 43 0xa403a4a4a4a4b4b2b2a8b2b2b2b2b2b2a8b2b2b2b2b2b2a8b2b2b2b2b2a8a8a8a8a5a5a5a6a5a5a5a5a4a4)::(kJ G r1 k1 s1 l1 q1 Zw y1 Zv (.i (ub 33 0xa4a4a4a4a4a4b8b6b6b5b6b6b6b6b6b6b5b6b6b6b6b6b6b5b6b6b6b6b6b5b5b5b5)::.f [] (λN=>aX G y0 y1 (N.t 12) (N.t 22))::.i (ub 43 0xa403a4a4a4a4bbb9b9a9b9b9b9b9b9b9a9b9b9b9b9b9b9a9b9b9b9b9b9a9a9a9a9a5a5a5a6a5a5a5a5a4a4)::(nB G r2 k2 s2 l2 q2 Zv y2 sd3 (.i (ub 33 0xa4a4a4a4a4a4bfbdbdbcbdbdbdbdbdbdbcbdbdbdbdbdbdbcbdbdbdbdbdbcbcbcbc)::.f [] (λN=>aX G (y0++y1) y2 (N.t 26) (N.t 36))::.i (ub 43 0xa403a4a4a4a4c2c0c0aac0c0c0c0c0c0aac0c0c0c0c0c0aac0c0c0c0c0aaaaaaaaa5a5a5a6a5a5a5a5a4a4)::.n::.f [] (λN=>bB G 102 r3 (N.t 44) k3)::.i [164,164]::.f [] (λN=>dA G (.ofNat s3) (.ofNat r3) l3 k3 (.ofNat q3))::.n::.f [] (λN=>bB G 105 q3 (N.t 46) (N.t 47))::.f [] (λN=>aX G (.replicate r3 102) (.replicate q3 105) (N.t 45) (N.t 48))::.i [164,144]::.f [] (λN=>dQ G (fi r3 q3) (N.t 49) sd3 (N.t 37) y3 sd4)::.i (ub 33 0xa4a4a4a4a4a4c6c4c4c3c4c4c4c4c4c4c3c4c4c4c4c4c4c3c4c4c4c4c4c3c3c3c3)::.f [] (λN=>aX G ((y0++y1)++y2) y3 (N.t 40) (N.t 50))::.i (ub 10 0xc8a5a5a6a5a5a5a5a4a4)::[])))))))
 (sE (sg1 (by kernel_rfl)) Z) (λN=>⟨okU (aC hr0),okU (bV hq0),okU (aC hqq0),okU (aS),okU (eI hW0),okU (aS (by first | assumption | lia | (simp only[List.length_cons,List.length_nil];lia) | decide) hx1),okU (aC hr1),okU (bV hq1),okU (aC hqq1),okU (aS),okU (eI hW1),okU (aS hx1),okU (aC hr2),okU (bV hq2),okU (aC hqq2),okU (aS),okU (eI hW2),okU (aS hx2),okU (aC hr3),okU (bV hq3),okU (aC hqq3),okU (aS),okU (eI hW3),okU (aS hx3),trivial⟩)
end
end
section
open PySem PySem.W PySem.W.X PySem.Builtin
variable{w:World}{Z V:Bool}{G:GP}{it Z9 fa:Addr}{x:List Nat}{u t0 t1:Tok}{e0 e1 q:Nat}{U:Nat→Tok}
theorem pQ{D:Addr}(ha:∀c∈x,c∈bs)(h0:0<x.length)(hx:x.length<2^20):Ok (W2 w Z V) 3 (tcA (Pw w Z V) G "str_ascii_iterator" it Z9 D fa x u 0 [] e0 [] e1 x.length (a8 x)):=rF hx h0 ha
theorem pP{D:Addr}(ha:∀c∈x,c∈bs)(h0:0<x.length)(hx:x.length<2^20):Ok (W2 w Z V) 3 (tcA (Pw w Z V) G "str_iterator" it Z9 D fa x u 0 [] e0 [] e1 x.length (a8 x)):=rE hx h0 ha
noncomputable def vh(P:Params)(a b TO:Addr)(z1 z2 z3 z4 z5 z6 z7 z8 z9:Tok)(w3 w4 w5 w6 w7:Value)(tok:List Nat)(ut:Tok)(kv:List DictEntry)(ef:Nat):Obj:=
 frO ([en P bu z1 (.ref a),en P bt z2 (.ref b),en P d7 z3 w3,en P d6 z4 w4,en P bS z5 w5,en P cE z6 w6,en P d5 z7 w7,en P kA z8 (.ref TO),en P fO z9 (.str (mS tok) ut)]++kv) ef
noncomputable def f7(P:Params)(a b TO L:Addr)(DL S DS R RC KP KT PL PB CT:Addr)(t:Tok)(J:Nat→Value)(x:List Nat)(u:Tok)(p:Nat)(y:Tok)(e:Nat)(ln:Nat)(y1 y2 y3 y4 y5 y6 y7 y8 y9 Z3 Z4:Tok)(v1 v2 v3:Value)(el es:Nat)(ep:Nat)(z1 z2 z3 z4 z5 z6 z7 z8 z9:Tok)(w3 w4 w5 w6 w7:Value)(tok:List Nat)(ut:Tok)(kv:List DictEntry)(ef:Nat)(to:List Value)(et:Nat):List (Option Obj):=
 [some (vh P a b TO z1 z2 z3 z4 z5 z6 z7 z8 z9 w3 w4 w5 w6 w7 tok ut kv ef),some (lO to et),some (ceO (some (.ref L)))]++oa P DL S DS R RC KP KT PL PB CT t J x u p y e ln y1 y2 y3 y4 y5 y6 y7 y8 y9 Z3 Z4 v1 v2 v3 el es [] ep
noncomputable def jO(U:Nat→Tok):List (Nat × Nat)→Nat→List (Option Obj)
 | [],_=>[]
 | p::l,j=>some (tuO [.int (.ofNat p.1) (U (8+2*j)),.int (.ofNat p.2) (U (9+2*j))])::jO U l (j+1)
noncomputable def tlF(P:Params)(a b TO S PB:Addr)(y1 y3 y4 y5 y6:Tok)(z1 z2 z3 z4 z5 z6 z7 z8 z9:Tok)(w3 w4 w5 w6 w7:Value)(old:List Value)(p' Zr:Nat)(l:List (Nat × Nat)):FT:=λC U O=>
  ⟨.ok .next,[(0,vh P a b TO z1 z2 z3 z4 z5 z6 z7 z8 z9 w3 w4 w5 w6 w7 [] (U 0) [en P bF (U 1) (O 0)] (U 2)),(1,lO (old++rfs C l.length 0) (U 3)),(4,dlO P S PB Zr y1 (U 4) y3 y4 y5 y6 (U 5)),(11,lO [.int (.ofNat p') (U 6)] (U 7))],jO U l 0⟩
theorem hV{f g:Nat→Addr}:∀(n i j:Nat),(∀q,q<n→f (i+q)=g (j+q))→rfs f n i=rfs g n j
 | 0,_,_,_=>rfl
 | n+1,i,j,h=>by
  unfold rfs
  rw[show f i=g j from h 0 (Nat.succ_pos n),hV n (i+1) (j+1) λq hq=>by have:=h (q+1) (by lia);rw[show i+1+q=i+(q+1)by lia,show j+1+q=j+(q+1)by lia];exact this]
theorem gq{f g:Nat→Tok}:∀(l:List (Nat × Nat)) (i j:Nat),(∀q,q<2*l.length→f (8+2*i+q)=g (8+2*j+q))→jO f l i=jO g l j
 | [],_,_,_=>rfl
 | p::l,i,j,h=>by
  unfold jO
  rw[List.length_cons]at h
  have h0:=h 0 (by lia)
  have h1:=h 1 (by lia)
  rw[show f (8+2*i)=g (8+2*j)from h0,show f (9+2*i)=g (9+2*j)by rw[show 9+2*i=8+2*i+1 by lia,show 9+2*j=8+2*j+1 by lia];exact h1]
  rw[gq l (i+1) (j+1) λq hq=>by have:=h (q+2) (by lia);rw[show 8+2*(i+1)+q=8+2*i+(q+2)by lia,show 8+2*(j+1)+q=8+2*j+(q+2)by lia];exact this]
theorem cQ{n:Nat}{f:Nat→Nat}(h:q<n):cut n f q=f q:=by
 unfold cut
 rw[show Nat.blt q n=true from Nat.ble_eq_true_of_le h]
theorem pX:fE t0 t1 U (10+q)=U (8+q):=by
 unfold fE
 rw[show Nat.blt (10+q) 8=false from by cases h:Nat.blt (10+q) 8 with | true=>exact absurd (Nat.le_of_ble_eq_true h) (by lia) | false=>rfl,
  show Nat.beq (10+q) 8=false from by cases h:Nat.beq (10+q) 8 with | true=>exact absurd (Nat.eq_of_beq_eq_true h) (by lia) | false=>rfl,
  show Nat.beq (10+q) 9=false from by cases h:Nat.beq (10+q) 9 with | true=>exact absurd (Nat.eq_of_beq_eq_true h) (by lia) | false=>rfl]
 show U (10+q-2)=_
 rw[show 10+q-2=8+q by lia]
theorem pW(h:q<8):fE t0 t1 U q=U q:=by
 unfold fE
 rw[show Nat.blt q 8=true from Nat.ble_eq_true_of_le h]
theorem db{P:Params}{a b TO S PB:Addr}{y1 y3 y4 y5 y6:Tok}{z1 z2 z3 z4 z5 z6 z7 z8 z9:Tok}{w3 w4 w5 w6 w7:Value}{old:List Value}{p' Zr:Nat}{l:List (Nat × Nat)}{r s:Nat}{d:Addr}{C U:Nat→Nat}{O:Nat→Value}:
  tlF P a b TO S PB y1 y3 y4 y5 y6 z1 z2 z3 z4 z5 z6 z7 z8 z9 w3 w4 w5 w6 w7 old p' Zr ((r,s)::l) (cut ((r,s)::l).length (fA d C)) (cut (2*((r,s)::l).length+8) (fE t0 t1 U)) (aq 1 O)=
   ⟨(tlF P a b TO S PB y1 y3 y4 y5 y6 z1 z2 z3 z4 z5 z6 z7 z8 z9 w3 w4 w5 w6 w7 (old++[.ref d]) p' Zr l (cut l.length C) (cut (2*l.length+8) U) (aq 1 O)).r,
    (tlF P a b TO S PB y1 y3 y4 y5 y6 z1 z2 z3 z4 z5 z6 z7 z8 z9 w3 w4 w5 w6 w7 (old++[.ref d]) p' Zr l (cut l.length C) (cut (2*l.length+8) U) (aq 1 O)).ups,
    some (tuO [.int (.ofNat r) t0,.int (.ofNat s) t1])::(tlF P a b TO S PB y1 y3 y4 y5 y6 z1 z2 z3 z4 z5 z6 z7 z8 z9 w3 w4 w5 w6 w7 (old++[.ref d]) p' Zr l (cut l.length C) (cut (2*l.length+8) U) (aq 1 O)).news⟩:=by
 have hl:((r,s)::l).length=l.length+1:=rfl
 have e:∀q,q<8→cut (2*((r,s)::l).length+8) (fE t0 t1 U) q=cut (2*l.length+8) U q:=λq hq=>by
  rw[cQ (by lia),cQ (by lia),pW hq]
 have e8:cut (2*((r,s)::l).length+8) (fE t0 t1 U) (8+2*0)=t0:=by rw[cQ (by lia)];rfl
 have e9:cut (2*((r,s)::l).length+8) (fE t0 t1 U) (9+2*0)=t1:=by rw[cQ (by lia)];rfl
 have er:rfs (cut ((r,s)::l).length (fA d C)) ((r,s)::l).length 0=.ref d::rfs (cut l.length C) l.length 0:=by
  rw[hl]
  show Value.ref (cut (l.length+1) (fA d C) 0)::rfs (cut (l.length+1) (fA d C)) l.length 1=_
  rw[cQ (Nat.succ_pos _),hV (g:=cut l.length C) l.length 1 0 λq hq=>by rw[cQ (by lia),cQ (by lia),Nat.add_comm 1 q,Nat.zero_add];rfl]
  rfl
 have ep:jO (cut (2*((r,s)::l).length+8) (fE t0 t1 U)) ((r,s)::l) 0=some (tuO [.int (.ofNat r) t0,.int (.ofNat s) t1])::jO (cut (2*l.length+8) U) l 0:=by
  show some (tuO [.int (.ofNat r) (cut (2*((r,s)::l).length+8) (fE t0 t1 U) (8+2*0)),.int (.ofNat s) (cut (2*((r,s)::l).length+8) (fE t0 t1 U) (9+2*0))])::jO _ l 1=_
  rw[e8,e9,gq (g:=cut (2*l.length+8) U) l 1 0 λq hq=>by rw[cQ (by lia),cQ (by lia),show 8+2*1+q=10+q by lia,pX]]
 unfold tlF
 rw[er,ep,e 0 (by lia),e 1 (by lia),e 2 (by lia),e 3 (by lia),e 4 (by lia),e 5 (by lia),e 6 (by lia),e 7 (by lia),List.append_assoc]
 rfl
noncomputable def zo(P:Params)(a b TO L:Addr)(DL S DS R RC KP KT PL PB CT:Addr)(t:Tok)(J:Nat→Value)(x:List Nat)(u:Tok)(p:Nat)(y:Tok)(e:Nat)(ln:Nat)(y1 y2 y3 y4 y5 y6 y7 y8 y9 Z3 Z4:Tok)(v1 v2 v3:Value)(el es:Nat)(ep:Nat)(z1 z2 z3 z4 z5 z6 z7 z8 z9:Tok)(w3 w4 w5 w6 w7:Value)(tok:List Nat)(ut:Tok)(ef et:Nat):List (Option Obj):=
 f7 P a b TO L DL S DS R RC KP KT PL PB CT t J x u p y e ln y1 y2 y3 y4 y5 y6 y7 y8 y9 Z3 Z4 v1 v2 v3 el es ep z1 z2 z3 z4 z5 z6 z7 z8 z9 w3 w4 w5 w6 w7 tok ut [] ef [] et++[]
noncomputable def iE(P:Params)(G:GP)(fr Z7 Z6 Z8 a b TO L:Addr)(DL S DS R RC KP KT PL PB CT:Addr)(t:Tok)(J:Nat→Value)(x:List Nat)(u:Tok)(p:Nat)(y:Tok)(e:Nat)(ln:Nat)(y1 y2 y3 y4 y5 y6 y7 y8 y9 Z3 Z4:Tok)(v1 v2 v3:Value)(el es:Nat)(ep:Nat)(z1 z2 z3 z4 z5 z6 z7 z8 z9:Tok)(w3 w4 w5 w6 w7:Value)(tok:List Nat)(ut:Tok)(ef et:Nat)(p' Zr:Nat)(l:List (Nat × Nat)):ac:=
 sd (bN hJ (an fr Z7 Z6 Z8)) (aa [fr,TO,Z6,L,DL,S,DS,R,RC,KP,KT,PL,PB]) (zo P a b TO L DL S DS R RC KP KT PL PB CT t J x u p y e ln y1 y2 y3 y4 y5 y6 y7 y8 y9 Z3 Z4 v1 v2 v3 el es ep z1 z2 z3 z4 z5 z6 z7 z8 z9 w3 w4 w5 w6 w7 tok ut ef et) G G l.length (2*l.length+8) 1 (tlF P a b TO S PB y1 y3 y4 y5 y6 z1 z2 z3 z4 z5 z6 z7 z8 z9 w3 w4 w5 w6 w7 [] p' Zr l)
noncomputable def zn(P:Params)(a b TO L:Addr)(DL S DS R RC KP KT PL PB CT:Addr)(t:Tok)(J:Nat→Value)(x:List Nat)(u:Tok)(p:Nat)(y:Tok)(e:Nat)(ln:Nat)(y1 y2 y3 y4 y5 y6 y7 y8 y9 Z3 Z4:Tok)(v1 v2 v3:Value)(el es:Nat)(ep:Nat)(z1 z2 z3 z4 z5 z6 z7 z8 z9:Tok)(w3 w4 w5 w6 w7:Value)(tok:List Nat)(ut:Tok)(zp:Tok)(vp:Value)(ef et:Nat)(g0:Addr)(r0 s0:Nat)(k0 l0:Tok):List (Option Obj):=
 f7 P a b TO L DL S DS R RC KP KT PL PB CT t J x u p y e ln y1 y2 y3 y4 y5 y6 y7 y8 y9 Z3 Z4 v1 v2 v3 el es ep z1 z2 z3 z4 z5 z6 z7 z8 z9 w3 w4 w5 w6 w7 tok ut [en P bF zp vp] ef [.ref g0] et++[some (tuO [.int (.ofNat r0) k0,.int (.ofNat s0) l0])]
noncomputable def mZ(P:Params)(G:GP)(fr Z7 Z6 Z8 a b TO L:Addr)(DL S DS R RC KP KT PL PB CT:Addr)(t:Tok)(J:Nat→Value)(x:List Nat)(u:Tok)(p:Nat)(y:Tok)(e:Nat)(ln:Nat)(y1 y2 y3 y4 y5 y6 y7 y8 y9 Z3 Z4:Tok)(v1 v2 v3:Value)(el es:Nat)(ep:Nat)(z1 z2 z3 z4 z5 z6 z7 z8 z9:Tok)(w3 w4 w5 w6 w7:Value)(tok:List Nat)(ut:Tok)(zp:Tok)(vp:Value)(ef et:Nat)(g0:Addr)(r0 s0:Nat)(k0 l0:Tok)(p' Zr:Nat)(l:List (Nat × Nat)):ac:=
 sd (bN hJ (an fr Z7 Z6 Z8)) (aa [fr,TO,Z6,L,DL,S,DS,R,RC,KP,KT,PL,PB,g0]) (zn P a b TO L DL S DS R RC KP KT PL PB CT t J x u p y e ln y1 y2 y3 y4 y5 y6 y7 y8 y9 Z3 Z4 v1 v2 v3 el es ep z1 z2 z3 z4 z5 z6 z7 z8 z9 w3 w4 w5 w6 w7 tok ut zp vp ef et g0 r0 s0 k0 l0) G G l.length (2*l.length+8) 1 (tlF P a b TO S PB y1 y3 y4 y5 y6 z1 z2 z3 z4 z5 z6 z7 z8 z9 w3 w4 w5 w6 w7 [.ref g0] p' Zr l)
noncomputable def zm(P:Params)(a b TO L:Addr)(DL S DS R RC KP KT PL PB CT:Addr)(t:Tok)(J:Nat→Value)(x:List Nat)(u:Tok)(p:Nat)(y:Tok)(e:Nat)(ln:Nat)(y1 y2 y3 y4 y5 y6 y7 y8 y9 Z3 Z4:Tok)(v1 v2 v3:Value)(el es:Nat)(ep:Nat)(z1 z2 z3 z4 z5 z6 z7 z8 z9:Tok)(w3 w4 w5 w6 w7:Value)(tok:List Nat)(ut:Tok)(zp:Tok)(vp:Value)(ef et:Nat)(g0 g1:Addr)(r0 s0 r1 s1:Nat)(k0 l0 k1 l1:Tok):List (Option Obj):=
 f7 P a b TO L DL S DS R RC KP KT PL PB CT t J x u p y e ln y1 y2 y3 y4 y5 y6 y7 y8 y9 Z3 Z4 v1 v2 v3 el es ep z1 z2 z3 z4 z5 z6 z7 z8 z9 w3 w4 w5 w6 w7 tok ut [en P bF zp vp] ef [.ref g0,.ref g1] et++[some (tuO [.int (.ofNat r0) k0,.int (.ofNat s0) l0]),some (tuO [.int (.ofNat r1) k1,.int (.ofNat s1) l1])]
noncomputable def l6(P:Params)(G:GP)(fr Z7 Z6 Z8 a b TO L:Addr)(DL S DS R RC KP KT PL PB CT:Addr)(t:Tok)(J:Nat→Value)(x:List Nat)(u:Tok)(p:Nat)(y:Tok)(e:Nat)(ln:Nat)(y1 y2 y3 y4 y5 y6 y7 y8 y9 Z3 Z4:Tok)(v1 v2 v3:Value)(el es:Nat)(ep:Nat)(z1 z2 z3 z4 z5 z6 z7 z8 z9:Tok)(w3 w4 w5 w6 w7:Value)(tok:List Nat)(ut:Tok)(zp:Tok)(vp:Value)(ef et:Nat)(g0 g1:Addr)(r0 s0 r1 s1:Nat)(k0 l0 k1 l1:Tok)(p' Zr:Nat)(l:List (Nat × Nat)):ac:=
 sd (bN hJ (an fr Z7 Z6 Z8)) (aa [fr,TO,Z6,L,DL,S,DS,R,RC,KP,KT,PL,PB,g0,g1]) (zm P a b TO L DL S DS R RC KP KT PL PB CT t J x u p y e ln y1 y2 y3 y4 y5 y6 y7 y8 y9 Z3 Z4 v1 v2 v3 el es ep z1 z2 z3 z4 z5 z6 z7 z8 z9 w3 w4 w5 w6 w7 tok ut zp vp ef et g0 g1 r0 s0 r1 s1 k0 l0 k1 l1) G G l.length (2*l.length+8) 1 (tlF P a b TO S PB y1 y3 y4 y5 y6 z1 z2 z3 z4 z5 z6 z7 z8 z9 w3 w4 w5 w6 w7 [.ref g0,.ref g1] p' Zr l)
noncomputable def zj(P:Params)(a b TO L:Addr)(DL S DS R RC KP KT PL PB CT:Addr)(t:Tok)(J:Nat→Value)(x:List Nat)(u:Tok)(p:Nat)(y:Tok)(e:Nat)(ln:Nat)(y1 y2 y3 y4 y5 y6 y7 y8 y9 Z3 Z4:Tok)(v1 v2 v3:Value)(el es:Nat)(ep:Nat)(z1 z2 z3 z4 z5 z6 z7 z8 z9:Tok)(w3 w4 w5 w6 w7:Value)(tok:List Nat)(ut:Tok)(zp:Tok)(vp:Value)(ef et:Nat)(g0 g1 g2:Addr)(r0 s0 r1 s1 r2 s2:Nat)(k0 l0 k1 l1 k2 l2:Tok):List (Option Obj):=
 f7 P a b TO L DL S DS R RC KP KT PL PB CT t J x u p y e ln y1 y2 y3 y4 y5 y6 y7 y8 y9 Z3 Z4 v1 v2 v3 el es ep z1 z2 z3 z4 z5 z6 z7 z8 z9 w3 w4 w5 w6 w7 tok ut [en P bF zp vp] ef [.ref g0,.ref g1,.ref g2] et++[some (tuO [.int (.ofNat r0) k0,.int (.ofNat s0) l0]),some (tuO [.int (.ofNat r1) k1,.int (.ofNat s1) l1]),some (tuO [.int (.ofNat r2) k2,.int (.ofNat s2) l2])]
noncomputable def l5(P:Params)(G:GP)(fr Z7 Z6 Z8 a b TO L:Addr)(DL S DS R RC KP KT PL PB CT:Addr)(t:Tok)(J:Nat→Value)(x:List Nat)(u:Tok)(p:Nat)(y:Tok)(e:Nat)(ln:Nat)(y1 y2 y3 y4 y5 y6 y7 y8 y9 Z3 Z4:Tok)(v1 v2 v3:Value)(el es:Nat)(ep:Nat)(z1 z2 z3 z4 z5 z6 z7 z8 z9:Tok)(w3 w4 w5 w6 w7:Value)(tok:List Nat)(ut:Tok)(zp:Tok)(vp:Value)(ef et:Nat)(g0 g1 g2:Addr)(r0 s0 r1 s1 r2 s2:Nat)(k0 l0 k1 l1 k2 l2:Tok)(p' Zr:Nat)(l:List (Nat × Nat)):ac:=
 sd (bN hJ (an fr Z7 Z6 Z8)) (aa [fr,TO,Z6,L,DL,S,DS,R,RC,KP,KT,PL,PB,g0,g1,g2]) (zj P a b TO L DL S DS R RC KP KT PL PB CT t J x u p y e ln y1 y2 y3 y4 y5 y6 y7 y8 y9 Z3 Z4 v1 v2 v3 el es ep z1 z2 z3 z4 z5 z6 z7 z8 z9 w3 w4 w5 w6 w7 tok ut zp vp ef et g0 g1 g2 r0 s0 r1 s1 r2 s2 k0 l0 k1 l1 k2 l2) G G l.length (2*l.length+8) 1 (tlF P a b TO S PB y1 y3 y4 y5 y6 z1 z2 z3 z4 z5 z6 z7 z8 z9 w3 w4 w5 w6 w7 [.ref g0,.ref g1,.ref g2] p' Zr l)
noncomputable def zi(P:Params)(a b TO L:Addr)(DL S DS R RC KP KT PL PB CT:Addr)(t:Tok)(J:Nat→Value)(x:List Nat)(u:Tok)(p:Nat)(y:Tok)(e:Nat)(ln:Nat)(y1 y2 y3 y4 y5 y6 y7 y8 y9 Z3 Z4:Tok)(v1 v2 v3:Value)(el es:Nat)(ep:Nat)(z1 z2 z3 z4 z5 z6 z7 z8 z9:Tok)(w3 w4 w5 w6 w7:Value)(tok:List Nat)(ut:Tok)(zp:Tok)(vp:Value)(ef et:Nat)(g0 g1 g2 g3:Addr)(r0 s0 r1 s1 r2 s2 r3 s3:Nat)(k0 l0 k1 l1 k2 l2 k3 l3:Tok):List (Option Obj):=
 f7 P a b TO L DL S DS R RC KP KT PL PB CT t J x u p y e ln y1 y2 y3 y4 y5 y6 y7 y8 y9 Z3 Z4 v1 v2 v3 el es ep z1 z2 z3 z4 z5 z6 z7 z8 z9 w3 w4 w5 w6 w7 tok ut [en P bF zp vp] ef [.ref g0,.ref g1,.ref g2,.ref g3] et++[some (tuO [.int (.ofNat r0) k0,.int (.ofNat s0) l0]),some (tuO [.int (.ofNat r1) k1,.int (.ofNat s1) l1]),some (tuO [.int (.ofNat r2) k2,.int (.ofNat s2) l2]),some (tuO [.int (.ofNat r3) k3,.int (.ofNat s3) l3])]
noncomputable def pd(P:Params)(G:GP)(fr Z7 Z6 Z8 a b TO L:Addr)(DL S DS R RC KP KT PL PB CT:Addr)(t:Tok)(J:Nat→Value)(x:List Nat)(u:Tok)(p:Nat)(y:Tok)(e:Nat)(ln:Nat)(y1 y2 y3 y4 y5 y6 y7 y8 y9 Z3 Z4:Tok)(v1 v2 v3:Value)(el es:Nat)(ep:Nat)(z1 z2 z3 z4 z5 z6 z7 z8 z9:Tok)(w3 w4 w5 w6 w7:Value)(tok:List Nat)(ut:Tok)(zp:Tok)(vp:Value)(ef et:Nat)(g0 g1 g2 g3:Addr)(r0 s0 r1 s1 r2 s2 r3 s3:Nat)(k0 l0 k1 l1 k2 l2 k3 l3:Tok)(p' Zr:Nat)(l:List (Nat × Nat)):ac:=
 sd (bN hJ (an fr Z7 Z6 Z8)) (aa [fr,TO,Z6,L,DL,S,DS,R,RC,KP,KT,PL,PB,g0,g1,g2,g3]) (zi P a b TO L DL S DS R RC KP KT PL PB CT t J x u p y e ln y1 y2 y3 y4 y5 y6 y7 y8 y9 Z3 Z4 v1 v2 v3 el es ep z1 z2 z3 z4 z5 z6 z7 z8 z9 w3 w4 w5 w6 w7 tok ut zp vp ef et g0 g1 g2 g3 r0 s0 r1 s1 r2 s2 r3 s3 k0 l0 k1 l1 k2 l2 k3 l3) G G l.length (2*l.length+8) 1 (tlF P a b TO S PB y1 y3 y4 y5 y6 z1 z2 z3 z4 z5 z6 z7 z8 z9 w3 w4 w5 w6 w7 [.ref g0,.ref g1,.ref g2,.ref g3] p' Zr l)
end
section
open PySem PySem.W PySem.W.X PySem.Builtin
noncomputable abbrev dl(G:GP)(r q s:Nat)(zz:List It):List It:=
 .i (ub 4 0xa4a4a4a4)::.f [] (λN=>ee G (fi r q) [102] (N.t 5) (N.t 8) r)::.n::.f [] (λN=>bB G 102 r (N.t 7) (N.t 9))::.i [164]::.f [] (λN=>ee G (fi r q) [105] (N.t 5) (N.t 12) q)::.n::.f [] (λN=>bB G 105 q (N.t 11) (N.t 13))::.f [] (λN=>aX G (.replicate r 102) (.replicate q 105) (N.t 10) (N.t 14))::.f [] (λN=>uu G (fi r q) (fi r q) (N.t 5) (N.t 15) false)::.i (ub 6 0xa4a5a5a5a5a4)::.f [] (λN=>ee G (fi r q) [102] (N.t 5) (N.t 16) r)::.i [3,0,164]::.f [] (λN=>kq G (fi r q) (N.t 5) s)::zz
noncomputable abbrev dk(w:World)(Z V:Bool)(G:GP)(L DL S DS R RC KP KT PL PB CT:Addr)(t:Tok)(J:Nat→Value)(x:List Nat)(u:Tok)(p:Nat)(y:Tok)(e ln:Nat)(y1 y2 y3 y4 y5 y6 y7 y8 y9 Z3 Z4:Tok)(v1 v2 v3:Value)(el es ep:Nat)(ZN:List Nat)(p' d:Nat)(zz:List It):List It:=
 .i (ub 17 0x31a8a7313a3b3ba73a3b3ba73a3b3ba7a6)::.f [3,4,5,6,7,8,9,10,11,12] (λN=>gtS (Pw w Z V) G L DL S DS R RC KP KT PL PB CT t J x u p y e ln y1 y2 y3 y4 y5 y6 y7 y8 y9 Z3 Z4 v1 v2 v3 el es ep ZN p' (ln+d))::.i [164,164]::zz
noncomputable abbrev dj(G:GP)(tok:List Nat)(ut:Tok)(zz:List It):List It:=
 .i [164]::.f [] (λN=>uu G tok [] ut (N.t 0) true)::.i [164]::zz
section
variable{w:World}{Z V:Bool}{G:GP}{fr Z7 Z6 Z8 a b TO L DL S DS R RC KP KT PL PB CT:Addr}{t:Tok}{J:Nat→Value}{x:List Nat}{u:Tok}{p:Nat}{y:Tok}{e ln:Nat}{y1 y2 y3 y4 y5 y6 y7 y8 y9 Z3 Z4:Tok}{v1 v2 v3:Value}{el es ep:Nat}{z1 z2 z3 z4 z5 z6 z7 z8 z9:Tok}{w3 w4 w5 w6 w7:Value}{ut:Tok}{ef et:Nat}{tok ZN:List Nat}{p' p2 d ln2 r s q:Nat}{l:List (Nat × Nat)}{zp:Tok}{vp:Value}{g0:Addr}{r0 s0:Nat}{k0 l0:Tok}{g1:Addr}{r1 s1:Nat}{k1 l1:Tok}{g2:Addr}{r2 s2:Nat}{k2 l2:Tok}{g3:Addr}{r3 s3:Nat}{k3 l3:Tok}
theorem zC(hw:(tok !=[])=true)(hT:tok.all (λc=>Nat.blt c 128)=true)(Zl:∀c∈tok,c∈bs)(h0:0<tok.length)(hl:tok.length<2^20)(hj:(a8 tok).flatten=fi r q)(hz:(fi r q).length<2^20)(hcf:aG (fi r q) [102]=r)(hci:aG (fi r q) [105]=q)(hr:r<2^10)(hq:q<2^10)(Zz:(fi r q !=fi r q)=false)(hle:(fi r q).length=s)(hs:s<2^20)(hG:bo w Z V x p d ZN p')(nx:NX λC U O=>Ok (W2 w Z V) 8 (mZ (Pw w Z V) G fr Z7 Z6 Z8 a b TO L DL S DS R RC KP KT PL PB CT t J x u p' (U 0) (U 1) (ln+d) y1 (U 2) y3 y4 y5 y6 y7 y8 y9 Z3 Z4 v1 v2 v3 (U 3) es ep z1 z2 z3 z4 z5 z6 z7 z8 z9 w3 w4 w5 w6 w7 ZN (U 4) (U 5) (O 0) (U 6) (U 7) (C 0) r s (U 8) (U 9) p2 ln2 l)):Ok (W2 w Z V) 8 (iE (Pw w Z V) G fr Z7 Z6 Z8 a b TO L DL S DS R RC KP KT PL PB CT t J x u p y e ln y1 y2 y3 y4 y5 y6 y7 y8 y9 Z3 Z4 v1 v2 v3 el es ep z1 z2 z3 z4 z5 z6 z7 z8 z9 w3 w4 w5 w6 w7 tok ut ef et p2 ln2 ((r,s)::l)):=
 c9 nx 16 (λN=>[(N.t 23),(N.t 24),(N.t 21),(N.t 22),(N.t 20),(N.t 6),(ef+1),(N.t 19),(N.t 17),(N.t 18)]) (λN=>[(.str (mS (fi r q)) (N.t 5))]) j1 140
 (dj G tok ut (.f [] (λN=>cU G tok ut)::.i [177]::.f [13,14,15] (λN=>tcA (Pw w Z V) G "str_ascii_iterator" (N.r 13) (N.r 14) (N.r 15) fr tok ut 0 [] 0 [] 0 (tok).length (a8 tok))::.i [179,179,179]::.f [14] (λN=>cX G (N.r 14) (a8 tok) (N.z 0) (N.t 1) (N.t 2) (fi r q))::(dl G r q s (.f [1] (λN=>am G TO [] et (.ref (N.r 16)))::(dk w Z V G L DL S DS R RC KP KT PL PB CT t J x u p y e ln y1 y2 y3 y4 y5 y6 y7 y8 y9 Z3 Z4 v1 v2 v3 el es ep ZN p' d [])))))
 (sE (sg1 (by kernel_rfl)) Z) (λN=>⟨okU (dO hw),okU (dJ hT),okU (pQ Zl h0 hl),okU (dv hj hz),okU (aK hcf),okU (aC hr),okU (aK hci),okU (aC hq),okU (aS),okU (dO Zz),okU (aK hcf),okU (b7 hle hs),okU (ao),okU (by apply hG),trivial⟩) (λN C U O=>db)
theorem zB(hw:(tok !=[])=true)(hT:tok.all (λc=>Nat.blt c 128)=false)(Zl:∀c∈tok,c∈bs)(h0:0<tok.length)(hl:tok.length<2^20)(hj:(a8 tok).flatten=fi r q)(hz:(fi r q).length<2^20)(hcf:aG (fi r q) [102]=r)(hci:aG (fi r q) [105]=q)(hr:r<2^10)(hq:q<2^10)(Zz:(fi r q !=fi r q)=false)(hle:(fi r q).length=s)(hs:s<2^20)(hG:bo w Z V x p d ZN p')(nx:NX λC U O=>Ok (W2 w Z V) 8 (mZ (Pw w Z V) G fr Z7 Z6 Z8 a b TO L DL S DS R RC KP KT PL PB CT t J x u p' (U 0) (U 1) (ln+d) y1 (U 2) y3 y4 y5 y6 y7 y8 y9 Z3 Z4 v1 v2 v3 (U 3) es ep z1 z2 z3 z4 z5 z6 z7 z8 z9 w3 w4 w5 w6 w7 ZN (U 4) (U 5) (O 0) (U 6) (U 7) (C 0) r s (U 8) (U 9) p2 ln2 l)):Ok (W2 w Z V) 8 (iE (Pw w Z V) G fr Z7 Z6 Z8 a b TO L DL S DS R RC KP KT PL PB CT t J x u p y e ln y1 y2 y3 y4 y5 y6 y7 y8 y9 Z3 Z4 v1 v2 v3 el es ep z1 z2 z3 z4 z5 z6 z7 z8 z9 w3 w4 w5 w6 w7 tok ut ef et p2 ln2 ((r,s)::l)):=
 c9 nx 16 (λN=>[(N.t 23),(N.t 24),(N.t 21),(N.t 22),(N.t 20),(N.t 6),(ef+1),(N.t 19),(N.t 17),(N.t 18)]) (λN=>[(.str (mS (fi r q)) (N.t 5))]) j1 140
 (dj G tok ut (.f [] (λN=>cT G tok ut)::.i [177]::.f [13,14,15] (λN=>tcA (Pw w Z V) G "str_iterator" (N.r 13) (N.r 14) (N.r 15) fr tok ut 0 [] 0 [] 0 (tok).length (a8 tok))::.i [179,179,179]::.f [14] (λN=>cX G (N.r 14) (a8 tok) (N.z 0) (N.t 1) (N.t 2) (fi r q))::(dl G r q s (.f [1] (λN=>am G TO [] et (.ref (N.r 16)))::(dk w Z V G L DL S DS R RC KP KT PL PB CT t J x u p y e ln y1 y2 y3 y4 y5 y6 y7 y8 y9 Z3 Z4 v1 v2 v3 el es ep ZN p' d [])))))
 (sE (sg1 (by kernel_rfl)) Z) (λN=>⟨okU (dO hw),okU (dI hT),okU (pP Zl h0 hl),okU (dv hj hz),okU (aK hcf),okU (aC hr),okU (aK hci),okU (aC hq),okU (aS),okU (dO Zz),okU (aK hcf),okU (b7 hle hs),okU (ao),okU (by apply hG),trivial⟩) (λN C U O=>db)
theorem zA(hw:(tok !=[])=true)(hT:tok.all (λc=>Nat.blt c 128)=true)(Zl:∀c∈tok,c∈bs)(h0:0<tok.length)(hl:tok.length<2^20)(hj:(a8 tok).flatten=fi r q)(hz:(fi r q).length<2^20)(hcf:aG (fi r q) [102]=r)(hci:aG (fi r q) [105]=q)(hr:r<2^10)(hq:q<2^10)(Zz:(fi r q !=fi r q)=false)(hle:(fi r q).length=s)(hs:s<2^20)(hG:bo w Z V x p d ZN p')(nx:NX λC U O=>Ok (W2 w Z V) 8 (l6 (Pw w Z V) G fr Z7 Z6 Z8 a b TO L DL S DS R RC KP KT PL PB CT t J x u p' (U 0) (U 1) (ln+d) y1 (U 2) y3 y4 y5 y6 y7 y8 y9 Z3 Z4 v1 v2 v3 (U 3) es ep z1 z2 z3 z4 z5 z6 z7 z8 z9 w3 w4 w5 w6 w7 ZN (U 4) (U 5) (O 0) (U 6) (U 7) g0 (C 0) r0 s0 r s k0 l0 (U 8) (U 9) p2 ln2 l)):Ok (W2 w Z V) 8 (mZ (Pw w Z V) G fr Z7 Z6 Z8 a b TO L DL S DS R RC KP KT PL PB CT t J x u p y e ln y1 y2 y3 y4 y5 y6 y7 y8 y9 Z3 Z4 v1 v2 v3 el es ep z1 z2 z3 z4 z5 z6 z7 z8 z9 w3 w4 w5 w6 w7 tok ut zp vp ef et g0 r0 s0 k0 l0 p2 ln2 ((r,s)::l)):=
 c9 nx 17 (λN=>[(N.t 23),(N.t 24),(N.t 21),(N.t 22),(N.t 20),zp,ef,(N.t 19),(N.t 17),(N.t 18)]) (λN=>[(.str (mS (fi r q)) (N.t 5))]) j1 140
 (dj G tok ut (.f [] (λN=>cU G tok ut)::.i [178]::.f [14,15,16] (λN=>tcA (Pw w Z V) G "str_ascii_iterator" (N.r 14) (N.r 15) (N.r 16) fr tok ut 0 [] 0 [] 0 (tok).length (a8 tok))::.i [180,180,180]::.f [15] (λN=>cX G (N.r 15) (a8 tok) (N.z 0) (N.t 1) (N.t 2) (fi r q))::(dl G r q s (.f [1] (λN=>am G TO [(.ref g0)] et (.ref (N.r 17)))::(dk w Z V G L DL S DS R RC KP KT PL PB CT t J x u p y e ln y1 y2 y3 y4 y5 y6 y7 y8 y9 Z3 Z4 v1 v2 v3 el es ep ZN p' d [])))))
 (sE (sg1 (by kernel_rfl)) Z) (λN=>⟨okU (dO hw),okU (dJ hT),okU (pQ Zl h0 hl),okU (dv hj hz),okU (aK hcf),okU (aC hr),okU (aK hci),okU (aC hq),okU (aS),okU (dO Zz),okU (aK hcf),okU (b7 hle hs),okU (ao),okU (by apply hG),trivial⟩) (λN C U O=>db)
theorem zy(hw:(tok !=[])=true)(hT:tok.all (λc=>Nat.blt c 128)=false)(Zl:∀c∈tok,c∈bs)(h0:0<tok.length)(hl:tok.length<2^20)(hj:(a8 tok).flatten=fi r q)(hz:(fi r q).length<2^20)(hcf:aG (fi r q) [102]=r)(hci:aG (fi r q) [105]=q)(hr:r<2^10)(hq:q<2^10)(Zz:(fi r q !=fi r q)=false)(hle:(fi r q).length=s)(hs:s<2^20)(hG:bo w Z V x p d ZN p')(nx:NX λC U O=>Ok (W2 w Z V) 8 (l6 (Pw w Z V) G fr Z7 Z6 Z8 a b TO L DL S DS R RC KP KT PL PB CT t J x u p' (U 0) (U 1) (ln+d) y1 (U 2) y3 y4 y5 y6 y7 y8 y9 Z3 Z4 v1 v2 v3 (U 3) es ep z1 z2 z3 z4 z5 z6 z7 z8 z9 w3 w4 w5 w6 w7 ZN (U 4) (U 5) (O 0) (U 6) (U 7) g0 (C 0) r0 s0 r s k0 l0 (U 8) (U 9) p2 ln2 l)):Ok (W2 w Z V) 8 (mZ (Pw w Z V) G fr Z7 Z6 Z8 a b TO L DL S DS R RC KP KT PL PB CT t J x u p y e ln y1 y2 y3 y4 y5 y6 y7 y8 y9 Z3 Z4 v1 v2 v3 el es ep z1 z2 z3 z4 z5 z6 z7 z8 z9 w3 w4 w5 w6 w7 tok ut zp vp ef et g0 r0 s0 k0 l0 p2 ln2 ((r,s)::l)):=
 c9 nx 17 (λN=>[(N.t 23),(N.t 24),(N.t 21),(N.t 22),(N.t 20),zp,ef,(N.t 19),(N.t 17),(N.t 18)]) (λN=>[(.str (mS (fi r q)) (N.t 5))]) j1 140
 (dj G tok ut (.f [] (λN=>cT G tok ut)::.i [178]::.f [14,15,16] (λN=>tcA (Pw w Z V) G "str_iterator" (N.r 14) (N.r 15) (N.r 16) fr tok ut 0 [] 0 [] 0 (tok).length (a8 tok))::.i [180,180,180]::.f [15] (λN=>cX G (N.r 15) (a8 tok) (N.z 0) (N.t 1) (N.t 2) (fi r q))::(dl G r q s (.f [1] (λN=>am G TO [(.ref g0)] et (.ref (N.r 17)))::(dk w Z V G L DL S DS R RC KP KT PL PB CT t J x u p y e ln y1 y2 y3 y4 y5 y6 y7 y8 y9 Z3 Z4 v1 v2 v3 el es ep ZN p' d [])))))
 (sE (sg1 (by kernel_rfl)) Z) (λN=>⟨okU (dO hw),okU (dI hT),okU (pP Zl h0 hl),okU (dv hj hz),okU (aK hcf),okU (aC hr),okU (aK hci),okU (aC hq),okU (aS),okU (dO Zz),okU (aK hcf),okU (b7 hle hs),okU (ao),okU (by apply hG),trivial⟩) (λN C U O=>db)
theorem rA:Ok (W2 w Z V) 8 (l6 (Pw w Z V) G fr Z7 Z6 Z8 a b TO L DL S DS R RC KP KT PL PB CT t J x u p y e ln y1 y2 y3 y4 y5 y6 y7 y8 y9 Z3 Z4 v1 v2 v3 el es ep z1 z2 z3 z4 z5 z6 z7 z8 z9 w3 w4 w5 w6 w7 [] ut zp vp ef et g0 g1 r0 s0 r1 s1 k0 l0 k1 l1 p ln []):=
 okC [] 12 (λN=>[ut,zp,ef,et,y2,el,y,e]) (λN=>[vp])
 (.i [164]::[])
 (sE (sg1 (by kernel_rfl)) Z) (λN=>trivial)
theorem zx(hw:(tok !=[])=true)(hT:tok.all (λc=>Nat.blt c 128)=true)(Zl:∀c∈tok,c∈bs)(h0:0<tok.length)(hl:tok.length<2^20)(hj:(a8 tok).flatten=fi r q)(hz:(fi r q).length<2^20)(hcf:aG (fi r q) [102]=r)(hci:aG (fi r q) [105]=q)(hr:r<2^10)(hq:q<2^10)(Zz:(fi r q !=fi r q)=false)(hle:(fi r q).length=s)(hs:s<2^20)(hG:bo w Z V x p d ZN p')(nx:NX λC U O=>Ok (W2 w Z V) 8 (l5 (Pw w Z V) G fr Z7 Z6 Z8 a b TO L DL S DS R RC KP KT PL PB CT t J x u p' (U 0) (U 1) (ln+d) y1 (U 2) y3 y4 y5 y6 y7 y8 y9 Z3 Z4 v1 v2 v3 (U 3) es ep z1 z2 z3 z4 z5 z6 z7 z8 z9 w3 w4 w5 w6 w7 ZN (U 4) (U 5) (O 0) (U 6) (U 7) g0 g1 (C 0) r0 s0 r1 s1 r s k0 l0 k1 l1 (U 8) (U 9) p2 ln2 l)):Ok (W2 w Z V) 8 (l6 (Pw w Z V) G fr Z7 Z6 Z8 a b TO L DL S DS R RC KP KT PL PB CT t J x u p y e ln y1 y2 y3 y4 y5 y6 y7 y8 y9 Z3 Z4 v1 v2 v3 el es ep z1 z2 z3 z4 z5 z6 z7 z8 z9 w3 w4 w5 w6 w7 tok ut zp vp ef et g0 g1 r0 s0 r1 s1 k0 l0 k1 l1 p2 ln2 ((r,s)::l)):=
 c9 nx 18 (λN=>[(N.t 23),(N.t 24),(N.t 21),(N.t 22),(N.t 20),zp,ef,(N.t 19),(N.t 17),(N.t 18)]) (λN=>[(.str (mS (fi r q)) (N.t 5))]) j1 140
 (dj G tok ut (.f [] (λN=>cU G tok ut)::.i [179]::.f [15,16,17] (λN=>tcA (Pw w Z V) G "str_ascii_iterator" (N.r 15) (N.r 16) (N.r 17) fr tok ut 0 [] 0 [] 0 (tok).length (a8 tok))::.i [181,181,181]::.f [16] (λN=>cX G (N.r 16) (a8 tok) (N.z 0) (N.t 1) (N.t 2) (fi r q))::(dl G r q s (.f [1] (λN=>am G TO [(.ref g0),(.ref g1)] et (.ref (N.r 18)))::(dk w Z V G L DL S DS R RC KP KT PL PB CT t J x u p y e ln y1 y2 y3 y4 y5 y6 y7 y8 y9 Z3 Z4 v1 v2 v3 el es ep ZN p' d [])))))
 (sE (sg1 (by kernel_rfl)) Z) (λN=>⟨okU (dO hw),okU (dJ hT),okU (pQ Zl h0 hl),okU (dv hj hz),okU (aK hcf),okU (aC hr),okU (aK hci),okU (aC hq),okU (aS),okU (dO Zz),okU (aK hcf),okU (b7 hle hs),okU (ao),okU (by apply hG),trivial⟩) (λN C U O=>db)
theorem zw(hw:(tok !=[])=true)(hT:tok.all (λc=>Nat.blt c 128)=false)(Zl:∀c∈tok,c∈bs)(h0:0<tok.length)(hl:tok.length<2^20)(hj:(a8 tok).flatten=fi r q)(hz:(fi r q).length<2^20)(hcf:aG (fi r q) [102]=r)(hci:aG (fi r q) [105]=q)(hr:r<2^10)(hq:q<2^10)(Zz:(fi r q !=fi r q)=false)(hle:(fi r q).length=s)(hs:s<2^20)(hG:bo w Z V x p d ZN p')(nx:NX λC U O=>Ok (W2 w Z V) 8 (l5 (Pw w Z V) G fr Z7 Z6 Z8 a b TO L DL S DS R RC KP KT PL PB CT t J x u p' (U 0) (U 1) (ln+d) y1 (U 2) y3 y4 y5 y6 y7 y8 y9 Z3 Z4 v1 v2 v3 (U 3) es ep z1 z2 z3 z4 z5 z6 z7 z8 z9 w3 w4 w5 w6 w7 ZN (U 4) (U 5) (O 0) (U 6) (U 7) g0 g1 (C 0) r0 s0 r1 s1 r s k0 l0 k1 l1 (U 8) (U 9) p2 ln2 l)):Ok (W2 w Z V) 8 (l6 (Pw w Z V) G fr Z7 Z6 Z8 a b TO L DL S DS R RC KP KT PL PB CT t J x u p y e ln y1 y2 y3 y4 y5 y6 y7 y8 y9 Z3 Z4 v1 v2 v3 el es ep z1 z2 z3 z4 z5 z6 z7 z8 z9 w3 w4 w5 w6 w7 tok ut zp vp ef et g0 g1 r0 s0 r1 s1 k0 l0 k1 l1 p2 ln2 ((r,s)::l)):=
 c9 nx 18 (λN=>[(N.t 23),(N.t 24),(N.t 21),(N.t 22),(N.t 20),zp,ef,(N.t 19),(N.t 17),(N.t 18)]) (λN=>[(.str (mS (fi r q)) (N.t 5))]) j1 140
 (dj G tok ut (.f [] (λN=>cT G tok ut)::.i [179]::.f [15,16,17] (λN=>tcA (Pw w Z V) G "str_iterator" (N.r 15) (N.r 16) (N.r 17) fr tok ut 0 [] 0 [] 0 (tok).length (a8 tok))::.i [181,181,181]::.f [16] (λN=>cX G (N.r 16) (a8 tok) (N.z 0) (N.t 1) (N.t 2) (fi r q))::(dl G r q s (.f [1] (λN=>am G TO [(.ref g0),(.ref g1)] et (.ref (N.r 18)))::(dk w Z V G L DL S DS R RC KP KT PL PB CT t J x u p y e ln y1 y2 y3 y4 y5 y6 y7 y8 y9 Z3 Z4 v1 v2 v3 el es ep ZN p' d [])))))
 (sE (sg1 (by kernel_rfl)) Z) (λN=>⟨okU (dO hw),okU (dI hT),okU (pP Zl h0 hl),okU (dv hj hz),okU (aK hcf),okU (aC hr),okU (aK hci),okU (aC hq),okU (aS),okU (dO Zz),okU (aK hcf),okU (b7 hle hs),okU (ao),okU (by apply hG),trivial⟩) (λN C U O=>db)
theorem rz:Ok (W2 w Z V) 8 (l5 (Pw w Z V) G fr Z7 Z6 Z8 a b TO L DL S DS R RC KP KT PL PB CT t J x u p y e ln y1 y2 y3 y4 y5 y6 y7 y8 y9 Z3 Z4 v1 v2 v3 el es ep z1 z2 z3 z4 z5 z6 z7 z8 z9 w3 w4 w5 w6 w7 [] ut zp vp ef et g0 g1 g2 r0 s0 r1 s1 r2 s2 k0 l0 k1 l1 k2 l2 p ln []):=
 okC [] 12 (λN=>[ut,zp,ef,et,y2,el,y,e]) (λN=>[vp])
 (.i [164]::[])
 (sE (sg1 (by kernel_rfl)) Z) (λN=>trivial)
theorem zv(hw:(tok !=[])=true)(hT:tok.all (λc=>Nat.blt c 128)=true)(Zl:∀c∈tok,c∈bs)(h0:0<tok.length)(hl:tok.length<2^20)(hj:(a8 tok).flatten=fi r q)(hz:(fi r q).length<2^20)(hcf:aG (fi r q) [102]=r)(hci:aG (fi r q) [105]=q)(hr:r<2^10)(hq:q<2^10)(Zz:(fi r q !=fi r q)=false)(hle:(fi r q).length=s)(hs:s<2^20)(hG:bo w Z V x p d ZN p')(nx:NX λC U O=>Ok (W2 w Z V) 8 (pd (Pw w Z V) G fr Z7 Z6 Z8 a b TO L DL S DS R RC KP KT PL PB CT t J x u p' (U 0) (U 1) (ln+d) y1 (U 2) y3 y4 y5 y6 y7 y8 y9 Z3 Z4 v1 v2 v3 (U 3) es ep z1 z2 z3 z4 z5 z6 z7 z8 z9 w3 w4 w5 w6 w7 ZN (U 4) (U 5) (O 0) (U 6) (U 7) g0 g1 g2 (C 0) r0 s0 r1 s1 r2 s2 r s k0 l0 k1 l1 k2 l2 (U 8) (U 9) p2 ln2 l)):Ok (W2 w Z V) 8 (l5 (Pw w Z V) G fr Z7 Z6 Z8 a b TO L DL S DS R RC KP KT PL PB CT t J x u p y e ln y1 y2 y3 y4 y5 y6 y7 y8 y9 Z3 Z4 v1 v2 v3 el es ep z1 z2 z3 z4 z5 z6 z7 z8 z9 w3 w4 w5 w6 w7 tok ut zp vp ef et g0 g1 g2 r0 s0 r1 s1 r2 s2 k0 l0 k1 l1 k2 l2 p2 ln2 ((r,s)::l)):=
 c9 nx 19 (λN=>[(N.t 23),(N.t 24),(N.t 21),(N.t 22),(N.t 20),zp,ef,(N.t 19),(N.t 17),(N.t 18)]) (λN=>[(.str (mS (fi r q)) (N.t 5))]) j1 140
 (dj G tok ut (.f [] (λN=>cU G tok ut)::.i [180]::.f [16,17,18] (λN=>tcA (Pw w Z V) G "str_ascii_iterator" (N.r 16) (N.r 17) (N.r 18) fr tok ut 0 [] 0 [] 0 (tok).length (a8 tok))::.i [182,182,182]::.f [17] (λN=>cX G (N.r 17) (a8 tok) (N.z 0) (N.t 1) (N.t 2) (fi r q))::(dl G r q s (.f [1] (λN=>am G TO [(.ref g0),(.ref g1),(.ref g2)] et (.ref (N.r 19)))::(dk w Z V G L DL S DS R RC KP KT PL PB CT t J x u p y e ln y1 y2 y3 y4 y5 y6 y7 y8 y9 Z3 Z4 v1 v2 v3 el es ep ZN p' d [])))))
 (sE (sg1 (by kernel_rfl)) Z) (λN=>⟨okU (dO hw),okU (dJ hT),okU (pQ Zl h0 hl),okU (dv hj hz),okU (aK hcf),okU (aC hr),okU (aK hci),okU (aC hq),okU (aS),okU (dO Zz),okU (aK hcf),okU (b7 hle hs),okU (ao),okU (by apply hG),trivial⟩) (λN C U O=>db)
theorem zu(hw:(tok !=[])=true)(hT:tok.all (λc=>Nat.blt c 128)=false)(Zl:∀c∈tok,c∈bs)(h0:0<tok.length)(hl:tok.length<2^20)(hj:(a8 tok).flatten=fi r q)(hz:(fi r q).length<2^20)(hcf:aG (fi r q) [102]=r)(hci:aG (fi r q) [105]=q)(hr:r<2^10)(hq:q<2^10)(Zz:(fi r q !=fi r q)=false)(hle:(fi r q).length=s)(hs:s<2^20)(hG:bo w Z V x p d ZN p')(nx:NX λC U O=>Ok (W2 w Z V) 8 (pd (Pw w Z V) G fr Z7 Z6 Z8 a b TO L DL S DS R RC KP KT PL PB CT t J x u p' (U 0) (U 1) (ln+d) y1 (U 2) y3 y4 y5 y6 y7 y8 y9 Z3 Z4 v1 v2 v3 (U 3) es ep z1 z2 z3 z4 z5 z6 z7 z8 z9 w3 w4 w5 w6 w7 ZN (U 4) (U 5) (O 0) (U 6) (U 7) g0 g1 g2 (C 0) r0 s0 r1 s1 r2 s2 r s k0 l0 k1 l1 k2 l2 (U 8) (U 9) p2 ln2 l)):Ok (W2 w Z V) 8 (l5 (Pw w Z V) G fr Z7 Z6 Z8 a b TO L DL S DS R RC KP KT PL PB CT t J x u p y e ln y1 y2 y3 y4 y5 y6 y7 y8 y9 Z3 Z4 v1 v2 v3 el es ep z1 z2 z3 z4 z5 z6 z7 z8 z9 w3 w4 w5 w6 w7 tok ut zp vp ef et g0 g1 g2 r0 s0 r1 s1 r2 s2 k0 l0 k1 l1 k2 l2 p2 ln2 ((r,s)::l)):=
 c9 nx 19 (λN=>[(N.t 23),(N.t 24),(N.t 21),(N.t 22),(N.t 20),zp,ef,(N.t 19),(N.t 17),(N.t 18)]) (λN=>[(.str (mS (fi r q)) (N.t 5))]) j1 140
 (dj G tok ut (.f [] (λN=>cT G tok ut)::.i [180]::.f [16,17,18] (λN=>tcA (Pw w Z V) G "str_iterator" (N.r 16) (N.r 17) (N.r 18) fr tok ut 0 [] 0 [] 0 (tok).length (a8 tok))::.i [182,182,182]::.f [17] (λN=>cX G (N.r 17) (a8 tok) (N.z 0) (N.t 1) (N.t 2) (fi r q))::(dl G r q s (.f [1] (λN=>am G TO [(.ref g0),(.ref g1),(.ref g2)] et (.ref (N.r 19)))::(dk w Z V G L DL S DS R RC KP KT PL PB CT t J x u p y e ln y1 y2 y3 y4 y5 y6 y7 y8 y9 Z3 Z4 v1 v2 v3 el es ep ZN p' d [])))))
 (sE (sg1 (by kernel_rfl)) Z) (λN=>⟨okU (dO hw),okU (dI hT),okU (pP Zl h0 hl),okU (dv hj hz),okU (aK hcf),okU (aC hr),okU (aK hci),okU (aC hq),okU (aS),okU (dO Zz),okU (aK hcf),okU (b7 hle hs),okU (ao),okU (by apply hG),trivial⟩) (λN C U O=>db)
theorem ry:Ok (W2 w Z V) 8 (pd (Pw w Z V) G fr Z7 Z6 Z8 a b TO L DL S DS R RC KP KT PL PB CT t J x u p y e ln y1 y2 y3 y4 y5 y6 y7 y8 y9 Z3 Z4 v1 v2 v3 el es ep z1 z2 z3 z4 z5 z6 z7 z8 z9 w3 w4 w5 w6 w7 [] ut zp vp ef et g0 g1 g2 g3 r0 s0 r1 s1 r2 s2 r3 s3 k0 l0 k1 l1 k2 l2 k3 l3 p ln []):=
 okC [] 12 (λN=>[ut,zp,ef,et,y2,el,y,e]) (λN=>[vp])
 (.i [164]::[])
 (sE (sg1 (by kernel_rfl)) Z) (λN=>trivial)
end
end
section
open PySem PySem.W PySem.W.X PySem.Builtin
noncomputable def f8:Stmt→PySem.Expr
 | .While t _ _ _=>t
 | _=>noE
noncomputable def gV:PySem.Expr→PySem.Expr
 | .Compare l _ _ _=>l
 | _=>noE
noncomputable abbrev liK(a:Addr)(k:Nat):Obj:=⟨.type "list_iterator",none,.fields ⟨[.ref a,.int (.ofNat k) 0]⟩,⟨[]⟩⟩
noncomputable def fsD(P:Params)(y1 y2:Tok)(v1 v2:Value):List DictEntry:=[en P bS y1 v1,en P cE y2 v2]
noncomputable def plE:PySem.Expr:=gV (f8 (aE 10))
noncomputable def jP(D fa:Addr)(Z7:Addr):Env:=g7 (stA 16) plE 162 fa D [(mS eC,Z7)]
noncomputable def plO(P:Params)(RL:Addr)(k:Nat)(vs:List Value)(e0:Nat)(kv:List DictEntry)(e1:Nat)(p:Nat)(up:Tok)(xs:List Value)(e2:Nat)(T0 T1 T2 T3:Option Obj):List (Option Obj):=
 [some (liK RL k),some (lO vs e0),some (diO kv e1),some (ceO (some (.int (.ofNat p) up))),some (lO xs e2),T0,T1,T2,T3]
noncomputable def plF(P:Params)(ns:List Nat):FT:=λ_ U O=>⟨.ok .next,[(0,⟨.type "list_iterator",none,.fields ⟨[O 0,O 1]⟩,⟨[]⟩⟩),(1,lO (qIL ns (O 2)) (U 0)),(2,diO (fsD P (U 1) (U 2) (O 3) (O 4)) (U 3))],[]⟩
noncomputable def plS(P:Params)(G:GP)(it Z9 D fa RL Z7 g0 g1 g2 g3:Addr)(k:Nat)(vs:List Value)(e0:Nat)(kv:List DictEntry)(e1:Nat)(p:Nat)(up:Tok)(xs:List Value)(e2:Nat)(T0 T1 T2 T3:Option Obj)(ns:List Nat):ac:=
 sd (.compLoop plE 0 (.ref it) (.ref Z9) (jP D fa Z7)) (aa [it,Z9,D,Z7,RL,g0,g1,g2,g3]) (plO P RL k vs e0 kv e1 p up xs e2 T0 T1 T2 T3) G G 0 4 5 (plF P ns)
noncomputable def plA(P:Params)(G:GP)(it Z9 D fa RL Z7 g0 g1 g2 g3:Addr)(k:Nat)(vs:List Value)(e0:Nat)(kv:List DictEntry)(e1:Nat)(p:Nat)(up:Tok)(xs:List Value)(e2:Nat)(T0 T1 T2 T3:Option Obj)(ns:List Nat):ac:=
 sd (.compStart plE 0 (.ref it) (.ref Z9) (jP D fa Z7)) (aa [it,Z9,D,Z7,RL,g0,g1,g2,g3]) (plO P RL k vs e0 kv e1 p up xs e2 T0 T1 T2 T3) G G 0 4 5 (plF P ns)
end
section
open PySem PySem.W PySem.W.X PySem.Builtin
section
variable{w:World}{Z V:Bool}{G:GP}{it Z9 D fa RL Z7 g0 g1 g2 g3:Addr}{e0 e1 p:Nat}{up:Tok}{xs:List Value}{e2:Nat}{T0 T1 T2 T3:Option Obj}{ns:List Nat}{v v1 v2:Value}{z1 z2:Tok}{r0 s0:Nat}{k0 l0:Tok}{m:Nat}{vs:List Value}{r1 s1:Nat}{k1 l1:Tok}{r2 s2:Nat}{k2 l2:Tok}{r3 s3:Nat}{k3 l3:Tok}
theorem sO(nx:NX λC U O=>Ok (W2 w Z V) 4 (plS (Pw w Z V) G it Z9 D fa RL Z7 g0 g1 g2 g3 0 [] e0 [] e1 p up xs e2 T0 T1 T2 T3 ns)):Ok (W2 w Z V) 4 (plA (Pw w Z V) G it Z9 D fa RL Z7 g0 g1 g2 g3 0 [] e0 [] e1 p up xs e2 T0 T1 T2 T3 ns):=
 aj nx (λN=>List.map N.r []) (λN=>[]) (λN=>[]) 15
 (.i (pqB V)::[])
 (sF (sg2 (by kernel_rfl)) Z V) (λN=>trivial)
theorem sR:Ok (W2 w Z V) 4 (plS (Pw w Z V) G it Z9 D fa RL Z7 g0 g1 g2 g3 2 (qIL ns v) e0 (fsD (Pw w Z V) z1 z2 v1 v2) e1 p up [.ref g0,.ref g1] e2 T0 T1 T2 T3 ns):=
 okC [] 20 (λN=>[e0,z1,z2,e1]) (λN=>[.none,(.int 2 0),v,v1,v2])
 (.i (ub 8 0xaea4a4a8a4a4a4a4)::[])
 (λ_ _ _=>by kernel_rfl) (λN=>trivial)
theorem sQ:Ok (W2 w Z V) 4 (plS (Pw w Z V) G it Z9 D fa RL Z7 g0 g1 g2 g3 3 (qIL ns v) e0 (fsD (Pw w Z V) z1 z2 v1 v2) e1 p up [.ref g0,.ref g1,.ref g2] e2 T0 T1 T2 T3 ns):=
 okC [] 20 (λN=>[e0,z1,z2,e1]) (λN=>[.none,(.int 3 0),v,v1,v2])
 (.i (ub 8 0xaea4a4a8a4a4a4a4)::[])
 (λ_ _ _=>by kernel_rfl) (λN=>trivial)
theorem sP:Ok (W2 w Z V) 4 (plS (Pw w Z V) G it Z9 D fa RL Z7 g0 g1 g2 g3 4 (qIL ns v) e0 (fsD (Pw w Z V) z1 z2 v1 v2) e1 p up [.ref g0,.ref g1,.ref g2,.ref g3] e2 T0 T1 T2 T3 ns):=
 okC [] 20 (λN=>[e0,z1,z2,e1]) (λN=>[.none,(.int 4 0),v,v1,v2])
 (.i (ub 8 0xaea4a4a8a4a4a4a4)::[])
 (λ_ _ _=>by kernel_rfl) (λN=>trivial)
theorem zX(hm:Int.fmod (.ofNat p) (.ofNat s0)=.ofNat m)(hs:0<s0)(hb:((.ofNat m:Int) !=0)=false)(nx:NX λC U O=>Ok (W2 w Z V) 4 (plS (Pw w Z V) G it Z9 D fa RL Z7 g0 g1 g2 g3 1 [] (U 2) (fsD (Pw w Z V) (U 0) (U 1) (O 0) (O 1)) (U 3) p up (.ref g0::xs) e2 (some (tuO [.int (.ofNat r0) k0,.int (.ofNat s0) l0])) T1 T2 T3 ns)):Ok (W2 w Z V) 4 (plS (Pw w Z V) G it Z9 D fa RL Z7 g0 g1 g2 g3 0 [] e0 [] e1 p up (.ref g0::xs) e2 (some (tuO [.int (.ofNat r0) k0,.int (.ofNat s0) l0])) T1 T2 T3 ns):=
 aj nx (λN=>List.map N.r []) (λN=>[(N.t 0),(N.t 1),e0,((e1+1)+1)]) (λN=>[(.int (.ofNat r0) k0),(.int (.ofNat s0) l0)]) 86
 (.i (ub 41 0xa6a7a6a6a6a6afadada9adadadadadada9adadadadadada9adadadadada9a9a9a9a4a4a4a8a4a4a4a4)::.f [] (λN=>aZ G (.ofNat p) s0 up l0 (.ofNat m))::.f [] (λN=>cNe G (.ofNat m) 0 (N.t 2) (N.t 3) false)::[])
 (sE (sg1 (by kernel_rfl)) Z) (λN=>⟨okU (aH hm hs),okU (kNe hb),trivial⟩)
theorem zW(hm:Int.fmod (.ofNat p) (.ofNat s0)=.ofNat m)(hs:0<s0)(hb:((.ofNat m:Int) !=0)=true)(nx:NX λC U O=>Ok (W2 w Z V) 4 (plS (Pw w Z V) G it Z9 D fa RL Z7 g0 g1 g2 g3 1 [.int (.ofNat s0) l0] (U 2) (fsD (Pw w Z V) (U 0) (U 1) (O 0) (O 1)) (U 3) p up (.ref g0::xs) e2 (some (tuO [.int (.ofNat r0) k0,.int (.ofNat s0) l0])) T1 T2 T3 ns)):Ok (W2 w Z V) 4 (plS (Pw w Z V) G it Z9 D fa RL Z7 g0 g1 g2 g3 0 [] e0 [] e1 p up (.ref g0::xs) e2 (some (tuO [.int (.ofNat r0) k0,.int (.ofNat s0) l0])) T1 T2 T3 ns):=
 aj nx (λN=>List.map N.r []) (λN=>[(N.t 0),(N.t 1),(N.t 4),((e1+1)+1)]) (λN=>[(.int (.ofNat r0) k0),(.int (.ofNat s0) l0)]) 89
 (.i (ub 41 0xa6a7a6a6a6a6afadada9adadadadadada9adadadadadada9adadadadada9a9a9a9a4a4a4a8a4a4a4a4)::.f [] (λN=>aZ G (.ofNat p) s0 up l0 (.ofNat m))::.f [] (λN=>cNe G (.ofNat m) 0 (N.t 2) (N.t 3) true)::.i [166]::.f [1] (λN=>am G Z9 [] e0 (.int (.ofNat s0) l0))::[])
 (sE (sg1 (by kernel_rfl)) Z) (λN=>⟨okU (aH hm hs),okU (kNe hb),okU (ao),trivial⟩)
theorem zV(hv:vs.length<2^20)(hm:Int.fmod (.ofNat p) (.ofNat s1)=.ofNat m)(hs:0<s1)(hb:((.ofNat m:Int) !=0)=false)(nx:NX λC U O=>Ok (W2 w Z V) 4 (plS (Pw w Z V) G it Z9 D fa RL Z7 g0 g1 g2 g3 2 vs (U 2) (fsD (Pw w Z V) (U 0) (U 1) (O 0) (O 1)) (U 3) p up (.ref g0::.ref g1::xs) e2 T0 (some (tuO [.int (.ofNat r1) k1,.int (.ofNat s1) l1])) T2 T3 ns)):Ok (W2 w Z V) 4 (plS (Pw w Z V) G it Z9 D fa RL Z7 g0 g1 g2 g3 1 vs e0 (fsD (Pw w Z V) z1 z2 v1 v2) e1 p up (.ref g0::.ref g1::xs) e2 T0 (some (tuO [.int (.ofNat r1) k1,.int (.ofNat s1) l1])) T2 T3 ns):=
 aj nx (λN=>List.map N.r []) (λN=>[z1,z2,e0,e1]) (λN=>[(.int (.ofNat r1) k1),(.int (.ofNat s1) l1)]) 86
 (.i (ub 41 0xa6a7a6a6a6a6afadadaaadadadadadadaaadadadadadadaaadadadadadaaaaaaaaa4a4a4a8a4a4a4a4)::.f [] (λN=>aZ G (.ofNat p) s1 up l1 (.ofNat m))::.f [] (λN=>cNe G (.ofNat m) 0 (N.t 2) (N.t 3) false)::[])
 (sE (sg1 (by kernel_rfl)) Z) (λN=>⟨okU (aH hm hs),okU (kNe hb),trivial⟩)
theorem zU(hv:vs.length<2^20)(hm:Int.fmod (.ofNat p) (.ofNat s1)=.ofNat m)(hs:0<s1)(hb:((.ofNat m:Int) !=0)=true)(nx:NX λC U O=>Ok (W2 w Z V) 4 (plS (Pw w Z V) G it Z9 D fa RL Z7 g0 g1 g2 g3 2 (vs++[.int (.ofNat s1) l1]) (U 2) (fsD (Pw w Z V) (U 0) (U 1) (O 0) (O 1)) (U 3) p up (.ref g0::.ref g1::xs) e2 T0 (some (tuO [.int (.ofNat r1) k1,.int (.ofNat s1) l1])) T2 T3 ns)):Ok (W2 w Z V) 4 (plS (Pw w Z V) G it Z9 D fa RL Z7 g0 g1 g2 g3 1 vs e0 (fsD (Pw w Z V) z1 z2 v1 v2) e1 p up (.ref g0::.ref g1::xs) e2 T0 (some (tuO [.int (.ofNat r1) k1,.int (.ofNat s1) l1])) T2 T3 ns):=
 aj nx (λN=>List.map N.r []) (λN=>[z1,z2,(N.t 4),e1]) (λN=>[(.int (.ofNat r1) k1),(.int (.ofNat s1) l1)]) 89
 (.i (ub 41 0xa6a7a6a6a6a6afadadaaadadadadadadaaadadadadadadaaadadadadadaaaaaaaaa4a4a4a8a4a4a4a4)::.f [] (λN=>aZ G (.ofNat p) s1 up l1 (.ofNat m))::.f [] (λN=>cNe G (.ofNat m) 0 (N.t 2) (N.t 3) true)::.i [166]::.f [1] (λN=>am G Z9 vs e0 (.int (.ofNat s1) l1))::[])
 (sE (sg1 (by kernel_rfl)) Z) (λN=>⟨okU (aH hm hs),okU (kNe hb),okU (ao hv),trivial⟩)
theorem zT(hv:vs.length<2^20)(hm:Int.fmod (.ofNat p) (.ofNat s2)=.ofNat m)(hs:0<s2)(hb:((.ofNat m:Int) !=0)=false)(nx:NX λC U O=>Ok (W2 w Z V) 4 (plS (Pw w Z V) G it Z9 D fa RL Z7 g0 g1 g2 g3 3 vs (U 2) (fsD (Pw w Z V) (U 0) (U 1) (O 0) (O 1)) (U 3) p up (.ref g0::.ref g1::.ref g2::xs) e2 T0 T1 (some (tuO [.int (.ofNat r2) k2,.int (.ofNat s2) l2])) T3 ns)):Ok (W2 w Z V) 4 (plS (Pw w Z V) G it Z9 D fa RL Z7 g0 g1 g2 g3 2 vs e0 (fsD (Pw w Z V) z1 z2 v1 v2) e1 p up (.ref g0::.ref g1::.ref g2::xs) e2 T0 T1 (some (tuO [.int (.ofNat r2) k2,.int (.ofNat s2) l2])) T3 ns):=
 aj nx (λN=>List.map N.r []) (λN=>[z1,z2,e0,e1]) (λN=>[(.int (.ofNat r2) k2),(.int (.ofNat s2) l2)]) 86
 (.i (ub 41 0xa6a7a6a6a6a6afadadabadadadadadadabadadadadadadabadadadadadababababa4a4a4a8a4a4a4a4)::.f [] (λN=>aZ G (.ofNat p) s2 up l2 (.ofNat m))::.f [] (λN=>cNe G (.ofNat m) 0 (N.t 2) (N.t 3) false)::[])
 (sE (sg1 (by kernel_rfl)) Z) (λN=>⟨okU (aH hm hs),okU (kNe hb),trivial⟩)
theorem zS(hv:vs.length<2^20)(hm:Int.fmod (.ofNat p) (.ofNat s2)=.ofNat m)(hs:0<s2)(hb:((.ofNat m:Int) !=0)=true)(nx:NX λC U O=>Ok (W2 w Z V) 4 (plS (Pw w Z V) G it Z9 D fa RL Z7 g0 g1 g2 g3 3 (vs++[.int (.ofNat s2) l2]) (U 2) (fsD (Pw w Z V) (U 0) (U 1) (O 0) (O 1)) (U 3) p up (.ref g0::.ref g1::.ref g2::xs) e2 T0 T1 (some (tuO [.int (.ofNat r2) k2,.int (.ofNat s2) l2])) T3 ns)):Ok (W2 w Z V) 4 (plS (Pw w Z V) G it Z9 D fa RL Z7 g0 g1 g2 g3 2 vs e0 (fsD (Pw w Z V) z1 z2 v1 v2) e1 p up (.ref g0::.ref g1::.ref g2::xs) e2 T0 T1 (some (tuO [.int (.ofNat r2) k2,.int (.ofNat s2) l2])) T3 ns):=
 aj nx (λN=>List.map N.r []) (λN=>[z1,z2,(N.t 4),e1]) (λN=>[(.int (.ofNat r2) k2),(.int (.ofNat s2) l2)]) 89
 (.i (ub 41 0xa6a7a6a6a6a6afadadabadadadadadadabadadadadadadabadadadadadababababa4a4a4a8a4a4a4a4)::.f [] (λN=>aZ G (.ofNat p) s2 up l2 (.ofNat m))::.f [] (λN=>cNe G (.ofNat m) 0 (N.t 2) (N.t 3) true)::.i [166]::.f [1] (λN=>am G Z9 vs e0 (.int (.ofNat s2) l2))::[])
 (sE (sg1 (by kernel_rfl)) Z) (λN=>⟨okU (aH hm hs),okU (kNe hb),okU (ao hv),trivial⟩)
theorem zR(hv:vs.length<2^20)(hm:Int.fmod (.ofNat p) (.ofNat s3)=.ofNat m)(hs:0<s3)(hb:((.ofNat m:Int) !=0)=false)(nx:NX λC U O=>Ok (W2 w Z V) 4 (plS (Pw w Z V) G it Z9 D fa RL Z7 g0 g1 g2 g3 4 vs (U 2) (fsD (Pw w Z V) (U 0) (U 1) (O 0) (O 1)) (U 3) p up (.ref g0::.ref g1::.ref g2::.ref g3::xs) e2 T0 T1 T2 (some (tuO [.int (.ofNat r3) k3,.int (.ofNat s3) l3])) ns)):Ok (W2 w Z V) 4 (plS (Pw w Z V) G it Z9 D fa RL Z7 g0 g1 g2 g3 3 vs e0 (fsD (Pw w Z V) z1 z2 v1 v2) e1 p up (.ref g0::.ref g1::.ref g2::.ref g3::xs) e2 T0 T1 T2 (some (tuO [.int (.ofNat r3) k3,.int (.ofNat s3) l3])) ns):=
 aj nx (λN=>List.map N.r []) (λN=>[z1,z2,e0,e1]) (λN=>[(.int (.ofNat r3) k3),(.int (.ofNat s3) l3)]) 86
 (.i (ub 41 0xa6a7a6a6a6a6afadadacadadadadadadacadadadadadadacadadadadadacacacaca4a4a4a8a4a4a4a4)::.f [] (λN=>aZ G (.ofNat p) s3 up l3 (.ofNat m))::.f [] (λN=>cNe G (.ofNat m) 0 (N.t 2) (N.t 3) false)::[])
 (sE (sg1 (by kernel_rfl)) Z) (λN=>⟨okU (aH hm hs),okU (kNe hb),trivial⟩)
theorem zQ(hv:vs.length<2^20)(hm:Int.fmod (.ofNat p) (.ofNat s3)=.ofNat m)(hs:0<s3)(hb:((.ofNat m:Int) !=0)=true)(nx:NX λC U O=>Ok (W2 w Z V) 4 (plS (Pw w Z V) G it Z9 D fa RL Z7 g0 g1 g2 g3 4 (vs++[.int (.ofNat s3) l3]) (U 2) (fsD (Pw w Z V) (U 0) (U 1) (O 0) (O 1)) (U 3) p up (.ref g0::.ref g1::.ref g2::.ref g3::xs) e2 T0 T1 T2 (some (tuO [.int (.ofNat r3) k3,.int (.ofNat s3) l3])) ns)):Ok (W2 w Z V) 4 (plS (Pw w Z V) G it Z9 D fa RL Z7 g0 g1 g2 g3 3 vs e0 (fsD (Pw w Z V) z1 z2 v1 v2) e1 p up (.ref g0::.ref g1::.ref g2::.ref g3::xs) e2 T0 T1 T2 (some (tuO [.int (.ofNat r3) k3,.int (.ofNat s3) l3])) ns):=
 aj nx (λN=>List.map N.r []) (λN=>[z1,z2,(N.t 4),e1]) (λN=>[(.int (.ofNat r3) k3),(.int (.ofNat s3) l3)]) 89
 (.i (ub 41 0xa6a7a6a6a6a6afadadacadadadadadadacadadadadadadacadadadadadacacacaca4a4a4a8a4a4a4a4)::.f [] (λN=>aZ G (.ofNat p) s3 up l3 (.ofNat m))::.f [] (λN=>cNe G (.ofNat m) 0 (N.t 2) (N.t 3) true)::.i [166]::.f [1] (λN=>am G Z9 vs e0 (.int (.ofNat s3) l3))::[])
 (sE (sg1 (by kernel_rfl)) Z) (λN=>⟨okU (aH hm hs),okU (kNe hb),okU (ao hv),trivial⟩)
end
variable{w:World}{G:GP}{Z V:Bool}{it Z9 fa RL Z7 g0 g1 g2 g3:Addr}{p e0 e1 e2 r0 s0 r1 s1 r2 s2:Nat}{up k0 l0 z1 z2 k1 l1 k2 l2:Tok}{v1 v2 v:Value}{nd:List Nat}
theorem dH{lv:Nat}{c:Code}{pre ex:List (Addr × Option Obj)}{G':GQ}{nn nt nz:Nat}{F:FT}(h:Ok w lv ⟨c,pre++ex,G,G',nn,nt,nz,F⟩)(hxx:ex.all (λx=>x.2.isNone)=true)(hu:∀C U O,∀p∈(F C U O).ups,p.1<pre.length):Ok w lv ⟨c,pre,G,G',nn,nt,nz,F⟩:=by
 have hx:∀x∈ex,x.2=none:=λx h=>by have:=List.all_eq_true.mp hxx x h;simpa using this
 intro A R h₀ gs d U os hA hG hB hP K
 have split:∀(q:Nat) (p:Addr × Option Obj) (o:Obj),(pre++ex)[q]? =some p→p.2=some o→pre[q]? =some p:=λq p o hq ho=>by
  by_cases Zy:q<pre.length
  ·rwa[List.getElem?_append_left Zy]at hq
  ·rw[List.getElem?_append_right (Nat.not_lt.mp Zy)]at hq
   rw[hx p (List.mem_of_getElem? hq)]at ho
   cases ho
 refine h A R h₀ gs d U os hA hG hB ⟨λp hp o ho=>?_,λq q' p p' o o' hq Zp ho ho' x=>hP.inj q q' p p' o o' (split q p o hq ho) (split q' p' o' Zp ho') ho ho' x⟩ λh' Zt ZM C ZB O Zq Q=>?_
 ·rcases List.mem_append.mp hp with hp | hp
  ·exact hP.get p hp o ho
  ·rw[hx p hp]at ho;cases ho
 ·refine K h' Zt ZM C ZB O Zq ⟨Q.base,Q.ge,λp hp x hx'=>?_,λb o e k=>?_,Q.new,Q.fresh,Q.ninj⟩
  ·exact Q.ups p hp x (by rw[List.getElem?_append_left (List.getElem?_eq_some_iff.mp hx').1];exact hx')
  ·exact Q.keep b o e λp hp x hx'=>k p hp x (by rwa[List.getElem?_append_left (hu _ _ _ p hp)]at hx')
noncomputable def dn(p s:Nat):List Nat:=if p%s=0 then[]else[s]
theorem cg(p s:Nat):(dn p s).length≤1:=by unfold dn;split<;>simp
theorem iT{D:Addr}{xs:List Value}{T1 T2 T3:Option Obj}{ns:List Nat}(hs:0<s0)
  (nx:∀(v':Value) (e0 e1:Nat) (z1 z2:Tok) (v1 v2:Value),Ok (W2 w Z V) 4 (plS (Pw w Z V) G it Z9 D fa RL Z7 g0 g1 g2 g3 1 (qIL (dn p s0) v') e0 (fsD (Pw w Z V) z1 z2 v1 v2) e1 p up (.ref g0::xs) e2 (some (tuO [.int (.ofNat r0) k0,.int (.ofNat s0) l0])) T1 T2 T3 ns)):
  Ok (W2 w Z V) 4 (plS (Pw w Z V) G it Z9 D fa RL Z7 g0 g1 g2 g3 0 [] e0 [] e1 p up (.ref g0::xs) e2 (some (tuO [.int (.ofNat r0) k0,.int (.ofNat s0) l0])) T1 T2 T3 ns):=by
 by_cases h:p%s0=0
 ·refine zX (m:=0) (by rw[←h];exact ba p s0) hs rfl λC U O=>?_
  have:=nx .none (U 2) (U 3) (U 0) (U 1) (O 0) (O 1)
  rw[show dn p s0=[]from if_pos h]at this
  first | rw[List.append_nil]at this | skip
  exact this
 ·refine zW (m:=p%s0) (ba p s0) hs (by rw[bne_iff_ne];exact λy=>h (Int.ofNat.inj y)) λC U O=>?_
  obtain⟨v',Zs⟩:=aI [] .none s0 l0
  have:=nx v' (U 2) (U 3) (U 0) (U 1) (O 0) (O 1)
  rw[show dn p s0=[s0]from if_neg h]at this
  have hv'':qIL [s0] v'=[.int (.ofNat s0) l0]:=Zs
  rw[hv'']at this
  exact this
theorem iS{D:Addr}(hnd:nd.length<2^10){p:Nat}{up:Tok}{xs:List Value}{e0 e1 e2:Nat}{T0 T2 T3:Option Obj}{ns:List Nat}{r1 s1:Nat}{k1 l1:Tok}(hs:0<s1)
  (nx:∀(v':Value) (e0 e1:Nat) (z1 z2:Tok) (v1 v2:Value),Ok (W2 w Z V) 4 (plS (Pw w Z V) G it Z9 D fa RL Z7 g0 g1 g2 g3 2 (qIL (nd++(dn p s1)) v') e0 (fsD (Pw w Z V) z1 z2 v1 v2) e1 p up (.ref g0::.ref g1::xs) e2 T0 (some (tuO [.int (.ofNat r1) k1,.int (.ofNat s1) l1])) T2 T3 ns)):
  Ok (W2 w Z V) 4 (plS (Pw w Z V) G it Z9 D fa RL Z7 g0 g1 g2 g3 1 (qIL nd v) e0 (fsD (Pw w Z V) z1 z2 v1 v2) e1 p up (.ref g0::.ref g1::xs) e2 T0 (some (tuO [.int (.ofNat r1) k1,.int (.ofNat s1) l1])) T2 T3 ns):=by
 by_cases h:p%s1=0
 ·refine zV (by rw[az];lia) (m:=0) (by rw[←h];exact ba p s1) hs rfl λC U O=>?_
  have:=nx v (U 2) (U 3) (U 0) (U 1) (O 0) (O 1)
  rw[show dn p s1=[]from if_pos h]at this
  first | rw[List.append_nil]at this | skip
  exact this
 ·refine zU (by rw[az];lia) (m:=p%s1) (ba p s1) hs (by rw[bne_iff_ne];exact λy=>h (Int.ofNat.inj y)) λC U O=>?_
  obtain⟨v',Zs⟩:=aI nd v s1 l1
  have:=nx v' (U 2) (U 3) (U 0) (U 1) (O 0) (O 1)
  rw[show dn p s1=[s1]from if_neg h]at this
  have hv'':qIL (nd++[s1]) v'=qIL nd v++[.int (.ofNat s1) l1]:=Zs
  rw[hv'']at this
  exact this
theorem li{D:Addr}(hnd:nd.length<2^10){p:Nat}{up:Tok}{xs:List Value}{e0 e1 e2:Nat}{T0 T1 T3:Option Obj}{ns:List Nat}{r2 s2:Nat}{k2 l2:Tok}(hs:0<s2)
  (nx:∀(v':Value) (e0 e1:Nat) (z1 z2:Tok) (v1 v2:Value),Ok (W2 w Z V) 4 (plS (Pw w Z V) G it Z9 D fa RL Z7 g0 g1 g2 g3 3 (qIL (nd++(dn p s2)) v') e0 (fsD (Pw w Z V) z1 z2 v1 v2) e1 p up (.ref g0::.ref g1::.ref g2::xs) e2 T0 T1 (some (tuO [.int (.ofNat r2) k2,.int (.ofNat s2) l2])) T3 ns)):
  Ok (W2 w Z V) 4 (plS (Pw w Z V) G it Z9 D fa RL Z7 g0 g1 g2 g3 2 (qIL nd v) e0 (fsD (Pw w Z V) z1 z2 v1 v2) e1 p up (.ref g0::.ref g1::.ref g2::xs) e2 T0 T1 (some (tuO [.int (.ofNat r2) k2,.int (.ofNat s2) l2])) T3 ns):=by
 by_cases h:p%s2=0
 ·refine zT (by rw[az];lia) (m:=0) (by rw[←h];exact ba p s2) hs rfl λC U O=>?_
  have:=nx v (U 2) (U 3) (U 0) (U 1) (O 0) (O 1)
  rw[show dn p s2=[]from if_pos h]at this
  first | rw[List.append_nil]at this | skip
  exact this
 ·refine zS (by rw[az];lia) (m:=p%s2) (ba p s2) hs (by rw[bne_iff_ne];exact λy=>h (Int.ofNat.inj y)) λC U O=>?_
  obtain⟨v',Zs⟩:=aI nd v s2 l2
  have:=nx v' (U 2) (U 3) (U 0) (U 1) (O 0) (O 1)
  rw[show dn p s2=[s2]from if_neg h]at this
  have hv'':qIL (nd++[s2]) v'=qIL nd v++[.int (.ofNat s2) l2]:=Zs
  rw[hv'']at this
  exact this
theorem pt{D:Addr}(hnd:nd.length<2^10){p:Nat}{up:Tok}{xs:List Value}{e0 e1 e2:Nat}{T0 T1 T2:Option Obj}{ns:List Nat}{r3 s3:Nat}{k3 l3:Tok}(hs:0<s3)
  (nx:∀(v':Value) (e0 e1:Nat) (z1 z2:Tok) (v1 v2:Value),Ok (W2 w Z V) 4 (plS (Pw w Z V) G it Z9 D fa RL Z7 g0 g1 g2 g3 4 (qIL (nd++(dn p s3)) v') e0 (fsD (Pw w Z V) z1 z2 v1 v2) e1 p up (.ref g0::.ref g1::.ref g2::.ref g3::xs) e2 T0 T1 T2 (some (tuO [.int (.ofNat r3) k3,.int (.ofNat s3) l3])) ns)):
  Ok (W2 w Z V) 4 (plS (Pw w Z V) G it Z9 D fa RL Z7 g0 g1 g2 g3 3 (qIL nd v) e0 (fsD (Pw w Z V) z1 z2 v1 v2) e1 p up (.ref g0::.ref g1::.ref g2::.ref g3::xs) e2 T0 T1 T2 (some (tuO [.int (.ofNat r3) k3,.int (.ofNat s3) l3])) ns):=by
 by_cases h:p%s3=0
 ·refine zR (by rw[az];lia) (m:=0) (by rw[←h];exact ba p s3) hs rfl λC U O=>?_
  have:=nx v (U 2) (U 3) (U 0) (U 1) (O 0) (O 1)
  rw[show dn p s3=[]from if_pos h]at this
  first | rw[List.append_nil]at this | skip
  exact this
 ·refine zQ (by rw[az];lia) (m:=p%s3) (ba p s3) hs (by rw[bne_iff_ne];exact λy=>h (Int.ofNat.inj y)) λC U O=>?_
  obtain⟨v',Zs⟩:=aI nd v s3 l3
  have:=nx v' (U 2) (U 3) (U 0) (U 1) (O 0) (O 1)
  rw[show dn p s3=[s3]from if_neg h]at this
  have hv'':qIL (nd++[s3]) v'=qIL nd v++[.int (.ofNat s3) l3]:=Zs
  rw[hv'']at this
  exact this
noncomputable def py(P:Params)(G:GP)(it Z9 D fa RL Z7 g0 g1:Addr)(e0 e1 e2:Nat)(p:Nat)(up:Tok)(r0 s0 r1 s1:Nat)(k0 l0 k1 l1:Tok)(ns:List Nat):ac:=
 sd (.compStart plE 0 (.ref it) (.ref Z9) (jP D fa Z7)) (aa [it,Z9,D,Z7,RL,g0,g1]) [some (liK RL 0),some (lO [] e0),some (diO [] e1),some (ceO (some (.int (.ofNat p) up))),some (lO [.ref g0,.ref g1] e2),some (tuO [.int (.ofNat r0) k0,.int (.ofNat s0) l0]),some (tuO [.int (.ofNat r1) k1,.int (.ofNat s1) l1])] G G 0 4 5 (plF P ns)
theorem sV{D:Addr}(ZK:0<s0)(ZJ:0<s1):Ok (W2 w Z V) 4 (py (Pw w Z V) G it Z9 D fa RL Z7 g0 g1 e0 e1 e2 p up r0 s0 r1 s1 k0 l0 k1 l1 ((dn p s0)++(dn p s1))):=by
 have h:Ok (W2 w Z V) 4 (plA (Pw w Z V) G it Z9 D fa RL Z7 g0 g1 0 0 0 [] e0 [] e1 p up [.ref g0,.ref g1] e2 (some (tuO [.int (.ofNat r0) k0,.int (.ofNat s0) l0])) (some (tuO [.int (.ofNat r1) k1,.int (.ofNat s1) l1])) none none ((dn p s0)++(dn p s1))):=by
  refine sO λ_ _ _=>?_
  refine iT ZK λ_ _ _ _ _ _ _=>?_
  refine iS (by have:=cg p s0;first | lia | (simp only[List.length_append];lia)) ZJ λ_ _ _ _ _ _ _=>?_
  exact sR
 exact dH (ex:=[((0:Addr),(none:Option Obj)),((0:Addr),(none:Option Obj))]) h rfl (λC U O p hp=>by
  have hp:p∈[((0:Nat),_),(1,_),(2,_)]:=hp
  simp only[List.mem_cons,List.not_mem_nil,or_false]at hp
  rcases hp with rfl | rfl | rfl
  ·show 0<7;decide
  ·show 1<7;decide
  ·show 2<7;decide)
noncomputable def pv(P:Params)(G:GP)(it Z9 D fa RL Z7 g0 g1 g2:Addr)(e0 e1 e2:Nat)(p:Nat)(up:Tok)(r0 s0 r1 s1 r2 s2:Nat)(k0 l0 k1 l1 k2 l2:Tok)(ns:List Nat):ac:=
 sd (.compStart plE 0 (.ref it) (.ref Z9) (jP D fa Z7)) (aa [it,Z9,D,Z7,RL,g0,g1,g2]) [some (liK RL 0),some (lO [] e0),some (diO [] e1),some (ceO (some (.int (.ofNat p) up))),some (lO [.ref g0,.ref g1,.ref g2] e2),some (tuO [.int (.ofNat r0) k0,.int (.ofNat s0) l0]),some (tuO [.int (.ofNat r1) k1,.int (.ofNat s1) l1]),some (tuO [.int (.ofNat r2) k2,.int (.ofNat s2) l2])] G G 0 4 5 (plF P ns)
theorem sU{D:Addr}(ZK:0<s0)(ZJ:0<s1)(ZI:0<s2):Ok (W2 w Z V) 4 (pv (Pw w Z V) G it Z9 D fa RL Z7 g0 g1 g2 e0 e1 e2 p up r0 s0 r1 s1 r2 s2 k0 l0 k1 l1 k2 l2 (((dn p s0)++(dn p s1))++(dn p s2))):=by
 have h:Ok (W2 w Z V) 4 (plA (Pw w Z V) G it Z9 D fa RL Z7 g0 g1 g2 0 0 [] e0 [] e1 p up [.ref g0,.ref g1,.ref g2] e2 (some (tuO [.int (.ofNat r0) k0,.int (.ofNat s0) l0])) (some (tuO [.int (.ofNat r1) k1,.int (.ofNat s1) l1])) (some (tuO [.int (.ofNat r2) k2,.int (.ofNat s2) l2])) none (((dn p s0)++(dn p s1))++(dn p s2))):=by
  refine sO λ_ _ _=>?_
  refine iT ZK λ_ _ _ _ _ _ _=>?_
  refine iS (by have:=cg p s0;first | lia | (simp only[List.length_append];lia)) ZJ λ_ _ _ _ _ _ _=>?_
  refine li (by have:=cg p s0;have:=cg p s1;first | lia | (simp only[List.length_append];lia)) ZI λ_ _ _ _ _ _ _=>?_
  exact sQ
 exact dH (ex:=[((0:Addr),(none:Option Obj))]) h rfl (λC U O p hp=>by
  have hp:p∈[((0:Nat),_),(1,_),(2,_)]:=hp
  simp only[List.mem_cons,List.not_mem_nil,or_false]at hp
  rcases hp with rfl | rfl | rfl
  ·show 0<8;decide
  ·show 1<8;decide
  ·show 2<8;decide)
noncomputable def pu(P:Params)(G:GP)(it Z9 D fa RL Z7 g0 g1 g2 g3:Addr)(e0 e1 e2:Nat)(p:Nat)(up:Tok)(r0 s0 r1 s1 r2 s2 r3 s3:Nat)(k0 l0 k1 l1 k2 l2 k3 l3:Tok)(ns:List Nat):ac:=
 sd (.compStart plE 0 (.ref it) (.ref Z9) (jP D fa Z7)) (aa [it,Z9,D,Z7,RL,g0,g1,g2,g3]) [some (liK RL 0),some (lO [] e0),some (diO [] e1),some (ceO (some (.int (.ofNat p) up))),some (lO [.ref g0,.ref g1,.ref g2,.ref g3] e2),some (tuO [.int (.ofNat r0) k0,.int (.ofNat s0) l0]),some (tuO [.int (.ofNat r1) k1,.int (.ofNat s1) l1]),some (tuO [.int (.ofNat r2) k2,.int (.ofNat s2) l2]),some (tuO [.int (.ofNat r3) k3,.int (.ofNat s3) l3])] G G 0 4 5 (plF P ns)
theorem sS{D:Addr}{r3 s3:Nat}{k3 l3:Tok}(ZK:0<s0)(ZJ:0<s1)(ZI:0<s2)(ZH:0<s3):Ok (W2 w Z V) 4 (pu (Pw w Z V) G it Z9 D fa RL Z7 g0 g1 g2 g3 e0 e1 e2 p up r0 s0 r1 s1 r2 s2 r3 s3 k0 l0 k1 l1 k2 l2 k3 l3 ((((dn p s0)++(dn p s1))++(dn p s2))++(dn p s3))):=by
 have h:Ok (W2 w Z V) 4 (plA (Pw w Z V) G it Z9 D fa RL Z7 g0 g1 g2 g3 0 [] e0 [] e1 p up [.ref g0,.ref g1,.ref g2,.ref g3] e2 (some (tuO [.int (.ofNat r0) k0,.int (.ofNat s0) l0])) (some (tuO [.int (.ofNat r1) k1,.int (.ofNat s1) l1])) (some (tuO [.int (.ofNat r2) k2,.int (.ofNat s2) l2])) (some (tuO [.int (.ofNat r3) k3,.int (.ofNat s3) l3])) ((((dn p s0)++(dn p s1))++(dn p s2))++(dn p s3))):=by
  refine sO λ_ _ _=>?_
  refine iT ZK λ_ _ _ _ _ _ _=>?_
  refine iS (by have:=cg p s0;first | lia | (simp only[List.length_append];lia)) ZJ λ_ _ _ _ _ _ _=>?_
  refine li (by have:=cg p s0;have:=cg p s1;first | lia | (simp only[List.length_append];lia)) ZI λ_ _ _ _ _ _ _=>?_
  refine pt (by have:=cg p s0;have:=cg p s1;have:=cg p s2;first | lia | (simp only[List.length_append];lia)) ZH λ_ _ _ _ _ _ _=>?_
  exact sP
 exact dH (ex:=[]) h rfl (λC U O p hp=>by
  have hp:p∈[((0:Nat),_),(1,_),(2,_)]:=hp
  simp only[List.mem_cons,List.not_mem_nil,or_false]at hp
  rcases hp with rfl | rfl | rfl
  ·show 0<9;decide
  ·show 1<9;decide
  ·show 2<9;decide)
end
section
open PySem PySem.W PySem.W.X PySem.Builtin
noncomputable def hh:PySem.Expr→PySem.Expr
 | .Compare _ _ (r::_) _=>r
 | _=>noE
noncomputable def jv:PySem.Expr→Pos
 | .Compare _ _ _ p=>p
 | _=>⟨0,0,0,0⟩
noncomputable def kE(env:Env):Sem PySem.Fin:=whT (gV (f8 (aE 10))) .NotEq (hh (f8 (aE 10))) (jv (f8 (aE 10))) (bdW (aE 10)) [] env
theorem np(env:Env):bN (aE 10) env=.whileLoop (.Compare (gV (f8 (aE 10))) [.NotEq] [hh (f8 (aE 10))] (jv (f8 (aE 10)))) (bdW (aE 10)) [] env:=by kernel_rfl
variable{w:World}{Z V:Bool}{G:GP}{it Z9 fa RL Z7 g0 g1 g2:Addr}{e0 e1 e2 p r0 s0 r1 s1 r2 s2:Nat}{up k0 l0 k1 l1 k2 l2:Tok}{ns:List Nat}
theorem dG(env:Env):bk w (bN (aE 10) env) (kE env):=by
 rw[np]
 exact o4 (.inl rfl) (by kernel_rfl)
noncomputable def nd2(p s0 s1:Nat):List Nat:=((dn p s0)++(dn p s1))
theorem xG{D:Addr}(h:nd2 p s0 s1=ns)(ZK:0<s0)(ZJ:0<s1):Ok (W2 w Z V) 4 (py (Pw w Z V) G it Z9 D fa RL Z7 g0 g1 e0 e1 e2 p up r0 s0 r1 s1 k0 l0 k1 l1 ns):=by
 subst h
 exact sV ZK ZJ
noncomputable def zN(RL:Addr)(g0 g1:Addr)(p:Nat)(up:Tok)(e2:Nat)(r0 s0 r1 s1:Nat)(k0 l0 k1 l1:Tok):List (Option Obj):=[some (ceO (some (.int (.ofNat p) up))),some (ceO (some (.ref RL))),some (lO [.ref g0,.ref g1] e2),some (tuO [.int (.ofNat r0) k0,.int (.ofNat s0) l0]),some (tuO [.int (.ofNat r1) k1,.int (.ofNat s1) l1])]
noncomputable def mh(G:GP)(fr Z7 Z6 Z8 RL g0 g1:Addr)(p:Nat)(up:Tok)(e2:Nat)(r0 s0 r1 s1:Nat)(k0 l0 k1 l1:Tok)(p':Nat):ac:=
 sd (bN (aE 10) (an fr Z7 Z6 Z8)) (aa [Z7,Z8,RL,g0,g1]) (zN RL g0 g1 p up e2 r0 s0 r1 s1 k0 l0 k1 l1) G G 0 1 0 λ_ U _=>⟨.ok .next,[(0,ceO (some (.int (.ofNat p') (U 0))))],[]⟩
noncomputable def nd3(p s0 s1 s2:Nat):List Nat:=(((dn p s0)++(dn p s1))++(dn p s2))
theorem xF{D:Addr}(h:nd3 p s0 s1 s2=ns)(ZK:0<s0)(ZJ:0<s1)(ZI:0<s2):Ok (W2 w Z V) 4 (pv (Pw w Z V) G it Z9 D fa RL Z7 g0 g1 g2 e0 e1 e2 p up r0 s0 r1 s1 r2 s2 k0 l0 k1 l1 k2 l2 ns):=by
 subst h
 exact sU ZK ZJ ZI
noncomputable def zM(RL:Addr)(g0 g1 g2:Addr)(p:Nat)(up:Tok)(e2:Nat)(r0 s0 r1 s1 r2 s2:Nat)(k0 l0 k1 l1 k2 l2:Tok):List (Option Obj):=[some (ceO (some (.int (.ofNat p) up))),some (ceO (some (.ref RL))),some (lO [.ref g0,.ref g1,.ref g2] e2),some (tuO [.int (.ofNat r0) k0,.int (.ofNat s0) l0]),some (tuO [.int (.ofNat r1) k1,.int (.ofNat s1) l1]),some (tuO [.int (.ofNat r2) k2,.int (.ofNat s2) l2])]
noncomputable def me(G:GP)(fr Z7 Z6 Z8 RL g0 g1 g2:Addr)(p:Nat)(up:Tok)(e2:Nat)(r0 s0 r1 s1 r2 s2:Nat)(k0 l0 k1 l1 k2 l2:Tok)(p':Nat):ac:=
 sd (bN (aE 10) (an fr Z7 Z6 Z8)) (aa [Z7,Z8,RL,g0,g1,g2]) (zM RL g0 g1 g2 p up e2 r0 s0 r1 s1 r2 s2 k0 l0 k1 l1 k2 l2) G G 0 1 0 λ_ U _=>⟨.ok .next,[(0,ceO (some (.int (.ofNat p') (U 0))))],[]⟩
noncomputable def nd4(p s0 s1 s2 s3:Nat):List Nat:=((((dn p s0)++(dn p s1))++(dn p s2))++(dn p s3))
theorem xE{D g3:Addr}{r3 s3:Nat}{k3 l3:Tok}(h:nd4 p s0 s1 s2 s3=ns)(ZK:0<s0)(ZJ:0<s1)(ZI:0<s2)(ZH:0<s3):Ok (W2 w Z V) 4 (pu (Pw w Z V) G it Z9 D fa RL Z7 g0 g1 g2 g3 e0 e1 e2 p up r0 s0 r1 s1 r2 s2 r3 s3 k0 l0 k1 l1 k2 l2 k3 l3 ns):=by
 subst h
 exact sS ZK ZJ ZI ZH
noncomputable def zL(RL:Addr)(g0 g1 g2 g3:Addr)(p:Nat)(up:Tok)(e2:Nat)(r0 s0 r1 s1 r2 s2 r3 s3:Nat)(k0 l0 k1 l1 k2 l2 k3 l3:Tok):List (Option Obj):=[some (ceO (some (.int (.ofNat p) up))),some (ceO (some (.ref RL))),some (lO [.ref g0,.ref g1,.ref g2,.ref g3] e2),some (tuO [.int (.ofNat r0) k0,.int (.ofNat s0) l0]),some (tuO [.int (.ofNat r1) k1,.int (.ofNat s1) l1]),some (tuO [.int (.ofNat r2) k2,.int (.ofNat s2) l2]),some (tuO [.int (.ofNat r3) k3,.int (.ofNat s3) l3])]
noncomputable def mc(G:GP)(fr Z7 Z6 Z8 RL g0 g1 g2 g3:Addr)(p:Nat)(up:Tok)(e2:Nat)(r0 s0 r1 s1 r2 s2 r3 s3:Nat)(k0 l0 k1 l1 k2 l2 k3 l3:Tok)(p':Nat):ac:=
 sd (bN (aE 10) (an fr Z7 Z6 Z8)) (aa [Z7,Z8,RL,g0,g1,g2,g3]) (zL RL g0 g1 g2 g3 p up e2 r0 s0 r1 s1 r2 s2 r3 s3 k0 l0 k1 l1 k2 l2 k3 l3) G G 0 1 0 λ_ U _=>⟨.ok .next,[(0,ceO (some (.int (.ofNat p') (U 0))))],[]⟩
end
section
open PySem PySem.W PySem.W.X PySem.Builtin
section
variable{w:World}{Z V:Bool}{G:GP}{fr Z7 Z6 Z8 RL g0 g1:Addr}{p:Nat}{up:Tok}{e2 r0 s0 r1 s1:Nat}{k0 l0 k1 l1:Tok}{p' z:Nat}{zs':List Nat}{g2:Addr}{r2 s2:Nat}{k2 l2:Tok}{g3:Addr}{r3 s3:Nat}{k3 l3:Tok}
theorem sJ(h:nd2 p s0 s1=[])(ZK:0<s0)(ZJ:0<s1):Ok (W2 w Z V) 5 (mh G fr Z7 Z6 Z8 RL g0 g1 p up e2 r0 s0 r1 s1 k0 l0 k1 l1 p):=
 fD (kE (an fr Z7 Z6 Z8)) (dG (an fr Z7 Z6 Z8)) [] 48 (λN=>[up]) (λN=>[])
 (.i (ub 5 0xa9a6a6a6a5)::.f [5,6,7,0,2,3,4] (λN=>py (Pw w Z V) G (N.r 5) (N.r 6) (N.r 7) fr RL Z7 g0 g1 0 0 e2 p up r0 s0 r1 s1 k0 l0 k1 l1 [])::.i (ub 17 0xacaaacaaacaaacaaaaacaaabababababab)::[])
 (sE (sg1 (by kernel_rfl)) Z) (λN=>⟨okU (xG h ZK ZJ),trivial⟩)
theorem pw2(h:nd2 p s0 s1=z::zs')(ZK:0<s0)(ZJ:0<s1)(nx:NX λC U O=>Ok (W2 w Z V) 5 (mh G fr Z7 Z6 Z8 RL g0 g1 (p+1) (U 0) e2 r0 s0 r1 s1 k0 l0 k1 l1 p')):Ok (W2 w Z V) 5 (mh G fr Z7 Z6 Z8 RL g0 g1 p up e2 r0 s0 r1 s1 k0 l0 k1 l1 p'):=
 cD nx (kE (an fr Z7 Z6 Z8)) (dG (an fr Z7 Z6 Z8)) (λN=>List.map N.r []) (λN=>[(N.t 5)]) (λN=>[]) 57
 (.i (ub 5 0xa9a6a6a6a5)::.f [5,6,7,0,2,3,4] (λN=>py (Pw w Z V) G (N.r 5) (N.r 6) (N.r 7) fr RL Z7 g0 g1 0 0 e2 p up r0 s0 r1 s1 k0 l0 k1 l1 (z::zs'))::.i (ub 16 0xa4a4a4acaaacaaaaacaaabababababab)::[])
 (sE (sg1 (by kernel_rfl)) Z) (λN=>⟨okU (xG h ZK ZJ),trivial⟩)
theorem sI(h:nd3 p s0 s1 s2=[])(ZK:0<s0)(ZJ:0<s1)(ZI:0<s2):Ok (W2 w Z V) 5 (me G fr Z7 Z6 Z8 RL g0 g1 g2 p up e2 r0 s0 r1 s1 r2 s2 k0 l0 k1 l1 k2 l2 p):=
 fD (kE (an fr Z7 Z6 Z8)) (dG (an fr Z7 Z6 Z8)) [] 48 (λN=>[up]) (λN=>[])
 (.i (ub 5 0xaaa6a6a6a5)::.f [6,7,8,0,2,3,4,5] (λN=>pv (Pw w Z V) G (N.r 6) (N.r 7) (N.r 8) fr RL Z7 g0 g1 g2 0 0 e2 p up r0 s0 r1 s1 r2 s2 k0 l0 k1 l1 k2 l2 [])::.i (ub 17 0xadabadabadabadababadabacacacacacac)::[])
 (sE (sg1 (by kernel_rfl)) Z) (λN=>⟨okU (xF h ZK ZJ ZI),trivial⟩)
theorem pw3(h:nd3 p s0 s1 s2=z::zs')(ZK:0<s0)(ZJ:0<s1)(ZI:0<s2)(nx:NX λC U O=>Ok (W2 w Z V) 5 (me G fr Z7 Z6 Z8 RL g0 g1 g2 (p+1) (U 0) e2 r0 s0 r1 s1 r2 s2 k0 l0 k1 l1 k2 l2 p')):Ok (W2 w Z V) 5 (me G fr Z7 Z6 Z8 RL g0 g1 g2 p up e2 r0 s0 r1 s1 r2 s2 k0 l0 k1 l1 k2 l2 p'):=
 cD nx (kE (an fr Z7 Z6 Z8)) (dG (an fr Z7 Z6 Z8)) (λN=>List.map N.r []) (λN=>[(N.t 5)]) (λN=>[]) 57
 (.i (ub 5 0xaaa6a6a6a5)::.f [6,7,8,0,2,3,4,5] (λN=>pv (Pw w Z V) G (N.r 6) (N.r 7) (N.r 8) fr RL Z7 g0 g1 g2 0 0 e2 p up r0 s0 r1 s1 r2 s2 k0 l0 k1 l1 k2 l2 (z::zs'))::.i (ub 16 0xa4a4a4adabadababadabacacacacacac)::[])
 (sE (sg1 (by kernel_rfl)) Z) (λN=>⟨okU (xF h ZK ZJ ZI),trivial⟩)
theorem sH(h:nd4 p s0 s1 s2 s3=[])(ZK:0<s0)(ZJ:0<s1)(ZI:0<s2)(ZH:0<s3):Ok (W2 w Z V) 5 (mc G fr Z7 Z6 Z8 RL g0 g1 g2 g3 p up e2 r0 s0 r1 s1 r2 s2 r3 s3 k0 l0 k1 l1 k2 l2 k3 l3 p):=
 fD (kE (an fr Z7 Z6 Z8)) (dG (an fr Z7 Z6 Z8)) [] 48 (λN=>[up]) (λN=>[])
 (.i (ub 5 0xaba6a6a6a5)::.f [7,8,9,0,2,3,4,5,6] (λN=>pu (Pw w Z V) G (N.r 7) (N.r 8) (N.r 9) fr RL Z7 g0 g1 g2 g3 0 0 e2 p up r0 s0 r1 s1 r2 s2 r3 s3 k0 l0 k1 l1 k2 l2 k3 l3 [])::.i (ub 17 0xaeacaeacaeacaeacacaeacadadadadadad)::[])
 (sE (sg1 (by kernel_rfl)) Z) (λN=>⟨okU (xE h ZK ZJ ZI ZH),trivial⟩)
theorem pw4(h:nd4 p s0 s1 s2 s3=z::zs')(ZK:0<s0)(ZJ:0<s1)(ZI:0<s2)(ZH:0<s3)(nx:NX λC U O=>Ok (W2 w Z V) 5 (mc G fr Z7 Z6 Z8 RL g0 g1 g2 g3 (p+1) (U 0) e2 r0 s0 r1 s1 r2 s2 r3 s3 k0 l0 k1 l1 k2 l2 k3 l3 p')):Ok (W2 w Z V) 5 (mc G fr Z7 Z6 Z8 RL g0 g1 g2 g3 p up e2 r0 s0 r1 s1 r2 s2 r3 s3 k0 l0 k1 l1 k2 l2 k3 l3 p'):=
 cD nx (kE (an fr Z7 Z6 Z8)) (dG (an fr Z7 Z6 Z8)) (λN=>List.map N.r []) (λN=>[(N.t 5)]) (λN=>[]) 57
 (.i (ub 5 0xaba6a6a6a5)::.f [7,8,9,0,2,3,4,5,6] (λN=>pu (Pw w Z V) G (N.r 7) (N.r 8) (N.r 9) fr RL Z7 g0 g1 g2 g3 0 0 e2 p up r0 s0 r1 s1 r2 s2 r3 s3 k0 l0 k1 l1 k2 l2 k3 l3 (z::zs'))::.i (ub 16 0xa4a4a4aeacaeacacaeacadadadadadad)::[])
 (sE (sg1 (by kernel_rfl)) Z) (λN=>⟨okU (xE h ZK ZJ ZI ZH),trivial⟩)
end
theorem nk{w:World}{Z V:Bool}{G:GP}{fr Z7 Z6 Z8 RL g0 g1:Addr}{e2:Nat}{r0 s0 r1 s1:Nat}{k0 l0 k1 l1:Tok}(ZK:0<s0)(ZJ:0<s1)(N:Nat)(hN:nd2 N s0 s1=[]):∀(d p:Nat) (up:Tok),p+d=N→(∀q,p≤q→q<N→nd2 q s0 s1≠[])→
  Ok (W2 w Z V) 5 (mh G fr Z7 Z6 Z8 RL g0 g1 p up e2 r0 s0 r1 s1 k0 l0 k1 l1 N)
 | 0,p,up,e,_=>by
  rw[Nat.add_zero]at e
  subst e
  exact sJ hN ZK ZJ
 | d+1,p,up,e,h=>by
  cases hz:nd2 p s0 s1 with
  | nil=>exact absurd hz (h p (Nat.le_refl _) (by lia))
  | cons z l=>exact pw2 hz ZK ZJ λC U O=>nk ZK ZJ N hN d (p+1) (U 0) (by lia) λq h1 h2=>h q (by lia) h2
theorem nj{w:World}{Z V:Bool}{G:GP}{fr Z7 Z6 Z8 RL g0 g1 g2:Addr}{e2:Nat}{r0 s0 r1 s1 r2 s2:Nat}{k0 l0 k1 l1 k2 l2:Tok}(ZK:0<s0)(ZJ:0<s1)(ZI:0<s2)(N:Nat)(hN:nd3 N s0 s1 s2=[]):∀(d p:Nat) (up:Tok),p+d=N→(∀q,p≤q→q<N→nd3 q s0 s1 s2≠[])→
  Ok (W2 w Z V) 5 (me G fr Z7 Z6 Z8 RL g0 g1 g2 p up e2 r0 s0 r1 s1 r2 s2 k0 l0 k1 l1 k2 l2 N)
 | 0,p,up,e,_=>by
  rw[Nat.add_zero]at e
  subst e
  exact sI hN ZK ZJ ZI
 | d+1,p,up,e,h=>by
  cases hz:nd3 p s0 s1 s2 with
  | nil=>exact absurd hz (h p (Nat.le_refl _) (by lia))
  | cons z l=>exact pw3 hz ZK ZJ ZI λC U O=>nj ZK ZJ ZI N hN d (p+1) (U 0) (by lia) λq h1 h2=>h q (by lia) h2
theorem ni{w:World}{Z V:Bool}{G:GP}{fr Z7 Z6 Z8 RL g0 g1 g2 g3:Addr}{e2:Nat}{r0 s0 r1 s1 r2 s2 r3 s3:Nat}{k0 l0 k1 l1 k2 l2 k3 l3:Tok}(ZK:0<s0)(ZJ:0<s1)(ZI:0<s2)(ZH:0<s3)(N:Nat)(hN:nd4 N s0 s1 s2 s3=[]):∀(d p:Nat) (up:Tok),p+d=N→(∀q,p≤q→q<N→nd4 q s0 s1 s2 s3≠[])→
  Ok (W2 w Z V) 5 (mc G fr Z7 Z6 Z8 RL g0 g1 g2 g3 p up e2 r0 s0 r1 s1 r2 s2 r3 s3 k0 l0 k1 l1 k2 l2 k3 l3 N)
 | 0,p,up,e,_=>by
  rw[Nat.add_zero]at e
  subst e
  exact sH hN ZK ZJ ZI ZH
 | d+1,p,up,e,h=>by
  cases hz:nd4 p s0 s1 s2 s3 with
  | nil=>exact absurd hz (h p (Nat.le_refl _) (by lia))
  | cons z l=>exact pw4 hz ZK ZJ ZI ZH λC U O=>ni ZK ZJ ZI ZH N hN d (p+1) (U 0) (by lia) λq h1 h2=>h q (by lia) h2
end
section
open PySem PySem.W PySem.W.X PySem.Builtin
noncomputable def qtO(P:Params)(DL:Addr)(S PB:Addr)(ln:Nat)(y1 y2 y3 y4 y5 y6:Tok)(el:Nat)(vs:List Value)(ep:Nat):List (Option Obj):=[some (lxO DL),some (dlO P S PB ln y1 y2 y3 y4 y5 y6 el),some (lO vs ep)]
noncomputable def n9(P:Params)(G:GP)(L DL:Addr)(S PB:Addr)(ln:Nat)(y1 y2 y3 y4 y5 y6:Tok)(el:Nat)(x:List Nat)(t:Tok)(vs:List Value)(ep:Nat):ac:=
 sd (.call (.ref 49) ⟨[.ref L],[]⟩) (aa [L,DL,PB]) (qtO P DL S PB ln y1 y2 y3 y4 y5 y6 el (.str (mS x) t::vs) ep) G G 0 1 0 λ_ U _=>⟨.ok (.ret (.str (mS x) t)),[(2,lO vs (U 0))],[]⟩
noncomputable def puS(P:Params)(G:GP)(L DL:Addr)(S PB:Addr)(ln:Nat)(y1 y2 y3 y4 y5 y6:Tok)(el:Nat)(x:List Nat)(t:Tok)(vs:List Value)(ep:Nat):ac:=
 sd (.call (.ref 56) ⟨[.ref L,.str (mS x) t],[]⟩) (aa [L,DL,PB]) (qtO P DL S PB ln y1 y2 y3 y4 y5 y6 el vs ep) G G 0 1 0 λ_ U _=>⟨.ok (.ret .none),[(2,lO (vs++[.str (mS x) t]) (U 0))],[]⟩
end
section
open PySem PySem.W PySem.W.X PySem.Builtin
section
variable{w:World}{Z V:Bool}{G:GP}{L DL S PB:Addr}{ln:Nat}{y1 y2 y3 y4 y5 y6:Tok}{el:Nat}{x:List Nat}{t:Tok}{vs:List Value}{ep:Nat}
theorem gtP(hv:vs.length<2^10):Ok (W2 w Z V) 3 (n9 (Pw w Z V) G L DL S PB ln y1 y2 y3 y4 y5 y6 el x t vs ep):=
 okC [] 66 (λN=>[(N.t 5)]) (λN=>[])
 (.i (ub 20 0xa6a6a53ba4a43a3b3ba43a3b3ba4a702a7a73031)::.f [2] (λN=>ra G PB ((.str (mS x) t)::vs) ep none (mA []))::.i (ub 17 0xa6a6a6a6a53ba4a43a3b3ba43a3b3ba4a7)::.f [2] (λN=>qZ G PB (.str (mS x) t) vs ep (N.t 4))::[])
 (λ_ _ _=>by kernel_rfl) (λN=>⟨okU (uy),okU (xD),trivial⟩)
theorem puT(hv:vs.length<2^10):Ok (W2 w Z V) 3 (puS (Pw w Z V) G L DL S PB ln y1 y2 y3 y4 y5 y6 el x t vs ep):=
 okC [] 47 (λN=>[(N.t 3)]) (λN=>[])
 (.i (ub 25 0xa7a6a6a6a6a53ba4a43a3b3ba43a3b3ba4a702a7a7a7a73738)::.f [2] (λN=>am G PB vs ep (.str (mS x) t))::[])
 (λ_ _ _=>by kernel_rfl) (λN=>⟨okU (ao),trivial⟩)
end
variable{w:World}{Z V:Bool}{G:GP}{L DL S PB:Addr}{ln el ep:Nat}{y1 y2 y3 y4 y5 y6 t:Tok}{x:List Nat}{vs:List Value}
theorem my(hv:vs.length<2^10):Ok (W2 w Z V) 3 (n9 (Pw w Z V) G L DL S PB ln y1 y2 y3 y4 y5 y6 el x t vs ep):=gtP hv
theorem pR(hv:vs.length<2^10):Ok (W2 w Z V) 3 (puS (Pw w Z V) G L DL S PB ln y1 y2 y3 y4 y5 y6 el x t vs ep):=puT hv
end
section
open PySem PySem.W PySem.W.X PySem.Builtin
noncomputable def lqE(P:Params)(z1 z2 z3 z4 z5 z6 z7 z8 z9 Z2:Tok)(w1 w2 w3 w4 w5 w6 w7 w8 w9 Z1:Value):List DictEntry:=[en P bu z1 w1,en P bt z2 w2,en P d7 z3 w3,en P d6 z4 w4,en P bS z5 w5,en P cE z6 w6,en P d5 z7 w7,en P kA z8 w8,en P fO z9 w9,en P bF Z2 Z1]
noncomputable def eG(P:Params)(z1 z2 z3 z4 z5 z6 z7 z8 z9 Z2:Tok)(w1 w2 w3 w4 w5 w6 w7 w8 w9 Z1:Value)(kv:List DictEntry)(ef:Nat):Obj:=frO (lqE P z1 z2 z3 z4 z5 z6 z7 z8 z9 Z2 w1 w2 w3 w4 w5 w6 w7 w8 w9 Z1++kv) ef
noncomputable abbrev fS(i:Nat):List Nat:=List.replicate i 102
noncomputable def upS(n:Nat):List (List Nat):=(List.range n).map λi=>fS (i+1)
noncomputable def vY(P:Params)(L DL:Addr)(S PB:Addr)(ln:Nat)(y1 y2 y3 y4 y5 y6:Tok)(el:Nat)(z1 z2 z3 z4 z5 z6 z7 z8 z9 Z2:Tok)(w1 w2 w3 w4 w5 w6 w7 w8 w9 Z1:Value)(kv:List DictEntry)(ef:Nat)(i m:Nat)(vs:List Value)(ep:Nat):List (Option Obj):=
 [some (eG P z1 z2 z3 z4 z5 z6 z7 z8 z9 Z2 w1 w2 w3 w4 w5 w6 w7 w8 w9 Z1 kv ef),some (riO (.ofNat i) (.ofNat m) 1),some (ceO (some (.ref L)))]++qtO P DL S PB ln y1 y2 y3 y4 y5 y6 el vs ep
noncomputable def kF(P:Params)(G:GP)(fr Z7 Z6 Z8 it L DL:Addr)(S PB:Addr)(ln:Nat)(y1 y2 y3 y4 y5 y6:Tok)(el:Nat)(z1 z2 z3 z4 z5 z6 z7 z8 z9 Z2:Tok)(w1 w2 w3 w4 w5 w6 w7 w8 w9 Z1:Value)(kv:List DictEntry)(ef:Nat)(i m:Nat)(vs:List Value)(ep:Nat)(n:Nat):ac:=
 sd (cM (aE 11) (.ref it) (an fr Z7 Z6 Z8)) (aa [fr,it,Z6,L,DL,PB]) (vY P L DL S PB ln y1 y2 y3 y4 y5 y6 el z1 z2 z3 z4 z5 z6 z7 z8 z9 Z2 w1 w2 w3 w4 w5 w6 w7 w8 w9 Z1 kv ef i m vs ep) G G 0 3 2 λ_ U O=>
  ⟨.ok .next,[(0,eG P z1 z2 z3 z4 z5 z6 z7 z8 z9 Z2 w1 w2 w3 w4 w5 w6 w7 w8 w9 Z1 [en P aM (U 0) (O 0)] (U 1)),(1,riO (.ofNat (n+1)) (.ofNat 0) 1),(5,lO (qSL (upS n) (O 1)) (U 2))],[]⟩
noncomputable def zG:Stmt:=b4 (bdW (aE 13)) 2
noncomputable def qlE(P:Params)(q1 q2 q3 q4:Tok)(u1 u2:Value)(M:Addr)(st:Value):List DictEntry:=[en P aM q1 u1,en P bc q2 u2,en P bR q3 (.ref M),en P dg q4 st]
noncomputable def qlO(P:Params)(L DL M:Addr)(S PB:Addr)(ln:Nat)(y1 y2 y3 y4 y5 y6:Tok)(el:Nat)(z1 z2 z3 z4 z5 z6 z7 z8 z9 Z2:Tok)(w1 w2 w3 w4 w5 w6 w7 w8 w9 Z1:Value)(q1 q2 q3 q4:Tok)(u1 u2:Value)(st:Nat)(us:Tok)(kv:List DictEntry)(ef:Nat)(i m:Nat)(ms:List Nat)(vm:Value)(em:Nat)(vs:List Value)(ep:Nat):List (Option Obj):=
 [some (eG P z1 z2 z3 z4 z5 z6 z7 z8 z9 Z2 w1 w2 w3 w4 w5 w6 w7 w8 w9 Z1 (qlE P q1 q2 q3 q4 u1 u2 M (.int (.ofNat st) us)++kv) ef),some (riO (.ofNat i) (.ofNat m) 1),some (ceO (some (.ref L))),some (lO (qIL ms vm) em)]++qtO P DL S PB ln y1 y2 y3 y4 y5 y6 el vs ep
noncomputable def qlS(P:Params)(G:GP)(fr Z7 Z6 Z8 it L DL M:Addr)(S PB:Addr)(ln:Nat)(y1 y2 y3 y4 y5 y6:Tok)(el:Nat)(z1 z2 z3 z4 z5 z6 z7 z8 z9 Z2:Tok)(w1 w2 w3 w4 w5 w6 w7 w8 w9 Z1:Value)(q1 q2 q3 q4:Tok)(u1 u2:Value)(st:Nat)(us:Tok)(kv:List DictEntry)(ef:Nat)(i m:Nat)(ms:List Nat)(vm:Value)(em:Nat)(vs:List Value)(ep:Nat)(n st':Nat)(ys:List (List Nat)):ac:=
 sd (cM zG (.ref it) (an fr Z7 Z6 Z8)) (aa [fr,it,Z6,M,L,DL,PB]) (qlO P L DL M S PB ln y1 y2 y3 y4 y5 y6 el z1 z2 z3 z4 z5 z6 z7 z8 z9 Z2 w1 w2 w3 w4 w5 w6 w7 w8 w9 Z1 q1 q2 q3 q4 u1 u2 st us kv ef i m ms vm em vs ep) G G 0 4 3 λ_ U O=>
  ⟨.ok .next,[(0,eG P z1 z2 z3 z4 z5 z6 z7 z8 z9 Z2 w1 w2 w3 w4 w5 w6 w7 w8 (O 2) Z1 (qlE P q1 q2 q3 q4 u1 u2 M (.int (.ofNat st') (U 3))++[en P s_k (U 0) (O 0)]) (U 1)),(1,riO (.ofNat n) (.ofNat 0) 1),(6,lO (qSL ys (O 1)) (U 2))],[]⟩
end
section
open PySem PySem.W PySem.W.X PySem.Builtin
noncomputable abbrev i3(G:GP)(it:Addr)(i m:Nat)(w:World)(Z V:Bool)(L DL S PB:Addr)(ln:Nat)(y1 y2 y3 y4 y5 y6:Tok)(el c:Nat)(tc:Tok)(vs:List Value)(ep:Nat)(zz:List It):List It:=
 .i [165]::.f [1] (λN=>aY G it i m)::.i (ub 19 0x31a9a8313a3b3ba83a3b3ba83a3b3ba8a6a4a4)::.f [4,5,6] (λN=>n9 (Pw w Z V) G L DL S PB ln y1 y2 y3 y4 y5 y6 el (.replicate c 102) tc vs ep)::.i (ub 5 0xa40003a4a4)::.f [] (λN=>kq G (.replicate c 102) tc c)::.i [164,167,167]::zz
section
variable{w:World}{Z V:Bool}{G:GP}{fr Z7 Z6 Z8 it L DL S PB:Addr}{ln:Nat}{y1 y2 y3 y4 y5 y6:Tok}{el:Nat}{z1 z2 z3 z4 z5 z6 z7 z8 z9 Z2:Tok}{w1 w2 w3 w4 w5 w6 w7 w8 w9 Z1:Value}{ef:Nat}{zp:Tok}{vp:Value}{n:Nat}{v:Value}{ep i m:Nat}{vs:List Value}{M:Addr}{q1 q2 q3 q4:Tok}{u1 u2:Value}{st:Nat}{us zk:Tok}{vk:Value}{ms:List Nat}{vm:Value}{em:Nat}{ys:List (List Nat)}{c:Nat}{tc:Tok}{st2:Nat}
theorem sL:Ok (W2 w Z V) 4 (kF (Pw w Z V) G fr Z7 Z6 Z8 it L DL S PB ln y1 y2 y3 y4 y5 y6 el z1 z2 z3 z4 z5 z6 z7 z8 z9 Z2 w1 w2 w3 w4 w5 w6 w7 w8 w9 Z1 [en (Pw w Z V) aM zp vp] ef (n+1) 0 (qSL (upS n) v) ep n):=
 okC [] 19 (λN=>[zp,ef,ep]) (λN=>[vp,v])
 (.i (ub 6 0xaba5a5a5a5a5)::[])
 (λ_ _ _=>by kernel_rfl) (λN=>trivial)
theorem zP(hi:i<2^10)(hv:vs.length<2^10)(nx:NX λC U O=>Ok (W2 w Z V) 4 (kF (Pw w Z V) G fr Z7 Z6 Z8 it L DL S PB ln y1 y2 y3 y4 y5 y6 el z1 z2 z3 z4 z5 z6 z7 z8 z9 Z2 w1 w2 w3 w4 w5 w6 w7 w8 w9 Z1 [en (Pw w Z V) aM (U 0) (O 0)] (U 1) (i+1) m (vs++[.str (mS (fS i)) (U 2)]) (U 3) n)):Ok (W2 w Z V) 4 (kF (Pw w Z V) G fr Z7 Z6 Z8 it L DL S PB ln y1 y2 y3 y4 y5 y6 el z1 z2 z3 z4 z5 z6 z7 z8 z9 Z2 w1 w2 w3 w4 w5 w6 w7 w8 w9 Z1 [] ef i (m+1) vs ep n):=
 aj nx (λN=>List.map N.r []) (λN=>[(N.t 1),(ef+1),(N.t 3),(N.t 4)]) (λN=>[(.int (.ofNat i) (N.t 0))]) 48
 (.i [165]::.f [1] (λN=>aY G it i m)::.i (ub 19 0xa4a8a7383a3b3ba73a3b3ba73a3b3ba7a6a4a4)::.n::.f [] (λN=>bB G 102 i (N.t 2) (N.t 0))::.i [56]::.f [3,4,5] (λN=>puS (Pw w Z V) G L DL S PB ln y1 y2 y3 y4 y5 y6 el (.replicate i 102) (N.t 3) vs ep)::[])
 (λ_ _ _=>by kernel_rfl) (λN=>⟨okU (aQ),okU (aC hi),okU (pR hv),trivial⟩)
theorem zO(hi:i<2^10)(hv:vs.length<2^10)(nx:NX λC U O=>Ok (W2 w Z V) 4 (kF (Pw w Z V) G fr Z7 Z6 Z8 it L DL S PB ln y1 y2 y3 y4 y5 y6 el z1 z2 z3 z4 z5 z6 z7 z8 z9 Z2 w1 w2 w3 w4 w5 w6 w7 w8 w9 Z1 [en (Pw w Z V) aM (U 0) (O 0)] (U 1) (i+1) m (vs++[.str (mS (fS i)) (U 2)]) (U 3) n)):Ok (W2 w Z V) 4 (kF (Pw w Z V) G fr Z7 Z6 Z8 it L DL S PB ln y1 y2 y3 y4 y5 y6 el z1 z2 z3 z4 z5 z6 z7 z8 z9 Z2 w1 w2 w3 w4 w5 w6 w7 w8 w9 Z1 [en (Pw w Z V) aM zp vp] ef i (m+1) vs ep n):=
 aj nx (λN=>List.map N.r []) (λN=>[zp,ef,(N.t 3),(N.t 4)]) (λN=>[(.int (.ofNat i) (N.t 0))]) 48
 (.i [165]::.f [1] (λN=>aY G it i m)::.i (ub 19 0xa4a8a7383a3b3ba73a3b3ba73a3b3ba7a6a4a4)::.n::.f [] (λN=>bB G 102 i (N.t 2) (N.t 0))::.i [56]::.f [3,4,5] (λN=>puS (Pw w Z V) G L DL S PB ln y1 y2 y3 y4 y5 y6 el (.replicate i 102) (N.t 3) vs ep)::[])
 (λ_ _ _=>by kernel_rfl) (λN=>⟨okU (aQ),okU (aC hi),okU (pR hv),trivial⟩)
theorem vW:Ok (W2 w Z V) 4 (qlS (Pw w Z V) G fr Z7 Z6 Z8 it L DL M S PB ln y1 y2 y3 y4 y5 y6 el z1 z2 z3 z4 z5 z6 z7 z8 z9 Z2 w1 w2 w3 w4 w5 w6 w7 w8 w9 Z1 q1 q2 q3 q4 u1 u2 st us [en (Pw w Z V) s_k zk vk] ef n 0 ms vm em (qSL ys v) ep n st ys):=
 okC [] 19 (λN=>[zk,ef,ep,us]) (λN=>[vk,v,w9])
 (.i (ub 6 0xaca5a5a5a5a5)::[])
 (λ_ _ _=>by kernel_rfl) (λN=>trivial)
theorem zK(hv:vs.length<2^10)(hc:(fS c).length=c)(hc2:c<2^20)(hb:ms.contains c=false)(nx:NX λC U O=>Ok (W2 w Z V) 4 (qlS (Pw w Z V) G fr Z7 Z6 Z8 it L DL M S PB ln y1 y2 y3 y4 y5 y6 el z1 z2 z3 z4 z5 z6 z7 z8 z9 Z2 w1 w2 w3 w4 w5 w6 w7 w8 (O 1) Z1 q1 q2 q3 q4 u1 u2 (st+1) (U 4) [en (Pw w Z V) s_k (U 0) (O 0)] (U 1) (i+1) m ms vm em (vs++[.str (mS (fS c)) tc]) (U 3) n st2 ys)):Ok (W2 w Z V) 4 (qlS (Pw w Z V) G fr Z7 Z6 Z8 it L DL M S PB ln y1 y2 y3 y4 y5 y6 el z1 z2 z3 z4 z5 z6 z7 z8 z9 Z2 w1 w2 w3 w4 w5 w6 w7 w8 w9 Z1 q1 q2 q3 q4 u1 u2 st us [] ef i (m+1) ms vm em (.str (mS (fS c)) tc::vs) ep n st2 ys):=
 aj nx (λN=>List.map N.r []) (λN=>[(N.t 1),(ef+1),0,(N.t 5),(N.t 7)]) (λN=>[(.int (.ofNat i) (N.t 0)),(.str (mS (.replicate c 102)) tc)]) 101
 (i3 G it i m w Z V L DL S PB ln y1 y2 y3 y4 y5 y6 el c tc vs ep (.f [3] (λN=>oL G M ms vm em c (N.t 4) false)::.i (ub 18 0x38a4a9a8383a3b3ba83a3b3ba83a3b3ba8a6)::.f [4,5,6] (λN=>puS (Pw w Z V) G L DL S PB ln y1 y2 y3 y4 y5 y6 el (.replicate c 102) tc vs (N.t 2))::.i [164,164,164]::[]))
 (λ_ _ _=>by kernel_rfl) (λN=>⟨okU (aQ),okU (my hv),okU (b7 hc hc2),okU (pU hb),okU (pR hv),trivial⟩)
theorem zI(hv:vs.length<2^10)(hc:(fS c).length=c)(hc2:c<2^20)(hb:ms.contains c=true)(nx:NX λC U O=>Ok (W2 w Z V) 4 (qlS (Pw w Z V) G fr Z7 Z6 Z8 it L DL M S PB ln y1 y2 y3 y4 y5 y6 el z1 z2 z3 z4 z5 z6 z7 z8 z9 Z2 w1 w2 w3 w4 w5 w6 w7 w8 (O 1) Z1 q1 q2 q3 q4 u1 u2 st us [en (Pw w Z V) s_k (U 0) (O 0)] (U 1) (i+1) m ms vm em vs (U 3) n st2 ys)):Ok (W2 w Z V) 4 (qlS (Pw w Z V) G fr Z7 Z6 Z8 it L DL M S PB ln y1 y2 y3 y4 y5 y6 el z1 z2 z3 z4 z5 z6 z7 z8 z9 Z2 w1 w2 w3 w4 w5 w6 w7 w8 w9 Z1 q1 q2 q3 q4 u1 u2 st us [] ef i (m+1) ms vm em (.str (mS (fS c)) tc::vs) ep n st2 ys):=
 aj nx (λN=>List.map N.r []) (λN=>[(N.t 1),(ef+1),0,(N.t 2)]) (λN=>[(.int (.ofNat i) (N.t 0)),(.str (mS (.replicate c 102)) tc)]) 60
 (i3 G it i m w Z V L DL S PB ln y1 y2 y3 y4 y5 y6 el c tc vs ep (.f [3] (λN=>oL G M ms vm em c (N.t 4) true)::[]))
 (λ_ _ _=>by kernel_rfl) (λN=>⟨okU (aQ),okU (my hv),okU (b7 hc hc2),okU (pU hb),trivial⟩)
theorem zJ(hv:vs.length<2^10)(hc:(fS c).length=c)(hc2:c<2^20)(hb:ms.contains c=false)(nx:NX λC U O=>Ok (W2 w Z V) 4 (qlS (Pw w Z V) G fr Z7 Z6 Z8 it L DL M S PB ln y1 y2 y3 y4 y5 y6 el z1 z2 z3 z4 z5 z6 z7 z8 z9 Z2 w1 w2 w3 w4 w5 w6 w7 w8 (O 1) Z1 q1 q2 q3 q4 u1 u2 (st+1) (U 4) [en (Pw w Z V) s_k (U 0) (O 0)] (U 1) (i+1) m ms vm em (vs++[.str (mS (fS c)) tc]) (U 3) n st2 ys)):Ok (W2 w Z V) 4 (qlS (Pw w Z V) G fr Z7 Z6 Z8 it L DL M S PB ln y1 y2 y3 y4 y5 y6 el z1 z2 z3 z4 z5 z6 z7 z8 z9 Z2 w1 w2 w3 w4 w5 w6 w7 w8 w9 Z1 q1 q2 q3 q4 u1 u2 st us [en (Pw w Z V) s_k zk vk] ef i (m+1) ms vm em (.str (mS (fS c)) tc::vs) ep n st2 ys):=
 aj nx (λN=>List.map N.r []) (λN=>[zk,ef,0,(N.t 5),(N.t 7)]) (λN=>[(.int (.ofNat i) (N.t 0)),(.str (mS (.replicate c 102)) tc)]) 101
 (i3 G it i m w Z V L DL S PB ln y1 y2 y3 y4 y5 y6 el c tc vs ep (.f [3] (λN=>oL G M ms vm em c (N.t 4) false)::.i (ub 18 0x38a4a9a8383a3b3ba83a3b3ba83a3b3ba8a6)::.f [4,5,6] (λN=>puS (Pw w Z V) G L DL S PB ln y1 y2 y3 y4 y5 y6 el (.replicate c 102) tc vs (N.t 2))::.i [164,164,164]::[]))
 (λ_ _ _=>by kernel_rfl) (λN=>⟨okU (aQ),okU (my hv),okU (b7 hc hc2),okU (pU hb),okU (pR hv),trivial⟩)
theorem zH(hv:vs.length<2^10)(hc:(fS c).length=c)(hc2:c<2^20)(hb:ms.contains c=true)(nx:NX λC U O=>Ok (W2 w Z V) 4 (qlS (Pw w Z V) G fr Z7 Z6 Z8 it L DL M S PB ln y1 y2 y3 y4 y5 y6 el z1 z2 z3 z4 z5 z6 z7 z8 z9 Z2 w1 w2 w3 w4 w5 w6 w7 w8 (O 1) Z1 q1 q2 q3 q4 u1 u2 st us [en (Pw w Z V) s_k (U 0) (O 0)] (U 1) (i+1) m ms vm em vs (U 3) n st2 ys)):Ok (W2 w Z V) 4 (qlS (Pw w Z V) G fr Z7 Z6 Z8 it L DL M S PB ln y1 y2 y3 y4 y5 y6 el z1 z2 z3 z4 z5 z6 z7 z8 z9 Z2 w1 w2 w3 w4 w5 w6 w7 w8 w9 Z1 q1 q2 q3 q4 u1 u2 st us [en (Pw w Z V) s_k zk vk] ef i (m+1) ms vm em (.str (mS (fS c)) tc::vs) ep n st2 ys):=
 aj nx (λN=>List.map N.r []) (λN=>[zk,ef,0,(N.t 2)]) (λN=>[(.int (.ofNat i) (N.t 0)),(.str (mS (.replicate c 102)) tc)]) 60
 (i3 G it i m w Z V L DL S PB ln y1 y2 y3 y4 y5 y6 el c tc vs ep (.f [3] (λN=>oL G M ms vm em c (N.t 4) true)::[]))
 (λ_ _ _=>by kernel_rfl) (λN=>⟨okU (aQ),okU (my hv),okU (b7 hc hc2),okU (pU hb),trivial⟩)
end
theorem jB(n:Nat):upS (n+1)=upS n++[fS (n+1)]:=by
 unfold upS
 rw[List.range_succ,List.map_append];rfl
theorem o7(n:Nat):(upS n).length=n:=by simp[upS]
theorem lh{w:World}{Z V:Bool}{G:GP}{fr Z7 Z6 Z8 it L DL:Addr}{S PB:Addr}{ln:Nat}{y1 y2 y3 y4 y5 y6:Tok}{el:Nat}{z1 z2 z3 z4 z5 z6 z7 z8 z9 Z2:Tok}{w1 w2 w3 w4 w5 w6 w7 w8 w9 Z1:Value}:∀(m i:Nat) (ef:Nat) (zp:Tok) (vp v:Value) (ep:Nat),i+m<2^9→
  Ok (W2 w Z V) 4 (kF (Pw w Z V) G fr Z7 Z6 Z8 it L DL S PB ln y1 y2 y3 y4 y5 y6 el z1 z2 z3 z4 z5 z6 z7 z8 z9 Z2 w1 w2 w3 w4 w5 w6 w7 w8 w9 Z1 [en (Pw w Z V) aM zp vp] ef (i+1) m (qSL (upS i) v) ep (i+m))
 | 0,i,ef,zp,vp,v,ep,h=>sL
 | m+1,i,ef,zp,vp,v,ep,h=>by
  refine zO (by lia) (by rw[bG,o7];lia) λC U O=>?_
  obtain⟨v',hv⟩:=aR (upS i) v (fS (i+1)) (U 2)
  have:=lh (w:=w) (Z:=Z) (V:=V) (G:=G) (fr:=fr) (Z7:=Z7) (Z6:=Z6) (Z8:=Z8) (it:=it) (L:=L) (DL:=DL) (S:=S) (PB:=PB) (ln:=ln) (y1:=y1) (y2:=y2) (y3:=y3) (y4:=y4) (y5:=y5) (y6:=y6) (el:=el) (z1:=z1) (z2:=z2) (z3:=z3) (z4:=z4) (z5:=z5) (z6:=z6) (z7:=z7) (z8:=z8) (z9:=z9) (Z2:=Z2) (w1:=w1) (w2:=w2) (w3:=w3) (w4:=w4) (w5:=w5) (w6:=w6) (w7:=w7) (w8:=w8) (w9:=w9) (Z1:=Z1) m (i+1) (U 1) (U 0) (O 0) v' (U 3) (by lia)
  rw[jB,hv,show i+1+m=i+(m+1)by lia]at this
  exact this
theorem sM{w:World}{Z V:Bool}{G:GP}{fr Z7 Z6 Z8 it L DL:Addr}{S PB:Addr}{ln:Nat}{y1 y2 y3 y4 y5 y6:Tok}{el:Nat}{z1 z2 z3 z4 z5 z6 z7 z8 z9 Z2:Tok}{w1 w2 w3 w4 w5 w6 w7 w8 w9 Z1:Value}{ef ep n:Nat}(h:n+1<2^9):
  Ok (W2 w Z V) 4 (kF (Pw w Z V) G fr Z7 Z6 Z8 it L DL S PB ln y1 y2 y3 y4 y5 y6 el z1 z2 z3 z4 z5 z6 z7 z8 z9 Z2 w1 w2 w3 w4 w5 w6 w7 w8 w9 Z1 [] ef 1 (n+1) [] ep (n+1)):=by
 refine zP (by decide) (by decide) λC U O=>?_
 obtain⟨v',hv⟩:=aR (upS 0) .none (fS 1) (U 2)
 have:=lh (w:=w) (Z:=Z) (V:=V) (G:=G) (fr:=fr) (Z7:=Z7) (Z6:=Z6) (Z8:=Z8) (it:=it) (L:=L) (DL:=DL) (S:=S) (PB:=PB) (ln:=ln) (y1:=y1) (y2:=y2) (y3:=y3) (y4:=y4) (y5:=y5) (y6:=y6) (el:=el) (z1:=z1) (z2:=z2) (z3:=z3) (z4:=z4) (z5:=z5) (z6:=z6) (z7:=z7) (z8:=z8) (z9:=z9) (Z2:=Z2) (w1:=w1) (w2:=w2) (w3:=w3) (w4:=w4) (w5:=w5) (w6:=w6) (w7:=w7) (w8:=w8) (w9:=w9) (Z1:=Z1) n 1 (U 1) (U 0) (O 0) v' (U 3) (by lia)
 rw[jB,hv,show 1+n=n+1 by lia]at this
 exact this
noncomputable def ae(ms:List Nat)(l:List Nat):List Nat:=l.filter λc=> !ms.contains c
theorem gj{w:World}{Z V:Bool}{G:GP}{fr Z7 Z6 Z8 it L DL M:Addr}{S PB:Addr}{ln:Nat}{y1 y2 y3 y4 y5 y6:Tok}{el:Nat}{q1 q2 q3 q4:Tok}{u1 u2:Value}{ms:List Nat}{vm:Value}{em:Nat}:∀(l:List Nat) (k:List Nat) (i st:Nat) (z1 z2 z3 z4 z5 z6 z7 z8 z9 Z2:Tok) (w1 w2 w3 w4 w5 w6 w7 w8 w9 Z1:Value) (us:Tok) (ef:Nat) (zk:Tok) (vk v:Value) (ep:Nat),l.length+k.length<2^9→(∀c∈l,c<2^9)→
  Ok (W2 w Z V) 4 (qlS (Pw w Z V) G fr Z7 Z6 Z8 it L DL M S PB ln y1 y2 y3 y4 y5 y6 el z1 z2 z3 z4 z5 z6 z7 z8 z9 Z2 w1 w2 w3 w4 w5 w6 w7 w8 w9 Z1 q1 q2 q3 q4 u1 u2 st us [en (Pw w Z V) s_k zk vk] ef i l.length ms vm em (qSL ((l++k).map fS) v) ep (i+l.length) (st+(ae ms l).length) ((k++ae ms l).map fS))
 | [],k,i,st,z1,z2,z3,z4,z5,z6,z7,z8,z9,Z2,w1,w2,w3,w4,w5,w6,w7,w8,w9,Z1,us,ef,zk,vk,v,ep,h,hc=>by
  show Ok _ _ (qlS _ _ _ _ _ _ _ _ _ _ _ _ _ _ _ _ _ _ _ _ _ _ _ _ _ _ _ _ _ _ _ _ _ _ _ _ _ _ _ _ _ _ _ _ _ _ _ _ _ _ i 0 _ _ _ (qSL (k.map fS) v) _ i st ((k++[]).map fS))
  rw[List.append_nil]
  exact vW
 | c::l,k,i,st,z1,z2,z3,z4,z5,z6,z7,z8,z9,Z2,w1,w2,w3,w4,w5,w6,w7,w8,w9,Z1,us,ef,zk,vk,v,ep,h,hc=>by
  rw[List.length_cons]at h
  have e1:qSL (((c::l)++k).map fS) v=.str (mS (fS c)) ((au v).headD 0)::qSL ((l++k).map fS) (a9 v):=rfl
  have hl:(qSL ((l++k).map fS) (a9 v)).length<2^10:=by rw[bG,List.length_map,List.length_append];lia
  have hcl:(fS c).length=c:=by simp[fS]
  have hc2:=hc c (.head _)
  have hc':∀c∈l,c<2^9:=λx hx=>hc x (.tail _ hx)
  rw[e1,List.length_cons,show i+(l.length+1)=i+1+l.length by lia]
  cases hb:ms.contains c with
  | true=>
   have ek:ae ms (c::l)=ae ms l:=by unfold ae;rw[List.filter_cons,hb];rfl
   rw[ek]
   exact zH hl hcl (by lia) hb λC U O=>gj l k (i+1) st _ _ _ _ _ _ _ _ _ _ _ _ _ _ _ _ _ _ _ _ _ _ _ _ _ _ (by lia) hc'
  | false=>
   have ek:ae ms (c::l)=c::ae ms l:=by unfold ae;rw[List.filter_cons,hb];rfl
   rw[ek]
   refine zJ hl hcl (by lia) hb λC U O=>?_
   obtain⟨v',hv⟩:=aR ((l++k).map fS) (a9 v) (fS c) ((au v).headD 0)
   have:=gj (w:=w) (Z:=Z) (V:=V) (G:=G) (fr:=fr) (Z7:=Z7) (Z6:=Z6) (Z8:=Z8) (it:=it) (L:=L) (DL:=DL) (M:=M) (S:=S) (PB:=PB) (ln:=ln) (y1:=y1) (y2:=y2) (y3:=y3) (y4:=y4) (y5:=y5) (y6:=y6) (el:=el) (q1:=q1) (q2:=q2) (q3:=q3) (q4:=q4) (u1:=u1) (u2:=u2) (ms:=ms) (vm:=vm) (em:=em) l (k++[c]) (i+1) (st+1) z1 z2 z3 z4 z5 z6 z7 z8 z9 Z2 w1 w2 w3 w4 w5 w6 w7 w8 (O 1) Z1 (U 4) (U 1) (U 0) (O 0) v' (U 3) (by rw[List.length_append];simp only[List.length_cons,List.length_nil];lia) hc'
   rw[show(l++(k++[c])).map fS=(l++k).map fS++[fS c]by simp,hv,show st+1+(ae ms l).length=st+((ae ms l).length+1)by lia,show(k++[c])++ae ms l=k++c::ae ms l by simp]at this
   exact this
end
section
open PySem PySem.W PySem.W.X PySem.Builtin
noncomputable def lcE:PySem.Expr:=exV (aE 14)
noncomputable def nT(D fa Z6:Addr):Env:=g7 (stA 16) lcE 162 fa D [(mS lb,Z6)]
noncomputable def lcO(P:Params)(L DL:Addr)(S PB:Addr)(ln:Nat)(y1 y2 y3 y4 y5 y6:Tok)(el:Nat)(i m:Nat)(vs:List Value)(e0:Nat)(kv:List DictEntry)(e1:Nat)(qs:List Value)(ep:Nat):List (Option Obj):=
 [some (riO (.ofNat i) (.ofNat m) 1),some (lO vs e0),some (diO kv e1),some (ceO (some (.ref L)))]++qtO P DL S PB ln y1 y2 y3 y4 y5 y6 el qs ep
noncomputable def lcF(P:Params)(n:Nat)(ns:List Nat):FT:=λ_ U O=>⟨.ok .next,[(0,riO (.ofNat n) (.ofNat 0) 1),(1,lO (qIL ns (O 0)) (U 0)),(2,diO [en P s_k (U 1) (O 1)] (U 2)),(6,lO [] (U 3))],[]⟩
noncomputable def lcS(P:Params)(G:GP)(it Z9 D fa Z6 L DL:Addr)(S PB:Addr)(ln:Nat)(y1 y2 y3 y4 y5 y6:Tok)(el:Nat)(i m:Nat)(vs:List Value)(e0:Nat)(kv:List DictEntry)(e1:Nat)(qs:List Value)(ep:Nat)(n:Nat)(ns:List Nat):ac:=
 sd (.compLoop lcE 0 (.ref it) (.ref Z9) (nT D fa Z6)) (aa [it,Z9,D,Z6,L,DL,PB]) (lcO P L DL S PB ln y1 y2 y3 y4 y5 y6 el i m vs e0 kv e1 qs ep) G G 0 4 2 (lcF P n ns)
noncomputable def lcA(P:Params)(G:GP)(it Z9 D fa Z6 L DL:Addr)(S PB:Addr)(ln:Nat)(y1 y2 y3 y4 y5 y6:Tok)(el:Nat)(i m:Nat)(vs:List Value)(e0:Nat)(kv:List DictEntry)(e1:Nat)(qs:List Value)(ep:Nat)(n:Nat)(ns:List Nat):ac:=
 sd (.compStart lcE 0 (.ref it) (.ref Z9) (nT D fa Z6)) (aa [it,Z9,D,Z6,L,DL,PB]) (lcO P L DL S PB ln y1 y2 y3 y4 y5 y6 el i m vs e0 kv e1 qs ep) G G 0 4 2 (lcF P n ns)
end
section
open PySem PySem.W PySem.W.X PySem.Builtin
section
variable{w:World}{Z V:Bool}{G:GP}{it Z9 D fa Z6 L DL S PB:Addr}{ln:Nat}{y1 y2 y3 y4 y5 y6:Tok}{el m e0 e1:Nat}{qs:List Value}{ep n:Nat}{ns:List Nat}{zk:Tok}{vk v:Value}{i c:Nat}{tc:Tok}{vs:List Value}
theorem Bo(nx:NX λC U O=>Ok (W2 w Z V) 4 (lcS (Pw w Z V) G it Z9 D fa Z6 L DL S PB ln y1 y2 y3 y4 y5 y6 el 0 m [] e0 [] e1 qs ep n ns)):Ok (W2 w Z V) 4 (lcA (Pw w Z V) G it Z9 D fa Z6 L DL S PB ln y1 y2 y3 y4 y5 y6 el 0 m [] e0 [] e1 qs ep n ns):=
 aj nx (λN=>List.map N.r []) (λN=>[]) (λN=>[]) 15
 (.i (pqB V)::[])
 (sF (sg2 (by kernel_rfl)) Z V) (λN=>trivial)
theorem xv:Ok (W2 w Z V) 4 (lcS (Pw w Z V) G it Z9 D fa Z6 L DL S PB ln y1 y2 y3 y4 y5 y6 el n 0 (qIL ns v) e0 [en (Pw w Z V) s_k zk vk] e1 [] ep n ns):=
 okC [] 18 (λN=>[e0,zk,e1,ep]) (λN=>[v,vk])
 (.i (ub 6 0xaca4a4a4a4a4)::[])
 (λ_ _ _=>by kernel_rfl) (λN=>trivial)
theorem lca(hv:qs.length<2^10)(hc:(fS c).length=c)(hc2:c<2^20)(nx:NX λC U O=>Ok (W2 w Z V) 4 (lcS (Pw w Z V) G it Z9 D fa Z6 L DL S PB ln y1 y2 y3 y4 y5 y6 el (i+1) m [.int (.ofNat c) (U 4)] (U 1) [en (Pw w Z V) s_k (U 0) (O 0)] (U 2) qs (U 3) n ns)):Ok (W2 w Z V) 4 (lcS (Pw w Z V) G it Z9 D fa Z6 L DL S PB ln y1 y2 y3 y4 y5 y6 el i (m+1) [] e0 [] e1 (.str (mS (fS c)) tc::qs) ep n ns):=
 aj nx (λN=>List.map N.r []) (λN=>[(N.t 1),(N.t 4),(e1+1),(N.t 2),(N.t 3)]) (λN=>[(.int (.ofNat i) (N.t 0))]) 44
 (.i [164]::.f [0] (λN=>aY G it i m)::.i (ub 21 0x31a9a8313a3b3ba83a3b3ba83a3b3ba8a70003a6a6)::.f [4,5,6] (λN=>n9 (Pw w Z V) G L DL S PB ln y1 y2 y3 y4 y5 y6 el (.replicate c 102) tc qs ep)::.f [] (λN=>kq G (.replicate c 102) tc c)::.f [1] (λN=>am G Z9 [] e0 (.int (.ofNat c) (N.t 3)))::[])
 (λ_ _ _=>by kernel_rfl) (λN=>⟨okU (aQ),okU (my hv),okU (b7 hc hc2),okU (ao),trivial⟩)
theorem lcb(hvs:vs.length<2^10)(hv:qs.length<2^10)(hc:(fS c).length=c)(hc2:c<2^20)(nx:NX λC U O=>Ok (W2 w Z V) 4 (lcS (Pw w Z V) G it Z9 D fa Z6 L DL S PB ln y1 y2 y3 y4 y5 y6 el (i+1) m (vs++[.int (.ofNat c) (U 4)]) (U 1) [en (Pw w Z V) s_k (U 0) (O 0)] (U 2) qs (U 3) n ns)):Ok (W2 w Z V) 4 (lcS (Pw w Z V) G it Z9 D fa Z6 L DL S PB ln y1 y2 y3 y4 y5 y6 el i (m+1) vs e0 [en (Pw w Z V) s_k zk vk] e1 (.str (mS (fS c)) tc::qs) ep n ns):=
 aj nx (λN=>List.map N.r []) (λN=>[zk,(N.t 4),e1,(N.t 2),(N.t 3)]) (λN=>[(.int (.ofNat i) (N.t 0))]) 44
 (.i [164]::.f [0] (λN=>aY G it i m)::.i (ub 21 0x31a9a8313a3b3ba83a3b3ba83a3b3ba8a70003a6a6)::.f [4,5,6] (λN=>n9 (Pw w Z V) G L DL S PB ln y1 y2 y3 y4 y5 y6 el (.replicate c 102) tc qs ep)::.f [] (λN=>kq G (.replicate c 102) tc c)::.f [1] (λN=>am G Z9 vs e0 (.int (.ofNat c) (N.t 3)))::[])
 (λ_ _ _=>by kernel_rfl) (λN=>⟨okU (aQ),okU (my hv),okU (b7 hc hc2),okU (ao),trivial⟩)
end
theorem nS{w:World}{Z V:Bool}{G:GP}{it Z9 D fa Z6 L DL:Addr}{S PB:Addr}{ln:Nat}{y1 y2 y3 y4 y5 y6:Tok}{el:Nat}:∀(l ds:List Nat) (i e0 e1:Nat) (zk:Tok) (vk v vq:Value) (ep:Nat),l.length+ds.length<2^9→(∀c∈l,c<2^9)→
  Ok (W2 w Z V) 4 (lcS (Pw w Z V) G it Z9 D fa Z6 L DL S PB ln y1 y2 y3 y4 y5 y6 el i l.length (qIL ds v) e0 [en (Pw w Z V) s_k zk vk] e1 (qSL (l.map fS) vq) ep (i+l.length) (ds++l))
 | [],ds,i,e0,e1,zk,vk,v,vq,ep,h,hc=>by
  rw[List.append_nil]
  exact xv
 | c::l,ds,i,e0,e1,zk,vk,v,vq,ep,h,hc=>by
  rw[List.length_cons]at h
  have e:qSL ((c::l).map fS) vq=.str (mS (fS c)) ((au vq).headD 0)::qSL (l.map fS) (a9 vq):=rfl
  rw[e]
  have hc2:=hc c (.head _)
  refine lcb (by rw[az];lia) (by rw[bG,List.length_map];lia) (by simp[fS]) (by lia) λC U O=>?_
  obtain⟨v',hv⟩:=aI ds v c (U 4)
  have:=nS (w:=w) (Z:=Z) (V:=V) (G:=G) (it:=it) (Z9:=Z9) (D:=D) (fa:=fa) (Z6:=Z6) (L:=L) (DL:=DL) (S:=S) (PB:=PB) (ln:=ln) (y1:=y1) (y2:=y2) (y3:=y3) (y4:=y4) (y5:=y5) (y6:=y6) (el:=el) l (ds++[c]) (i+1) (U 1) (U 2) (U 0) (O 0) v' (a9 vq) (U 3) (by rw[List.length_append];simp only[List.length_cons,List.length_nil];lia) λx hx=>hc x (.tail _ hx)
  rw[hv,show i+1+l.length=i+(l.length+1)by lia,show ds++[c]++l=ds++c::l by simp]at this
  exact this
theorem xw{w:World}{Z V:Bool}{G:GP}{it Z9 D fa Z6 L DL:Addr}{S PB:Addr}{ln:Nat}{y1 y2 y3 y4 y5 y6:Tok}{el:Nat}{e0 e1:Nat}{l:List Nat}{vq:Value}{ep:Nat}(h:(0::l).length<2^9)(c:Nat)(hc:∀x∈c::l,x<2^9):
  Ok (W2 w Z V) 4 (lcA (Pw w Z V) G it Z9 D fa Z6 L DL S PB ln y1 y2 y3 y4 y5 y6 el 0 (c::l).length [] e0 [] e1 (qSL ((c::l).map fS) vq) ep (c::l).length (c::l)):=by
 refine Bo λ_ _ _=>?_
 have e:qSL ((c::l).map fS) vq=.str (mS (fS c)) ((au vq).headD 0)::qSL (l.map fS) (a9 vq):=rfl
 rw[e]
 rw[List.length_cons]at h
 have hc2:=hc c (.head _)
 refine lca (by rw[bG,List.length_map];lia) (by simp[fS]) (by lia) λC U O=>?_
 obtain⟨v',hv⟩:=aI [] .none c (U 4)
 have:=nS (w:=w) (Z:=Z) (V:=V) (G:=G) (it:=it) (Z9:=Z9) (D:=D) (fa:=fa) (Z6:=Z6) (L:=L) (DL:=DL) (S:=S) (PB:=PB) (ln:=ln) (y1:=y1) (y2:=y2) (y3:=y3) (y4:=y4) (y5:=y5) (y6:=y6) (el:=el) l [c] 1 (U 1) (U 2) (U 0) (O 0) v' (a9 vq) (U 3) (by simp only[List.length_cons,List.length_nil];lia) λx hx=>hc x (.tail _ hx)
 have Zs:qIL [c] v'=[.int (.ofNat c) (U 4)]:=hv
 rw[Zs,show 1+l.length=(c::l).length by rw[List.length_cons];lia]at this
 exact this
end
section
open PySem PySem.W PySem.W.X PySem.Builtin
noncomputable def eR:Stmt→PySem.Expr
 | .If t _ _ _=>t
 | _=>noE
noncomputable def fcE:PySem.Expr:=hh (eR (aE 17))
noncomputable def ci:PySem.Expr→PySem.Expr
 | .ListComp _ (g::_) _ _=>g.ifs.headD noE
 | _=>noE
noncomputable def mo(x r s:Nat):Nat:=(Int.fmod (.ofNat x- .ofNat r) (.ofNat s)).toNat
theorem fy{x r s:Nat}(hs:0<s):Int.fmod (.ofNat x- .ofNat r) (.ofNat s)=.ofNat (mo x r s):=by
 unfold mo
 have h:0≤Int.fmod (.ofNat x- .ofNat r) (.ofNat s):=Int.fmod_nonneg_of_pos _ (by show(0:Int)<(s:Int);lia)
 exact(Int.toNat_of_nonneg h).symm
noncomputable def oc(x r s:Nat):List Nat:=if mo x r s=0 then[1]else[]
theorem ce(x r s:Nat):(oc x r s).length≤1:=by unfold oc;split<;>simp
noncomputable def icE:PySem.Expr:=gV (ci fcE)
noncomputable def j2(D fa:Addr)(KX:Addr):Env:=g7 (stA 16) icE 162 fa D [(mS s_x,KX)]
noncomputable def icO(P:Params)(RL:Addr)(k:Nat)(vs:List Value)(e0:Nat)(kv:List DictEntry)(e1:Nat)(px:Nat)(up:Tok)(xs:List Value)(e2:Nat)(T0 T1 T2 T3:Option Obj):List (Option Obj):=
 [some (liK RL k),some (lO vs e0),some (diO kv e1),some (ceO (some (.int (.ofNat px) up))),some (lO xs e2),T0,T1,T2,T3]
noncomputable def icF(P:Params)(ns:List Nat):FT:=λ_ U O=>⟨.ok .next,[(0,⟨.type "list_iterator",none,.fields ⟨[O 0,O 1]⟩,⟨[]⟩⟩),(1,lO (qIL ns (O 2)) (U 0)),(2,diO (fsD P (U 1) (U 2) (O 3) (O 4)) (U 3))],[]⟩
noncomputable def icS(P:Params)(G:GP)(it Z9 D fa RL KX g0 g1 g2 g3:Addr)(k:Nat)(vs:List Value)(e0:Nat)(kv:List DictEntry)(e1:Nat)(px:Nat)(up:Tok)(xs:List Value)(e2:Nat)(T0 T1 T2 T3:Option Obj)(ns:List Nat):ac:=
 sd (.compLoop icE 0 (.ref it) (.ref Z9) (j2 D fa KX)) (aa [it,Z9,D,KX,RL,g0,g1,g2,g3]) (icO P RL k vs e0 kv e1 px up xs e2 T0 T1 T2 T3) G G 0 4 5 (icF P ns)
noncomputable def icA(P:Params)(G:GP)(it Z9 D fa RL KX g0 g1 g2 g3:Addr)(k:Nat)(vs:List Value)(e0:Nat)(kv:List DictEntry)(e1:Nat)(px:Nat)(up:Tok)(xs:List Value)(e2:Nat)(T0 T1 T2 T3:Option Obj)(ns:List Nat):ac:=
 sd (.compStart icE 0 (.ref it) (.ref Z9) (j2 D fa KX)) (aa [it,Z9,D,KX,RL,g0,g1,g2,g3]) (icO P RL k vs e0 kv e1 px up xs e2 T0 T1 T2 T3) G G 0 4 5 (icF P ns)
end
section
open PySem PySem.W PySem.W.X PySem.Builtin
section
variable{w:World}{Z V:Bool}{G:GP}{it Z9 D fa RL KX g0 g1 g2 g3:Addr}{e0 e1 px:Nat}{up:Tok}{xs:List Value}{e2:Nat}{T0 T1 T2 T3:Option Obj}{ns:List Nat}{v v1 v2:Value}{z1 z2:Tok}{r0 s0:Nat}{k0 l0:Tok}{d:Int}{m:Nat}{vs:List Value}{r1 s1:Nat}{k1 l1:Tok}{r2 s2:Nat}{k2 l2:Tok}{r3 s3:Nat}{k3 l3:Tok}
theorem tH(nx:NX λC U O=>Ok (W2 w Z V) 4 (icS (Pw w Z V) G it Z9 D fa RL KX g0 g1 g2 g3 0 [] e0 [] e1 px up xs e2 T0 T1 T2 T3 ns)):Ok (W2 w Z V) 4 (icA (Pw w Z V) G it Z9 D fa RL KX g0 g1 g2 g3 0 [] e0 [] e1 px up xs e2 T0 T1 T2 T3 ns):=
 aj nx (λN=>List.map N.r []) (λN=>[]) (λN=>[]) 15
 (.i (pqB V)::[])
 (sF (sg2 (by kernel_rfl)) Z V) (λN=>trivial)
theorem tK:Ok (W2 w Z V) 4 (icS (Pw w Z V) G it Z9 D fa RL KX g0 g1 g2 g3 2 (qIL ns v) e0 (fsD (Pw w Z V) z1 z2 v1 v2) e1 px up [.ref g0,.ref g1] e2 T0 T1 T2 T3 ns):=
 okC [] 20 (λN=>[e0,z1,z2,e1]) (λN=>[.none,(.int 2 0),v,v1,v2])
 (.i (ub 8 0xaea4a4a8a4a4a4a4)::[])
 (λ_ _ _=>by kernel_rfl) (λN=>trivial)
theorem tJ:Ok (W2 w Z V) 4 (icS (Pw w Z V) G it Z9 D fa RL KX g0 g1 g2 g3 3 (qIL ns v) e0 (fsD (Pw w Z V) z1 z2 v1 v2) e1 px up [.ref g0,.ref g1,.ref g2] e2 T0 T1 T2 T3 ns):=
 okC [] 20 (λN=>[e0,z1,z2,e1]) (λN=>[.none,(.int 3 0),v,v1,v2])
 (.i (ub 8 0xaea4a4a8a4a4a4a4)::[])
 (λ_ _ _=>by kernel_rfl) (λN=>trivial)
theorem tI:Ok (W2 w Z V) 4 (icS (Pw w Z V) G it Z9 D fa RL KX g0 g1 g2 g3 4 (qIL ns v) e0 (fsD (Pw w Z V) z1 z2 v1 v2) e1 px up [.ref g0,.ref g1,.ref g2,.ref g3] e2 T0 T1 T2 T3 ns):=
 okC [] 20 (λN=>[e0,z1,z2,e1]) (λN=>[.none,(.int 4 0),v,v1,v2])
 (.i (ub 8 0xaea4a4a8a4a4a4a4)::[])
 (λ_ _ _=>by kernel_rfl) (λN=>trivial)
theorem BS(hd:(.ofNat px:Int)- .ofNat r0=d)(hm:Int.fmod d (.ofNat s0)=.ofNat m)(hs:0<s0)(hb:((.ofNat m:Int)==0)=false)(nx:NX λC U O=>Ok (W2 w Z V) 4 (icS (Pw w Z V) G it Z9 D fa RL KX g0 g1 g2 g3 1 [] (U 2) (fsD (Pw w Z V) (U 0) (U 1) (O 0) (O 1)) (U 3) px up (.ref g0::xs) e2 (some (tuO [.int (.ofNat r0) k0,.int (.ofNat s0) l0])) T1 T2 T3 ns)):Ok (W2 w Z V) 4 (icS (Pw w Z V) G it Z9 D fa RL KX g0 g1 g2 g3 0 [] e0 [] e1 px up (.ref g0::xs) e2 (some (tuO [.int (.ofNat r0) k0,.int (.ofNat s0) l0])) T1 T2 T3 ns):=
 aj nx (λN=>List.map N.r []) (λN=>[(N.t 0),(N.t 1),e0,((e1+1)+1)]) (λN=>[(.int (.ofNat r0) k0),(.int (.ofNat s0) l0)]) 90
 (.i (ub 41 0xa6a7a6a6a6a6afadada9adadadadadada9adadadadadada9adadadadada9a9a9a9a4a4a4a8a4a4a4a4)::.f [] (λN=>dA G (.ofNat px) (.ofNat r0) up k0 d)::.i [166]::.f [] (λN=>aZ G d s0 (N.t 2) l0 (.ofNat m))::.f [] (λN=>cEq G (.ofNat m) 0 (N.t 3) (N.t 4) false)::[])
 (sE (sg1 (by kernel_rfl)) Z) (λN=>⟨okU (bV hd),okU (aH hm hs),okU (kEq hb),trivial⟩)
theorem BR(hd:(.ofNat px:Int)- .ofNat r0=d)(hm:Int.fmod d (.ofNat s0)=.ofNat m)(hs:0<s0)(hb:((.ofNat m:Int)==0)=true)(nx:NX λC U O=>Ok (W2 w Z V) 4 (icS (Pw w Z V) G it Z9 D fa RL KX g0 g1 g2 g3 1 [.int (.ofNat 1) (U 4)] (U 2) (fsD (Pw w Z V) (U 0) (U 1) (O 0) (O 1)) (U 3) px up (.ref g0::xs) e2 (some (tuO [.int (.ofNat r0) k0,.int (.ofNat s0) l0])) T1 T2 T3 ns)):Ok (W2 w Z V) 4 (icS (Pw w Z V) G it Z9 D fa RL KX g0 g1 g2 g3 0 [] e0 [] e1 px up (.ref g0::xs) e2 (some (tuO [.int (.ofNat r0) k0,.int (.ofNat s0) l0])) T1 T2 T3 ns):=
 aj nx (λN=>List.map N.r []) (λN=>[(N.t 0),(N.t 1),(N.t 6),((e1+1)+1),(N.t 5)]) (λN=>[(.int (.ofNat r0) k0),(.int (.ofNat s0) l0)]) 92
 (.i (ub 41 0xa6a7a6a6a6a6afadada9adadadadadada9adadadadadada9adadadadada9a9a9a9a4a4a4a8a4a4a4a4)::.f [] (λN=>dA G (.ofNat px) (.ofNat r0) up k0 d)::.i [166]::.f [] (λN=>aZ G d s0 (N.t 2) l0 (.ofNat m))::.f [] (λN=>cEq G (.ofNat m) 0 (N.t 3) (N.t 4) true)::.f [1] (λN=>am G Z9 [] e0 (.int 1 (N.t 5)))::[])
 (sE (sg1 (by kernel_rfl)) Z) (λN=>⟨okU (bV hd),okU (aH hm hs),okU (kEq hb),okU (ao),trivial⟩)
theorem BQ(hv:vs.length<2^20)(hd:(.ofNat px:Int)- .ofNat r1=d)(hm:Int.fmod d (.ofNat s1)=.ofNat m)(hs:0<s1)(hb:((.ofNat m:Int)==0)=false)(nx:NX λC U O=>Ok (W2 w Z V) 4 (icS (Pw w Z V) G it Z9 D fa RL KX g0 g1 g2 g3 2 vs (U 2) (fsD (Pw w Z V) (U 0) (U 1) (O 0) (O 1)) (U 3) px up (.ref g0::.ref g1::xs) e2 T0 (some (tuO [.int (.ofNat r1) k1,.int (.ofNat s1) l1])) T2 T3 ns)):Ok (W2 w Z V) 4 (icS (Pw w Z V) G it Z9 D fa RL KX g0 g1 g2 g3 1 vs e0 (fsD (Pw w Z V) z1 z2 v1 v2) e1 px up (.ref g0::.ref g1::xs) e2 T0 (some (tuO [.int (.ofNat r1) k1,.int (.ofNat s1) l1])) T2 T3 ns):=
 aj nx (λN=>List.map N.r []) (λN=>[z1,z2,e0,e1]) (λN=>[(.int (.ofNat r1) k1),(.int (.ofNat s1) l1)]) 90
 (.i (ub 41 0xa6a7a6a6a6a6afadadaaadadadadadadaaadadadadadadaaadadadadadaaaaaaaaa4a4a4a8a4a4a4a4)::.f [] (λN=>dA G (.ofNat px) (.ofNat r1) up k1 d)::.i [166]::.f [] (λN=>aZ G d s1 (N.t 2) l1 (.ofNat m))::.f [] (λN=>cEq G (.ofNat m) 0 (N.t 3) (N.t 4) false)::[])
 (sE (sg1 (by kernel_rfl)) Z) (λN=>⟨okU (bV hd),okU (aH hm hs),okU (kEq hb),trivial⟩)
theorem BP(hv:vs.length<2^20)(hd:(.ofNat px:Int)- .ofNat r1=d)(hm:Int.fmod d (.ofNat s1)=.ofNat m)(hs:0<s1)(hb:((.ofNat m:Int)==0)=true)(nx:NX λC U O=>Ok (W2 w Z V) 4 (icS (Pw w Z V) G it Z9 D fa RL KX g0 g1 g2 g3 2 (vs++[.int (.ofNat 1) (U 4)]) (U 2) (fsD (Pw w Z V) (U 0) (U 1) (O 0) (O 1)) (U 3) px up (.ref g0::.ref g1::xs) e2 T0 (some (tuO [.int (.ofNat r1) k1,.int (.ofNat s1) l1])) T2 T3 ns)):Ok (W2 w Z V) 4 (icS (Pw w Z V) G it Z9 D fa RL KX g0 g1 g2 g3 1 vs e0 (fsD (Pw w Z V) z1 z2 v1 v2) e1 px up (.ref g0::.ref g1::xs) e2 T0 (some (tuO [.int (.ofNat r1) k1,.int (.ofNat s1) l1])) T2 T3 ns):=
 aj nx (λN=>List.map N.r []) (λN=>[z1,z2,(N.t 6),e1,(N.t 5)]) (λN=>[(.int (.ofNat r1) k1),(.int (.ofNat s1) l1)]) 92
 (.i (ub 41 0xa6a7a6a6a6a6afadadaaadadadadadadaaadadadadadadaaadadadadadaaaaaaaaa4a4a4a8a4a4a4a4)::.f [] (λN=>dA G (.ofNat px) (.ofNat r1) up k1 d)::.i [166]::.f [] (λN=>aZ G d s1 (N.t 2) l1 (.ofNat m))::.f [] (λN=>cEq G (.ofNat m) 0 (N.t 3) (N.t 4) true)::.f [1] (λN=>am G Z9 vs e0 (.int 1 (N.t 5)))::[])
 (sE (sg1 (by kernel_rfl)) Z) (λN=>⟨okU (bV hd),okU (aH hm hs),okU (kEq hb),okU (ao hv),trivial⟩)
theorem BO(hv:vs.length<2^20)(hd:(.ofNat px:Int)- .ofNat r2=d)(hm:Int.fmod d (.ofNat s2)=.ofNat m)(hs:0<s2)(hb:((.ofNat m:Int)==0)=false)(nx:NX λC U O=>Ok (W2 w Z V) 4 (icS (Pw w Z V) G it Z9 D fa RL KX g0 g1 g2 g3 3 vs (U 2) (fsD (Pw w Z V) (U 0) (U 1) (O 0) (O 1)) (U 3) px up (.ref g0::.ref g1::.ref g2::xs) e2 T0 T1 (some (tuO [.int (.ofNat r2) k2,.int (.ofNat s2) l2])) T3 ns)):Ok (W2 w Z V) 4 (icS (Pw w Z V) G it Z9 D fa RL KX g0 g1 g2 g3 2 vs e0 (fsD (Pw w Z V) z1 z2 v1 v2) e1 px up (.ref g0::.ref g1::.ref g2::xs) e2 T0 T1 (some (tuO [.int (.ofNat r2) k2,.int (.ofNat s2) l2])) T3 ns):=
 aj nx (λN=>List.map N.r []) (λN=>[z1,z2,e0,e1]) (λN=>[(.int (.ofNat r2) k2),(.int (.ofNat s2) l2)]) 90
 (.i (ub 41 0xa6a7a6a6a6a6afadadabadadadadadadabadadadadadadabadadadadadababababa4a4a4a8a4a4a4a4)::.f [] (λN=>dA G (.ofNat px) (.ofNat r2) up k2 d)::.i [166]::.f [] (λN=>aZ G d s2 (N.t 2) l2 (.ofNat m))::.f [] (λN=>cEq G (.ofNat m) 0 (N.t 3) (N.t 4) false)::[])
 (sE (sg1 (by kernel_rfl)) Z) (λN=>⟨okU (bV hd),okU (aH hm hs),okU (kEq hb),trivial⟩)
theorem BN(hv:vs.length<2^20)(hd:(.ofNat px:Int)- .ofNat r2=d)(hm:Int.fmod d (.ofNat s2)=.ofNat m)(hs:0<s2)(hb:((.ofNat m:Int)==0)=true)(nx:NX λC U O=>Ok (W2 w Z V) 4 (icS (Pw w Z V) G it Z9 D fa RL KX g0 g1 g2 g3 3 (vs++[.int (.ofNat 1) (U 4)]) (U 2) (fsD (Pw w Z V) (U 0) (U 1) (O 0) (O 1)) (U 3) px up (.ref g0::.ref g1::.ref g2::xs) e2 T0 T1 (some (tuO [.int (.ofNat r2) k2,.int (.ofNat s2) l2])) T3 ns)):Ok (W2 w Z V) 4 (icS (Pw w Z V) G it Z9 D fa RL KX g0 g1 g2 g3 2 vs e0 (fsD (Pw w Z V) z1 z2 v1 v2) e1 px up (.ref g0::.ref g1::.ref g2::xs) e2 T0 T1 (some (tuO [.int (.ofNat r2) k2,.int (.ofNat s2) l2])) T3 ns):=
 aj nx (λN=>List.map N.r []) (λN=>[z1,z2,(N.t 6),e1,(N.t 5)]) (λN=>[(.int (.ofNat r2) k2),(.int (.ofNat s2) l2)]) 92
 (.i (ub 41 0xa6a7a6a6a6a6afadadabadadadadadadabadadadadadadabadadadadadababababa4a4a4a8a4a4a4a4)::.f [] (λN=>dA G (.ofNat px) (.ofNat r2) up k2 d)::.i [166]::.f [] (λN=>aZ G d s2 (N.t 2) l2 (.ofNat m))::.f [] (λN=>cEq G (.ofNat m) 0 (N.t 3) (N.t 4) true)::.f [1] (λN=>am G Z9 vs e0 (.int 1 (N.t 5)))::[])
 (sE (sg1 (by kernel_rfl)) Z) (λN=>⟨okU (bV hd),okU (aH hm hs),okU (kEq hb),okU (ao hv),trivial⟩)
theorem BL(hv:vs.length<2^20)(hd:(.ofNat px:Int)- .ofNat r3=d)(hm:Int.fmod d (.ofNat s3)=.ofNat m)(hs:0<s3)(hb:((.ofNat m:Int)==0)=false)(nx:NX λC U O=>Ok (W2 w Z V) 4 (icS (Pw w Z V) G it Z9 D fa RL KX g0 g1 g2 g3 4 vs (U 2) (fsD (Pw w Z V) (U 0) (U 1) (O 0) (O 1)) (U 3) px up (.ref g0::.ref g1::.ref g2::.ref g3::xs) e2 T0 T1 T2 (some (tuO [.int (.ofNat r3) k3,.int (.ofNat s3) l3])) ns)):Ok (W2 w Z V) 4 (icS (Pw w Z V) G it Z9 D fa RL KX g0 g1 g2 g3 3 vs e0 (fsD (Pw w Z V) z1 z2 v1 v2) e1 px up (.ref g0::.ref g1::.ref g2::.ref g3::xs) e2 T0 T1 T2 (some (tuO [.int (.ofNat r3) k3,.int (.ofNat s3) l3])) ns):=
 aj nx (λN=>List.map N.r []) (λN=>[z1,z2,e0,e1]) (λN=>[(.int (.ofNat r3) k3),(.int (.ofNat s3) l3)]) 90
 (.i (ub 41 0xa6a7a6a6a6a6afadadacadadadadadadacadadadadadadacadadadadadacacacaca4a4a4a8a4a4a4a4)::.f [] (λN=>dA G (.ofNat px) (.ofNat r3) up k3 d)::.i [166]::.f [] (λN=>aZ G d s3 (N.t 2) l3 (.ofNat m))::.f [] (λN=>cEq G (.ofNat m) 0 (N.t 3) (N.t 4) false)::[])
 (sE (sg1 (by kernel_rfl)) Z) (λN=>⟨okU (bV hd),okU (aH hm hs),okU (kEq hb),trivial⟩)
theorem BK(hv:vs.length<2^20)(hd:(.ofNat px:Int)- .ofNat r3=d)(hm:Int.fmod d (.ofNat s3)=.ofNat m)(hs:0<s3)(hb:((.ofNat m:Int)==0)=true)(nx:NX λC U O=>Ok (W2 w Z V) 4 (icS (Pw w Z V) G it Z9 D fa RL KX g0 g1 g2 g3 4 (vs++[.int (.ofNat 1) (U 4)]) (U 2) (fsD (Pw w Z V) (U 0) (U 1) (O 0) (O 1)) (U 3) px up (.ref g0::.ref g1::.ref g2::.ref g3::xs) e2 T0 T1 T2 (some (tuO [.int (.ofNat r3) k3,.int (.ofNat s3) l3])) ns)):Ok (W2 w Z V) 4 (icS (Pw w Z V) G it Z9 D fa RL KX g0 g1 g2 g3 3 vs e0 (fsD (Pw w Z V) z1 z2 v1 v2) e1 px up (.ref g0::.ref g1::.ref g2::.ref g3::xs) e2 T0 T1 T2 (some (tuO [.int (.ofNat r3) k3,.int (.ofNat s3) l3])) ns):=
 aj nx (λN=>List.map N.r []) (λN=>[z1,z2,(N.t 6),e1,(N.t 5)]) (λN=>[(.int (.ofNat r3) k3),(.int (.ofNat s3) l3)]) 92
 (.i (ub 41 0xa6a7a6a6a6a6afadadacadadadadadadacadadadadadadacadadadadadacacacaca4a4a4a8a4a4a4a4)::.f [] (λN=>dA G (.ofNat px) (.ofNat r3) up k3 d)::.i [166]::.f [] (λN=>aZ G d s3 (N.t 2) l3 (.ofNat m))::.f [] (λN=>cEq G (.ofNat m) 0 (N.t 3) (N.t 4) true)::.f [1] (λN=>am G Z9 vs e0 (.int 1 (N.t 5)))::[])
 (sE (sg1 (by kernel_rfl)) Z) (λN=>⟨okU (bV hd),okU (aH hm hs),okU (kEq hb),okU (ao hv),trivial⟩)
end
variable{w:World}{Z V:Bool}{G:GP}{it Z9 fa RL KX g0 g1 g2 g3:Addr}{px e0 e1 e2 r0 s0 r1 s1 r2 s2:Nat}{up k0 l0 z1 z2 k1 l1 k2 l2:Tok}{v1 v2 v:Value}{nd:List Nat}
theorem jm{D:Addr}{xs:List Value}{T1 T2 T3:Option Obj}{ns:List Nat}(hs:0<s0)
  (nx:∀(v':Value) (e0 e1:Nat) (z1 z2:Tok) (v1 v2:Value),Ok (W2 w Z V) 4 (icS (Pw w Z V) G it Z9 D fa RL KX g0 g1 g2 g3 1 (qIL (oc px r0 s0) v') e0 (fsD (Pw w Z V) z1 z2 v1 v2) e1 px up (.ref g0::xs) e2 (some (tuO [.int (.ofNat r0) k0,.int (.ofNat s0) l0])) T1 T2 T3 ns)):
  Ok (W2 w Z V) 4 (icS (Pw w Z V) G it Z9 D fa RL KX g0 g1 g2 g3 0 [] e0 [] e1 px up (.ref g0::xs) e2 (some (tuO [.int (.ofNat r0) k0,.int (.ofNat s0) l0])) T1 T2 T3 ns):=by
 by_cases h:mo px r0 s0=0
 ·refine BR (m:=0) rfl (by rw[←h];exact fy hs) hs rfl λC U O=>?_
  obtain⟨v',Zs⟩:=aI [] .none 1 (U 4)
  have:=nx v' (U 2) (U 3) (U 0) (U 1) (O 0) (O 1)
  rw[show oc px r0 s0=[1]from if_pos h]at this
  have hv'':qIL [1] v'=[.int (.ofNat 1) (U 4)]:=Zs
  rw[hv'']at this
  exact this
 ·refine BS (m:=mo px r0 s0) rfl (fy hs) hs (by rw[beq_eq_false_iff_ne];exact λy=>h (Int.ofNat.inj y)) λC U O=>?_
  have:=nx .none (U 2) (U 3) (U 0) (U 1) (O 0) (O 1)
  rw[show oc px r0 s0=[]from if_neg h]at this
  first | rw[List.append_nil]at this | skip
  exact this
theorem jl{D:Addr}(hnd:nd.length<2^10){px:Nat}{up:Tok}{xs:List Value}{e0 e1 e2:Nat}{T0 T2 T3:Option Obj}{ns:List Nat}{r1 s1:Nat}{k1 l1:Tok}(hs:0<s1)
  (nx:∀(v':Value) (e0 e1:Nat) (z1 z2:Tok) (v1 v2:Value),Ok (W2 w Z V) 4 (icS (Pw w Z V) G it Z9 D fa RL KX g0 g1 g2 g3 2 (qIL (nd++(oc px r1 s1)) v') e0 (fsD (Pw w Z V) z1 z2 v1 v2) e1 px up (.ref g0::.ref g1::xs) e2 T0 (some (tuO [.int (.ofNat r1) k1,.int (.ofNat s1) l1])) T2 T3 ns)):
  Ok (W2 w Z V) 4 (icS (Pw w Z V) G it Z9 D fa RL KX g0 g1 g2 g3 1 (qIL nd v) e0 (fsD (Pw w Z V) z1 z2 v1 v2) e1 px up (.ref g0::.ref g1::xs) e2 T0 (some (tuO [.int (.ofNat r1) k1,.int (.ofNat s1) l1])) T2 T3 ns):=by
 by_cases h:mo px r1 s1=0
 ·refine BP (by rw[az];lia) (m:=0) rfl (by rw[←h];exact fy hs) hs rfl λC U O=>?_
  obtain⟨v',Zs⟩:=aI nd v 1 (U 4)
  have:=nx v' (U 2) (U 3) (U 0) (U 1) (O 0) (O 1)
  rw[show oc px r1 s1=[1]from if_pos h]at this
  have hv'':qIL (nd++[1]) v'=qIL nd v++[.int (.ofNat 1) (U 4)]:=Zs
  rw[hv'']at this
  exact this
 ·refine BQ (by rw[az];lia) (m:=mo px r1 s1) rfl (fy hs) hs (by rw[beq_eq_false_iff_ne];exact λy=>h (Int.ofNat.inj y)) λC U O=>?_
  have:=nx v (U 2) (U 3) (U 0) (U 1) (O 0) (O 1)
  rw[show oc px r1 s1=[]from if_neg h]at this
  first | rw[List.append_nil]at this | skip
  exact this
theorem lw{D:Addr}(hnd:nd.length<2^10){px:Nat}{up:Tok}{xs:List Value}{e0 e1 e2:Nat}{T0 T1 T3:Option Obj}{ns:List Nat}{r2 s2:Nat}{k2 l2:Tok}(hs:0<s2)
  (nx:∀(v':Value) (e0 e1:Nat) (z1 z2:Tok) (v1 v2:Value),Ok (W2 w Z V) 4 (icS (Pw w Z V) G it Z9 D fa RL KX g0 g1 g2 g3 3 (qIL (nd++(oc px r2 s2)) v') e0 (fsD (Pw w Z V) z1 z2 v1 v2) e1 px up (.ref g0::.ref g1::.ref g2::xs) e2 T0 T1 (some (tuO [.int (.ofNat r2) k2,.int (.ofNat s2) l2])) T3 ns)):
  Ok (W2 w Z V) 4 (icS (Pw w Z V) G it Z9 D fa RL KX g0 g1 g2 g3 2 (qIL nd v) e0 (fsD (Pw w Z V) z1 z2 v1 v2) e1 px up (.ref g0::.ref g1::.ref g2::xs) e2 T0 T1 (some (tuO [.int (.ofNat r2) k2,.int (.ofNat s2) l2])) T3 ns):=by
 by_cases h:mo px r2 s2=0
 ·refine BN (by rw[az];lia) (m:=0) rfl (by rw[←h];exact fy hs) hs rfl λC U O=>?_
  obtain⟨v',Zs⟩:=aI nd v 1 (U 4)
  have:=nx v' (U 2) (U 3) (U 0) (U 1) (O 0) (O 1)
  rw[show oc px r2 s2=[1]from if_pos h]at this
  have hv'':qIL (nd++[1]) v'=qIL nd v++[.int (.ofNat 1) (U 4)]:=Zs
  rw[hv'']at this
  exact this
 ·refine BO (by rw[az];lia) (m:=mo px r2 s2) rfl (fy hs) hs (by rw[beq_eq_false_iff_ne];exact λy=>h (Int.ofNat.inj y)) λC U O=>?_
  have:=nx v (U 2) (U 3) (U 0) (U 1) (O 0) (O 1)
  rw[show oc px r2 s2=[]from if_neg h]at this
  first | rw[List.append_nil]at this | skip
  exact this
theorem pY{D:Addr}(hnd:nd.length<2^10){px:Nat}{up:Tok}{xs:List Value}{e0 e1 e2:Nat}{T0 T1 T2:Option Obj}{ns:List Nat}{r3 s3:Nat}{k3 l3:Tok}(hs:0<s3)
  (nx:∀(v':Value) (e0 e1:Nat) (z1 z2:Tok) (v1 v2:Value),Ok (W2 w Z V) 4 (icS (Pw w Z V) G it Z9 D fa RL KX g0 g1 g2 g3 4 (qIL (nd++(oc px r3 s3)) v') e0 (fsD (Pw w Z V) z1 z2 v1 v2) e1 px up (.ref g0::.ref g1::.ref g2::.ref g3::xs) e2 T0 T1 T2 (some (tuO [.int (.ofNat r3) k3,.int (.ofNat s3) l3])) ns)):
  Ok (W2 w Z V) 4 (icS (Pw w Z V) G it Z9 D fa RL KX g0 g1 g2 g3 3 (qIL nd v) e0 (fsD (Pw w Z V) z1 z2 v1 v2) e1 px up (.ref g0::.ref g1::.ref g2::.ref g3::xs) e2 T0 T1 T2 (some (tuO [.int (.ofNat r3) k3,.int (.ofNat s3) l3])) ns):=by
 by_cases h:mo px r3 s3=0
 ·refine BK (by rw[az];lia) (m:=0) rfl (by rw[←h];exact fy hs) hs rfl λC U O=>?_
  obtain⟨v',Zs⟩:=aI nd v 1 (U 4)
  have:=nx v' (U 2) (U 3) (U 0) (U 1) (O 0) (O 1)
  rw[show oc px r3 s3=[1]from if_pos h]at this
  have hv'':qIL (nd++[1]) v'=qIL nd v++[.int (.ofNat 1) (U 4)]:=Zs
  rw[hv'']at this
  exact this
 ·refine BL (by rw[az];lia) (m:=mo px r3 s3) rfl (fy hs) hs (by rw[beq_eq_false_iff_ne];exact λy=>h (Int.ofNat.inj y)) λC U O=>?_
  have:=nx v (U 2) (U 3) (U 0) (U 1) (O 0) (O 1)
  rw[show oc px r3 s3=[]from if_neg h]at this
  first | rw[List.append_nil]at this | skip
  exact this
noncomputable def p5(P:Params)(G:GP)(it Z9 D fa RL KX g0 g1:Addr)(e0 e1 e2:Nat)(px:Nat)(up:Tok)(r0 s0 r1 s1:Nat)(k0 l0 k1 l1:Tok)(ns:List Nat):ac:=
 sd (.compStart icE 0 (.ref it) (.ref Z9) (j2 D fa KX)) (aa [it,Z9,D,KX,RL,g0,g1]) [some (liK RL 0),some (lO [] e0),some (diO [] e1),some (ceO (some (.int (.ofNat px) up))),some (lO [.ref g0,.ref g1] e2),some (tuO [.int (.ofNat r0) k0,.int (.ofNat s0) l0]),some (tuO [.int (.ofNat r1) k1,.int (.ofNat s1) l1])] G G 0 4 5 (icF P ns)
theorem tN{D:Addr}(ZK:0<s0)(ZJ:0<s1):Ok (W2 w Z V) 4 (p5 (Pw w Z V) G it Z9 D fa RL KX g0 g1 e0 e1 e2 px up r0 s0 r1 s1 k0 l0 k1 l1 ((oc px r0 s0)++(oc px r1 s1))):=by
 have h:Ok (W2 w Z V) 4 (icA (Pw w Z V) G it Z9 D fa RL KX g0 g1 0 0 0 [] e0 [] e1 px up [.ref g0,.ref g1] e2 (some (tuO [.int (.ofNat r0) k0,.int (.ofNat s0) l0])) (some (tuO [.int (.ofNat r1) k1,.int (.ofNat s1) l1])) none none ((oc px r0 s0)++(oc px r1 s1))):=by
  refine tH λ_ _ _=>?_
  refine jm ZK λ_ _ _ _ _ _ _=>?_
  refine jl (by have:=ce px r0 s0;first | lia | (simp only[List.length_append];lia)) ZJ λ_ _ _ _ _ _ _=>?_
  exact tK
 exact dH (ex:=[((0:Addr),(none:Option Obj)),((0:Addr),(none:Option Obj))]) h rfl (λC U O p hp=>by
  have hp:p∈[((0:Nat),_),(1,_),(2,_)]:=hp
  simp only[List.mem_cons,List.not_mem_nil,or_false]at hp
  rcases hp with rfl | rfl | rfl
  ·show 0<7;decide
  ·show 1<7;decide
  ·show 2<7;decide)
noncomputable def p4(P:Params)(G:GP)(it Z9 D fa RL KX g0 g1 g2:Addr)(e0 e1 e2:Nat)(px:Nat)(up:Tok)(r0 s0 r1 s1 r2 s2:Nat)(k0 l0 k1 l1 k2 l2:Tok)(ns:List Nat):ac:=
 sd (.compStart icE 0 (.ref it) (.ref Z9) (j2 D fa KX)) (aa [it,Z9,D,KX,RL,g0,g1,g2]) [some (liK RL 0),some (lO [] e0),some (diO [] e1),some (ceO (some (.int (.ofNat px) up))),some (lO [.ref g0,.ref g1,.ref g2] e2),some (tuO [.int (.ofNat r0) k0,.int (.ofNat s0) l0]),some (tuO [.int (.ofNat r1) k1,.int (.ofNat s1) l1]),some (tuO [.int (.ofNat r2) k2,.int (.ofNat s2) l2])] G G 0 4 5 (icF P ns)
theorem tM{D:Addr}(ZK:0<s0)(ZJ:0<s1)(ZI:0<s2):Ok (W2 w Z V) 4 (p4 (Pw w Z V) G it Z9 D fa RL KX g0 g1 g2 e0 e1 e2 px up r0 s0 r1 s1 r2 s2 k0 l0 k1 l1 k2 l2 (((oc px r0 s0)++(oc px r1 s1))++(oc px r2 s2))):=by
 have h:Ok (W2 w Z V) 4 (icA (Pw w Z V) G it Z9 D fa RL KX g0 g1 g2 0 0 [] e0 [] e1 px up [.ref g0,.ref g1,.ref g2] e2 (some (tuO [.int (.ofNat r0) k0,.int (.ofNat s0) l0])) (some (tuO [.int (.ofNat r1) k1,.int (.ofNat s1) l1])) (some (tuO [.int (.ofNat r2) k2,.int (.ofNat s2) l2])) none (((oc px r0 s0)++(oc px r1 s1))++(oc px r2 s2))):=by
  refine tH λ_ _ _=>?_
  refine jm ZK λ_ _ _ _ _ _ _=>?_
  refine jl (by have:=ce px r0 s0;first | lia | (simp only[List.length_append];lia)) ZJ λ_ _ _ _ _ _ _=>?_
  refine lw (by have:=ce px r0 s0;have:=ce px r1 s1;first | lia | (simp only[List.length_append];lia)) ZI λ_ _ _ _ _ _ _=>?_
  exact tJ
 exact dH (ex:=[((0:Addr),(none:Option Obj))]) h rfl (λC U O p hp=>by
  have hp:p∈[((0:Nat),_),(1,_),(2,_)]:=hp
  simp only[List.mem_cons,List.not_mem_nil,or_false]at hp
  rcases hp with rfl | rfl | rfl
  ·show 0<8;decide
  ·show 1<8;decide
  ·show 2<8;decide)
noncomputable def pZ(P:Params)(G:GP)(it Z9 D fa RL KX g0 g1 g2 g3:Addr)(e0 e1 e2:Nat)(px:Nat)(up:Tok)(r0 s0 r1 s1 r2 s2 r3 s3:Nat)(k0 l0 k1 l1 k2 l2 k3 l3:Tok)(ns:List Nat):ac:=
 sd (.compStart icE 0 (.ref it) (.ref Z9) (j2 D fa KX)) (aa [it,Z9,D,KX,RL,g0,g1,g2,g3]) [some (liK RL 0),some (lO [] e0),some (diO [] e1),some (ceO (some (.int (.ofNat px) up))),some (lO [.ref g0,.ref g1,.ref g2,.ref g3] e2),some (tuO [.int (.ofNat r0) k0,.int (.ofNat s0) l0]),some (tuO [.int (.ofNat r1) k1,.int (.ofNat s1) l1]),some (tuO [.int (.ofNat r2) k2,.int (.ofNat s2) l2]),some (tuO [.int (.ofNat r3) k3,.int (.ofNat s3) l3])] G G 0 4 5 (icF P ns)
theorem tL{D:Addr}{r3 s3:Nat}{k3 l3:Tok}(ZK:0<s0)(ZJ:0<s1)(ZI:0<s2)(ZH:0<s3):Ok (W2 w Z V) 4 (pZ (Pw w Z V) G it Z9 D fa RL KX g0 g1 g2 g3 e0 e1 e2 px up r0 s0 r1 s1 r2 s2 r3 s3 k0 l0 k1 l1 k2 l2 k3 l3 ((((oc px r0 s0)++(oc px r1 s1))++(oc px r2 s2))++(oc px r3 s3))):=by
 have h:Ok (W2 w Z V) 4 (icA (Pw w Z V) G it Z9 D fa RL KX g0 g1 g2 g3 0 [] e0 [] e1 px up [.ref g0,.ref g1,.ref g2,.ref g3] e2 (some (tuO [.int (.ofNat r0) k0,.int (.ofNat s0) l0])) (some (tuO [.int (.ofNat r1) k1,.int (.ofNat s1) l1])) (some (tuO [.int (.ofNat r2) k2,.int (.ofNat s2) l2])) (some (tuO [.int (.ofNat r3) k3,.int (.ofNat s3) l3])) ((((oc px r0 s0)++(oc px r1 s1))++(oc px r2 s2))++(oc px r3 s3))):=by
  refine tH λ_ _ _=>?_
  refine jm ZK λ_ _ _ _ _ _ _=>?_
  refine jl (by have:=ce px r0 s0;first | lia | (simp only[List.length_append];lia)) ZJ λ_ _ _ _ _ _ _=>?_
  refine lw (by have:=ce px r0 s0;have:=ce px r1 s1;first | lia | (simp only[List.length_append];lia)) ZI λ_ _ _ _ _ _ _=>?_
  refine pY (by have:=ce px r0 s0;have:=ce px r1 s1;have:=ce px r2 s2;first | lia | (simp only[List.length_append];lia)) ZH λ_ _ _ _ _ _ _=>?_
  exact tI
 exact dH (ex:=[]) h rfl (λC U O p hp=>by
  have hp:p∈[((0:Nat),_),(1,_),(2,_)]:=hp
  simp only[List.mem_cons,List.not_mem_nil,or_false]at hp
  rcases hp with rfl | rfl | rfl
  ·show 0<9;decide
  ·show 1<9;decide
  ·show 2<9;decide)
end
section
open PySem PySem.W PySem.W.X
noncomputable abbrev pnT:=@PySem.W.Fast.tw9404975358583537561
noncomputable abbrev asT:=@PySem.W.Fast.tw17772580674575903948
noncomputable abbrev loT:=@PySem.W.Fast.tw1578499551869305889
noncomputable abbrev caT:=@PySem.W.Fast.tw11478286150595567475
noncomputable abbrev agT:=@PySem.W.Fast.tw12377390311714414960
theorem sK:@PySem.pyNext=@pnT:=PySem.W.Fast.te9404975358583537561
theorem uD:@PySem.assign=@asT:=PySem.W.Fast.te17772580674575903948
theorem tj:@PySem.letOwnedTupleGo=@loT:=PySem.W.Fast.te1578499551869305889
theorem ur:@PySem.call=@caT:=PySem.W.Fast.te11478286150595567475
theorem uE:@PySem.again=@agT:=PySem.W.Fast.te12377390311714414960
noncomputable def uo(elt target iter:Expr)(l:Expr)(op:CmpOp)(r:Expr)(cp:Pos)(c:Code)(it Z9:Value)(env:Env):Sem PySem.Fin:=
 bdT (standAt iter.pos) λ_=>bdT (pnT it) λx=>match x with
  | none=>.pure (.done .next)
  | some v=>bdT (loT target it v) λ_=>bdT (asT target env v) λ_=>bdT (mI l op r cp env) λok=>match ok with
   | true=>bdT (evT elt env) λy=>bdT (caT (.builtin "list.append") [Z9,y] []) λ_=>agT c
   | false=>agT c
theorem oH{w:World}{elt target iter l r:Expr}{op:CmpOp}{cp pos:Pos}{sc:Scope}{it Z9:Value}{env:Env}(hop:op=.NotEq∨op=.Eq)(hm:behindInMarks op r=false):
  bk w (.compLoop (.ListComp elt [⟨target,iter,[.Compare l [op] [r] cp],0⟩] sc pos) 0 it Z9 env) (uo elt target iter l op r cp (.compLoop (.ListComp elt [⟨target,iter,[.Compare l [op] [r] cp],0⟩] sc pos) 0 it Z9 env) it Z9 env):=
 f6 (t:=compTurn (.ListComp elt [⟨target,iter,[.Compare l [op] [r] cp],0⟩] sc pos) 0 it Z9 env) (H:=λx=>do noteFrame x env;theTreesLotGoes x) (Nat.zero_le _) rfl λΓ hu=>by
  intro Q E p s x
  unfold uo at x
  simp only[bD]at x
  rw[←sK,←tj,←uD,←jq,←ur,←uE]at x
  rw[compTurn_list]
  simp only[Sem.wp_bind',Sem.wp_cmd_standAt]at x ⊢
  refine Sem.wp_mono _ _ _ (λv p s y=>?_) (λ_ _ _ y=>y) _ _ x
  cases v with
  | none=>exact y
  | some v=>
   simp only[Sem.wp_bind']at y ⊢
   refine Sem.wp_mono _ _ _ (λ_ p s y=>?_) (λ_ _ _ y=>y) _ _ y
   refine Sem.wp_mono _ _ _ (λ_ p s y=>?_) (λ_ _ _ y=>y) _ _ y
   simp only[List.forIn_cons,List.forIn_nil,if_true,Sem.wp_bind',Sem.wp_pure']at y ⊢
   refine ju hu hop hm _ _ _ _ (Sem.wp_mono _ _ _ (λok p s z=>?_) (λ_ _ _ y=>y) _ _ y)
   cases ok with
   | true=>
    simp only[if_true,Sem.wp_bind',Sem.wp_pure']at z ⊢
    exact z
   | false=>
    simp only[Bool.false_eq_true,if_false,Sem.wp_pure',Sem.wp_bind']at z ⊢
    exact z
end
section
open PySem PySem.W PySem.W.X PySem.Builtin
noncomputable def bh(D fa KX Z8:Addr):Env:=g7 (stA 16) fcE 162 fa D [(mS s_x,KX),(mS gc,Z8)]
noncomputable def nU:PySem.Expr→PySem.Expr
 | .ListComp e _ _ _=>e
 | _=>noE
noncomputable def nR:PySem.Expr→PySem.Expr
 | .ListComp _ (g::_) _ _=>g.target
 | _=>noE
noncomputable def kQ:PySem.Expr→PySem.Expr
 | .ListComp _ (g::_) _ _=>g.iter
 | _=>noE
noncomputable def xt:PySem.Expr→Scope
 | .ListComp _ _ s _=>s
 | _=>scS (.Pass ⟨0,0,0,0⟩)
noncomputable def qJ:PySem.Expr→Pos
 | .ListComp _ _ _ p=>p
 | _=>⟨0,0,0,0⟩
noncomputable def fcT(it Z9:Addr)(env:Env):Sem PySem.Fin:=uo (nU fcE) (nR fcE) (kQ fcE) (gV (ci fcE)) .Eq (hh (ci fcE)) (jv (ci fcE)) (.compLoop fcE 0 (.ref it) (.ref Z9) env) (.ref it) (.ref Z9) env
theorem qd:fcE=.ListComp (nU fcE) [⟨nR fcE,kQ fcE,[.Compare (gV (ci fcE)) [.Eq] [hh (ci fcE)] (jv (ci fcE))],0⟩] (xt fcE) (qJ fcE):=by kernel_rfl
variable{w:World}{Z V:Bool}{G:GP}{it Z9 fa RL KX g0 g1 g2:Addr}{e0 e1 e2 x r0 s0 r1 s1 r2 s2:Nat}{up k0 l0 k1 l1 k2 l2:Tok}{ns:List Nat}
theorem cN(it Z9:Addr)(env:Env):bk w (.compLoop fcE 0 (.ref it) (.ref Z9) env) (fcT it Z9 env):=by
 have h:=oH (w:=w) (elt:=nU fcE) (target:=nR fcE) (iter:=kQ fcE) (l:=gV (ci fcE)) (r:=hh (ci fcE)) (op:=.Eq) (cp:=jv (ci fcE)) (pos:=qJ fcE) (sc:=xt fcE) (it:=.ref it) (Z9:=.ref Z9) (env:=env) (.inr rfl) (by kernel_rfl)
 rw[←qd]at h
 exact h
noncomputable def oc2(x r0 s0 r1 s1:Nat):List Nat:=((oc x r0 s0)++(oc x r1 s1))
theorem xJ{D:Addr}(h:oc2 x r0 s0 r1 s1=ns)(ZK:0<s0)(ZJ:0<s1):Ok (W2 w Z V) 4 (p5 (Pw w Z V) G it Z9 D fa RL KX g0 g1 e0 e1 e2 x up r0 s0 r1 s1 k0 l0 k1 l1 ns):=by
 subst h
 exact tN ZK ZJ
noncomputable def yp(RL g0 g1:Addr)(i m:Nat)(vs:List Value)(e0 e1:Nat)(ov:Option Value)(e2:Nat)(r0 s0 r1 s1:Nat)(k0 l0 k1 l1:Tok):List (Option Obj):=[some (riO (.ofNat i) (.ofNat m) 1),some (lO vs e0),some (diO [] e1),some (ceO ov),some (ceO (some (.ref RL))),some (lO [.ref g0,.ref g1] e2),some (tuO [.int (.ofNat r0) k0,.int (.ofNat s0) l0]),some (tuO [.int (.ofNat r1) k1,.int (.ofNat s1) l1])]
noncomputable def yw(n:Nat)(ns:List Nat):FT:=λ_ U O=>⟨.ok .next,[(0,riO (.ofNat n) (.ofNat 0) 1),(1,lO (qIL ns (O 0)) (U 0)),(3,ceO (some (O 1)))],[]⟩
noncomputable def kh(G:GP)(it Z9 D fa KX Z8 RL g0 g1:Addr)(i m:Nat)(vs:List Value)(e0 e1:Nat)(ov:Option Value)(e2:Nat)(r0 s0 r1 s1:Nat)(k0 l0 k1 l1:Tok)(n:Nat)(ns:List Nat):ac:=
 sd (.compLoop fcE 0 (.ref it) (.ref Z9) (bh D fa KX Z8)) (aa [it,Z9,D,KX,Z8,RL,g0,g1]) (yp RL g0 g1 i m vs e0 e1 ov e2 r0 s0 r1 s1 k0 l0 k1 l1) G G 0 1 2 (yw n ns)
noncomputable def oE(G:GP)(it Z9 D fa KX Z8 RL g0 g1:Addr)(i m:Nat)(vs:List Value)(e0 e1:Nat)(ov:Option Value)(e2:Nat)(r0 s0 r1 s1:Nat)(k0 l0 k1 l1:Tok)(n:Nat)(ns:List Nat):ac:=
 sd (.compStart fcE 0 (.ref it) (.ref Z9) (bh D fa KX Z8)) (aa [it,Z9,D,KX,Z8,RL,g0,g1]) (yp RL g0 g1 i m vs e0 e1 ov e2 r0 s0 r1 s1 k0 l0 k1 l1) G G 0 1 2 (yw n ns)
noncomputable def oc3(x r0 s0 r1 s1 r2 s2:Nat):List Nat:=(((oc x r0 s0)++(oc x r1 s1))++(oc x r2 s2))
theorem xI{D:Addr}(h:oc3 x r0 s0 r1 s1 r2 s2=ns)(ZK:0<s0)(ZJ:0<s1)(ZI:0<s2):Ok (W2 w Z V) 4 (p4 (Pw w Z V) G it Z9 D fa RL KX g0 g1 g2 e0 e1 e2 x up r0 s0 r1 s1 r2 s2 k0 l0 k1 l1 k2 l2 ns):=by
 subst h
 exact tM ZK ZJ ZI
noncomputable def yo(RL g0 g1 g2:Addr)(i m:Nat)(vs:List Value)(e0 e1:Nat)(ov:Option Value)(e2:Nat)(r0 s0 r1 s1 r2 s2:Nat)(k0 l0 k1 l1 k2 l2:Tok):List (Option Obj):=[some (riO (.ofNat i) (.ofNat m) 1),some (lO vs e0),some (diO [] e1),some (ceO ov),some (ceO (some (.ref RL))),some (lO [.ref g0,.ref g1,.ref g2] e2),some (tuO [.int (.ofNat r0) k0,.int (.ofNat s0) l0]),some (tuO [.int (.ofNat r1) k1,.int (.ofNat s1) l1]),some (tuO [.int (.ofNat r2) k2,.int (.ofNat s2) l2])]
noncomputable def yv(n:Nat)(ns:List Nat):FT:=λ_ U O=>⟨.ok .next,[(0,riO (.ofNat n) (.ofNat 0) 1),(1,lO (qIL ns (O 0)) (U 0)),(3,ceO (some (O 1)))],[]⟩
noncomputable def kg(G:GP)(it Z9 D fa KX Z8 RL g0 g1 g2:Addr)(i m:Nat)(vs:List Value)(e0 e1:Nat)(ov:Option Value)(e2:Nat)(r0 s0 r1 s1 r2 s2:Nat)(k0 l0 k1 l1 k2 l2:Tok)(n:Nat)(ns:List Nat):ac:=
 sd (.compLoop fcE 0 (.ref it) (.ref Z9) (bh D fa KX Z8)) (aa [it,Z9,D,KX,Z8,RL,g0,g1,g2]) (yo RL g0 g1 g2 i m vs e0 e1 ov e2 r0 s0 r1 s1 r2 s2 k0 l0 k1 l1 k2 l2) G G 0 1 2 (yv n ns)
noncomputable def oD(G:GP)(it Z9 D fa KX Z8 RL g0 g1 g2:Addr)(i m:Nat)(vs:List Value)(e0 e1:Nat)(ov:Option Value)(e2:Nat)(r0 s0 r1 s1 r2 s2:Nat)(k0 l0 k1 l1 k2 l2:Tok)(n:Nat)(ns:List Nat):ac:=
 sd (.compStart fcE 0 (.ref it) (.ref Z9) (bh D fa KX Z8)) (aa [it,Z9,D,KX,Z8,RL,g0,g1,g2]) (yo RL g0 g1 g2 i m vs e0 e1 ov e2 r0 s0 r1 s1 r2 s2 k0 l0 k1 l1 k2 l2) G G 0 1 2 (yv n ns)
noncomputable def oc4(x r0 s0 r1 s1 r2 s2 r3 s3:Nat):List Nat:=((((oc x r0 s0)++(oc x r1 s1))++(oc x r2 s2))++(oc x r3 s3))
theorem xH{D g3:Addr}{r3 s3:Nat}{k3 l3:Tok}(h:oc4 x r0 s0 r1 s1 r2 s2 r3 s3=ns)(ZK:0<s0)(ZJ:0<s1)(ZI:0<s2)(ZH:0<s3):Ok (W2 w Z V) 4 (pZ (Pw w Z V) G it Z9 D fa RL KX g0 g1 g2 g3 e0 e1 e2 x up r0 s0 r1 s1 r2 s2 r3 s3 k0 l0 k1 l1 k2 l2 k3 l3 ns):=by
 subst h
 exact tL ZK ZJ ZI ZH
noncomputable def yn(RL g0 g1 g2 g3:Addr)(i m:Nat)(vs:List Value)(e0 e1:Nat)(ov:Option Value)(e2:Nat)(r0 s0 r1 s1 r2 s2 r3 s3:Nat)(k0 l0 k1 l1 k2 l2 k3 l3:Tok):List (Option Obj):=[some (riO (.ofNat i) (.ofNat m) 1),some (lO vs e0),some (diO [] e1),some (ceO ov),some (ceO (some (.ref RL))),some (lO [.ref g0,.ref g1,.ref g2,.ref g3] e2),some (tuO [.int (.ofNat r0) k0,.int (.ofNat s0) l0]),some (tuO [.int (.ofNat r1) k1,.int (.ofNat s1) l1]),some (tuO [.int (.ofNat r2) k2,.int (.ofNat s2) l2]),some (tuO [.int (.ofNat r3) k3,.int (.ofNat s3) l3])]
noncomputable def yu(n:Nat)(ns:List Nat):FT:=λ_ U O=>⟨.ok .next,[(0,riO (.ofNat n) (.ofNat 0) 1),(1,lO (qIL ns (O 0)) (U 0)),(3,ceO (some (O 1)))],[]⟩
noncomputable def ke(G:GP)(it Z9 D fa KX Z8 RL g0 g1 g2 g3:Addr)(i m:Nat)(vs:List Value)(e0 e1:Nat)(ov:Option Value)(e2:Nat)(r0 s0 r1 s1 r2 s2 r3 s3:Nat)(k0 l0 k1 l1 k2 l2 k3 l3:Tok)(n:Nat)(ns:List Nat):ac:=
 sd (.compLoop fcE 0 (.ref it) (.ref Z9) (bh D fa KX Z8)) (aa [it,Z9,D,KX,Z8,RL,g0,g1,g2,g3]) (yn RL g0 g1 g2 g3 i m vs e0 e1 ov e2 r0 s0 r1 s1 r2 s2 r3 s3 k0 l0 k1 l1 k2 l2 k3 l3) G G 0 1 2 (yu n ns)
noncomputable def oC(G:GP)(it Z9 D fa KX Z8 RL g0 g1 g2 g3:Addr)(i m:Nat)(vs:List Value)(e0 e1:Nat)(ov:Option Value)(e2:Nat)(r0 s0 r1 s1 r2 s2 r3 s3:Nat)(k0 l0 k1 l1 k2 l2 k3 l3:Tok)(n:Nat)(ns:List Nat):ac:=
 sd (.compStart fcE 0 (.ref it) (.ref Z9) (bh D fa KX Z8)) (aa [it,Z9,D,KX,Z8,RL,g0,g1,g2,g3]) (yn RL g0 g1 g2 g3 i m vs e0 e1 ov e2 r0 s0 r1 s1 r2 s2 r3 s3 k0 l0 k1 l1 k2 l2 k3 l3) G G 0 1 2 (yu n ns)
end
section
open PySem PySem.W PySem.W.X PySem.Builtin
section
variable{w:World}{Z V:Bool}{G:GP}{it Z9 D fa KX Z8 RL g0 g1:Addr}{i m e0 e1:Nat}{ov:Option Value}{e2 r0 s0 r1 s1:Nat}{k0 l0 k1 l1:Tok}{n:Nat}{ns:List Nat}{v v1:Value}{vs:List Value}{z:Nat}{zl:List Nat}{g2:Addr}{r2 s2:Nat}{k2 l2:Tok}{g3:Addr}{r3 s3:Nat}{k3 l3:Tok}
theorem yt(nx:NX λC U O=>Ok (W2 w Z V) 5 (kh G it Z9 D fa KX Z8 RL g0 g1 i m [] e0 e1 ov e2 r0 s0 r1 s1 k0 l0 k1 l1 n ns)):Ok (W2 w Z V) 5 (oE G it Z9 D fa KX Z8 RL g0 g1 i m [] e0 e1 ov e2 r0 s0 r1 s1 k0 l0 k1 l1 n ns):=
 aj nx (λN=>List.map N.r []) (λN=>[]) (λN=>[]) 15
 (.i (pqB V)::[])
 (sF (sg2 (by kernel_rfl)) Z V) (λN=>trivial)
theorem uh:Ok (W2 w Z V) 5 (kh G it Z9 D fa KX Z8 RL g0 g1 n 0 (qIL ns v) e0 e1 (some v1) e2 r0 s0 r1 s1 k0 l0 k1 l1 n ns):=
 fD (fcT it Z9 (bh D fa KX Z8)) (cN it Z9 (bh D fa KX Z8)) [] 18 (λN=>[e0]) (λN=>[v,v1])
 (.i (ub 6 0xada4a4a4a4a4)::[])
 (λ_ _ _=>by kernel_rfl) (λN=>trivial)
theorem yC(h:oc2 i r0 s0 r1 s1=z::zl)(ZK:0<s0)(ZJ:0<s1)(nx:NX λC U O=>Ok (W2 w Z V) 5 (kh G it Z9 D fa KX Z8 RL g0 g1 (i+1) m vs (U 0) e1 (some (.int (.ofNat i) (U 1))) e2 r0 s0 r1 s1 k0 l0 k1 l1 n ns)):Ok (W2 w Z V) 5 (kh G it Z9 D fa KX Z8 RL g0 g1 i (m+1) vs e0 e1 ov e2 r0 s0 r1 s1 k0 l0 k1 l1 n ns):=
 cD nx (fcT it Z9 (bh D fa KX Z8)) (cN it Z9 (bh D fa KX Z8)) (λN=>List.map N.r []) (λN=>[e0,(N.t 0)]) (λN=>[]) 52
 (.i [164]::.f [0] (λN=>aY G it i m)::.i (ub 7 0xaca9a9a9a8a7a7)::.f [8,9,10,3,5,6,7] (λN=>p5 (Pw w Z V) G (N.r 8) (N.r 9) (N.r 10) fa RL KX g0 g1 0 0 e2 i (N.t 0) r0 s0 r1 s1 k0 l0 k1 l1 (z::zl))::.i (ub 13 0xafadafadadafadaeaeaeaeaeae)::[])
 (sE (sg1 (by kernel_rfl)) Z) (λN=>⟨okU (aQ),okU (xJ h ZK ZJ),trivial⟩)
theorem yz(h:oc2 i r0 s0 r1 s1=[])(hv:vs.length<2^20)(ZK:0<s0)(ZJ:0<s1)(nx:NX λC U O=>Ok (W2 w Z V) 5 (kh G it Z9 D fa KX Z8 RL g0 g1 (i+1) m (vs++[.int (.ofNat i) (U 1)]) (U 0) e1 (some (.int (.ofNat i) (U 1))) e2 r0 s0 r1 s1 k0 l0 k1 l1 n ns)):Ok (W2 w Z V) 5 (kh G it Z9 D fa KX Z8 RL g0 g1 i (m+1) vs e0 e1 ov e2 r0 s0 r1 s1 k0 l0 k1 l1 n ns):=
 cD nx (fcT it Z9 (bh D fa KX Z8)) (cN it Z9 (bh D fa KX Z8)) (λN=>List.map N.r []) (λN=>[(N.t 5),(N.t 0)]) (λN=>[]) 59
 (.i [164]::.f [0] (λN=>aY G it i m)::.i (ub 7 0xaca9a9a9a8a7a7)::.f [8,9,10,3,5,6,7] (λN=>p5 (Pw w Z V) G (N.r 8) (N.r 9) (N.r 10) fa RL KX g0 g1 0 0 e2 i (N.t 0) r0 s0 r1 s1 k0 l0 k1 l1 [])::.i (ub 18 0xa7afadafadafadafadadafadaeaeaeaeaeae)::.f [1] (λN=>am G Z9 vs e0 (.int (.ofNat i) (N.t 0)))::[])
 (sE (sg1 (by kernel_rfl)) Z) (λN=>⟨okU (aQ),okU (xJ h ZK ZJ),okU (ao hv),trivial⟩)
theorem yr(nx:NX λC U O=>Ok (W2 w Z V) 5 (kg G it Z9 D fa KX Z8 RL g0 g1 g2 i m [] e0 e1 ov e2 r0 s0 r1 s1 r2 s2 k0 l0 k1 l1 k2 l2 n ns)):Ok (W2 w Z V) 5 (oD G it Z9 D fa KX Z8 RL g0 g1 g2 i m [] e0 e1 ov e2 r0 s0 r1 s1 r2 s2 k0 l0 k1 l1 k2 l2 n ns):=
 aj nx (λN=>List.map N.r []) (λN=>[]) (λN=>[]) 15
 (.i (pqB V)::[])
 (sF (sg2 (by kernel_rfl)) Z V) (λN=>trivial)
theorem ug:Ok (W2 w Z V) 5 (kg G it Z9 D fa KX Z8 RL g0 g1 g2 n 0 (qIL ns v) e0 e1 (some v1) e2 r0 s0 r1 s1 r2 s2 k0 l0 k1 l1 k2 l2 n ns):=
 fD (fcT it Z9 (bh D fa KX Z8)) (cN it Z9 (bh D fa KX Z8)) [] 18 (λN=>[e0]) (λN=>[v,v1])
 (.i (ub 6 0xaea4a4a4a4a4)::[])
 (λ_ _ _=>by kernel_rfl) (λN=>trivial)
theorem yB(h:oc3 i r0 s0 r1 s1 r2 s2=z::zl)(ZK:0<s0)(ZJ:0<s1)(ZI:0<s2)(nx:NX λC U O=>Ok (W2 w Z V) 5 (kg G it Z9 D fa KX Z8 RL g0 g1 g2 (i+1) m vs (U 0) e1 (some (.int (.ofNat i) (U 1))) e2 r0 s0 r1 s1 r2 s2 k0 l0 k1 l1 k2 l2 n ns)):Ok (W2 w Z V) 5 (kg G it Z9 D fa KX Z8 RL g0 g1 g2 i (m+1) vs e0 e1 ov e2 r0 s0 r1 s1 r2 s2 k0 l0 k1 l1 k2 l2 n ns):=
 cD nx (fcT it Z9 (bh D fa KX Z8)) (cN it Z9 (bh D fa KX Z8)) (λN=>List.map N.r []) (λN=>[e0,(N.t 0)]) (λN=>[]) 52
 (.i [164]::.f [0] (λN=>aY G it i m)::.i (ub 7 0xada9a9a9a8a7a7)::.f [9,10,11,3,5,6,7,8] (λN=>p4 (Pw w Z V) G (N.r 9) (N.r 10) (N.r 11) fa RL KX g0 g1 g2 0 0 e2 i (N.t 0) r0 s0 r1 s1 r2 s2 k0 l0 k1 l1 k2 l2 (z::zl))::.i (ub 13 0xb0aeb0aeaeb0aeafafafafafaf)::[])
 (sE (sg1 (by kernel_rfl)) Z) (λN=>⟨okU (aQ),okU (xI h ZK ZJ ZI),trivial⟩)
theorem yy(h:oc3 i r0 s0 r1 s1 r2 s2=[])(hv:vs.length<2^20)(ZK:0<s0)(ZJ:0<s1)(ZI:0<s2)(nx:NX λC U O=>Ok (W2 w Z V) 5 (kg G it Z9 D fa KX Z8 RL g0 g1 g2 (i+1) m (vs++[.int (.ofNat i) (U 1)]) (U 0) e1 (some (.int (.ofNat i) (U 1))) e2 r0 s0 r1 s1 r2 s2 k0 l0 k1 l1 k2 l2 n ns)):Ok (W2 w Z V) 5 (kg G it Z9 D fa KX Z8 RL g0 g1 g2 i (m+1) vs e0 e1 ov e2 r0 s0 r1 s1 r2 s2 k0 l0 k1 l1 k2 l2 n ns):=
 cD nx (fcT it Z9 (bh D fa KX Z8)) (cN it Z9 (bh D fa KX Z8)) (λN=>List.map N.r []) (λN=>[(N.t 5),(N.t 0)]) (λN=>[]) 59
 (.i [164]::.f [0] (λN=>aY G it i m)::.i (ub 7 0xada9a9a9a8a7a7)::.f [9,10,11,3,5,6,7,8] (λN=>p4 (Pw w Z V) G (N.r 9) (N.r 10) (N.r 11) fa RL KX g0 g1 g2 0 0 e2 i (N.t 0) r0 s0 r1 s1 r2 s2 k0 l0 k1 l1 k2 l2 [])::.i (ub 18 0xa7b0aeb0aeb0aeb0aeaeb0aeafafafafafaf)::.f [1] (λN=>am G Z9 vs e0 (.int (.ofNat i) (N.t 0)))::[])
 (sE (sg1 (by kernel_rfl)) Z) (λN=>⟨okU (aQ),okU (xI h ZK ZJ ZI),okU (ao hv),trivial⟩)
theorem yq(nx:NX λC U O=>Ok (W2 w Z V) 5 (ke G it Z9 D fa KX Z8 RL g0 g1 g2 g3 i m [] e0 e1 ov e2 r0 s0 r1 s1 r2 s2 r3 s3 k0 l0 k1 l1 k2 l2 k3 l3 n ns)):Ok (W2 w Z V) 5 (oC G it Z9 D fa KX Z8 RL g0 g1 g2 g3 i m [] e0 e1 ov e2 r0 s0 r1 s1 r2 s2 r3 s3 k0 l0 k1 l1 k2 l2 k3 l3 n ns):=
 aj nx (λN=>List.map N.r []) (λN=>[]) (λN=>[]) 15
 (.i (pqB V)::[])
 (sF (sg2 (by kernel_rfl)) Z V) (λN=>trivial)
theorem uf:Ok (W2 w Z V) 5 (ke G it Z9 D fa KX Z8 RL g0 g1 g2 g3 n 0 (qIL ns v) e0 e1 (some v1) e2 r0 s0 r1 s1 r2 s2 r3 s3 k0 l0 k1 l1 k2 l2 k3 l3 n ns):=
 fD (fcT it Z9 (bh D fa KX Z8)) (cN it Z9 (bh D fa KX Z8)) [] 18 (λN=>[e0]) (λN=>[v,v1])
 (.i (ub 6 0xafa4a4a4a4a4)::[])
 (λ_ _ _=>by kernel_rfl) (λN=>trivial)
theorem yA(h:oc4 i r0 s0 r1 s1 r2 s2 r3 s3=z::zl)(ZK:0<s0)(ZJ:0<s1)(ZI:0<s2)(ZH:0<s3)(nx:NX λC U O=>Ok (W2 w Z V) 5 (ke G it Z9 D fa KX Z8 RL g0 g1 g2 g3 (i+1) m vs (U 0) e1 (some (.int (.ofNat i) (U 1))) e2 r0 s0 r1 s1 r2 s2 r3 s3 k0 l0 k1 l1 k2 l2 k3 l3 n ns)):Ok (W2 w Z V) 5 (ke G it Z9 D fa KX Z8 RL g0 g1 g2 g3 i (m+1) vs e0 e1 ov e2 r0 s0 r1 s1 r2 s2 r3 s3 k0 l0 k1 l1 k2 l2 k3 l3 n ns):=
 cD nx (fcT it Z9 (bh D fa KX Z8)) (cN it Z9 (bh D fa KX Z8)) (λN=>List.map N.r []) (λN=>[e0,(N.t 0)]) (λN=>[]) 52
 (.i [164]::.f [0] (λN=>aY G it i m)::.i (ub 7 0xaea9a9a9a8a7a7)::.f [10,11,12,3,5,6,7,8,9] (λN=>pZ (Pw w Z V) G (N.r 10) (N.r 11) (N.r 12) fa RL KX g0 g1 g2 g3 0 0 e2 i (N.t 0) r0 s0 r1 s1 r2 s2 r3 s3 k0 l0 k1 l1 k2 l2 k3 l3 (z::zl))::.i (ub 13 0xb1afb1afafb1afb0b0b0b0b0b0)::[])
 (sE (sg1 (by kernel_rfl)) Z) (λN=>⟨okU (aQ),okU (xH h ZK ZJ ZI ZH),trivial⟩)
theorem yx(h:oc4 i r0 s0 r1 s1 r2 s2 r3 s3=[])(hv:vs.length<2^20)(ZK:0<s0)(ZJ:0<s1)(ZI:0<s2)(ZH:0<s3)(nx:NX λC U O=>Ok (W2 w Z V) 5 (ke G it Z9 D fa KX Z8 RL g0 g1 g2 g3 (i+1) m (vs++[.int (.ofNat i) (U 1)]) (U 0) e1 (some (.int (.ofNat i) (U 1))) e2 r0 s0 r1 s1 r2 s2 r3 s3 k0 l0 k1 l1 k2 l2 k3 l3 n ns)):Ok (W2 w Z V) 5 (ke G it Z9 D fa KX Z8 RL g0 g1 g2 g3 i (m+1) vs e0 e1 ov e2 r0 s0 r1 s1 r2 s2 r3 s3 k0 l0 k1 l1 k2 l2 k3 l3 n ns):=
 cD nx (fcT it Z9 (bh D fa KX Z8)) (cN it Z9 (bh D fa KX Z8)) (λN=>List.map N.r []) (λN=>[(N.t 5),(N.t 0)]) (λN=>[]) 59
 (.i [164]::.f [0] (λN=>aY G it i m)::.i (ub 7 0xaea9a9a9a8a7a7)::.f [10,11,12,3,5,6,7,8,9] (λN=>pZ (Pw w Z V) G (N.r 10) (N.r 11) (N.r 12) fa RL KX g0 g1 g2 g3 0 0 e2 i (N.t 0) r0 s0 r1 s1 r2 s2 r3 s3 k0 l0 k1 l1 k2 l2 k3 l3 [])::.i (ub 18 0xa7b1afb1afb1afb1afafb1afb0b0b0b0b0b0)::.f [1] (λN=>am G Z9 vs e0 (.int (.ofNat i) (N.t 0)))::[])
 (sE (sg1 (by kernel_rfl)) Z) (λN=>⟨okU (aQ),okU (xH h ZK ZJ ZI ZH),okU (ao hv),trivial⟩)
end
noncomputable def aP(f:Nat→List Nat):Nat→Nat→List Nat
 | _,0=>[]
 | i,m+1=>match f i with
  | []=>i::aP f (i+1) m
  | _=>aP f (i+1) m
theorem fX{w:World}{Z V:Bool}{G:GP}{it Z9 D fa KX Z8 RL g0 g1:Addr}{e1 e2:Nat}{r0 s0 r1 s1:Nat}{k0 l0 k1 l1:Tok}(ZK:0<s0)(ZJ:0<s1):∀(m i:Nat) (ds:List Nat) (v v1:Value) (e0:Nat),ds.length+m<2^10→
  Ok (W2 w Z V) 5 (kh G it Z9 D fa KX Z8 RL g0 g1 i m (qIL ds v) e0 e1 (some v1) e2 r0 s0 r1 s1 k0 l0 k1 l1 (i+m) (ds++aP (λx=>oc2 x r0 s0 r1 s1) i m))
 | 0,i,ds,v,v1,e0,h=>by
  show Ok _ _ (kh G it Z9 D fa KX Z8 RL g0 g1 i 0 (qIL ds v) e0 e1 (some v1) e2 r0 s0 r1 s1 k0 l0 k1 l1 i (ds++[]))
  rw[List.append_nil]
  exact uh
 | m+1,i,ds,v,v1,e0,h=>by
  cases hz:oc2 i r0 s0 r1 s1 with
  | nil=>
   have e:aP (λx=>oc2 x r0 s0 r1 s1) i (m+1)=i::aP (λx=>oc2 x r0 s0 r1 s1) (i+1) m:=by
    show(match oc2 i r0 s0 r1 s1 with | []=>_ | _=>_)=_
    rw[hz]
   rw[e]
   refine yz hz (by rw[az];lia) ZK ZJ λC U O=>?_
   obtain⟨v',Zs⟩:=aI ds v i (U 1)
   have:=fX (w:=w) (Z:=Z) (V:=V) (G:=G) (it:=it) (Z9:=Z9) (D:=D) (fa:=fa) (KX:=KX) (Z8:=Z8) (RL:=RL) (g0:=g0) (g1:=g1) (r0:=r0) (s0:=s0) (r1:=r1) (s1:=s1) (k0:=k0) (l0:=l0) (k1:=k1) (l1:=l1) (e1:=e1) (e2:=e2) ZK ZJ m (i+1) (ds++[i]) v' (.int (.ofNat i) (U 1)) (U 0) (by rw[List.length_append];simp only[List.length_cons,List.length_nil];lia)
   rw[Zs,show i+1+m=i+(m+1)by lia,List.append_assoc]at this
   exact this
  | cons z l=>
   have e:aP (λx=>oc2 x r0 s0 r1 s1) i (m+1)=aP (λx=>oc2 x r0 s0 r1 s1) (i+1) m:=by
    show(match oc2 i r0 s0 r1 s1 with | []=>_ | _=>_)=_
    rw[hz]
   rw[e]
   refine yC hz ZK ZJ λC U O=>?_
   have:=fX (w:=w) (Z:=Z) (V:=V) (G:=G) (it:=it) (Z9:=Z9) (D:=D) (fa:=fa) (KX:=KX) (Z8:=Z8) (RL:=RL) (g0:=g0) (g1:=g1) (r0:=r0) (s0:=s0) (r1:=r1) (s1:=s1) (k0:=k0) (l0:=l0) (k1:=k1) (l1:=l1) (e1:=e1) (e2:=e2) ZK ZJ m (i+1) ds v (.int (.ofNat i) (U 1)) (U 0) (by lia)
   rw[show i+1+m=i+(m+1)by lia]at this
   exact this
variable{w:World}{Z V:Bool}{G:GP}{it Z9 fa KX Z8 RL g0 g1 g2:Addr}{e1 e2 r0 s0 r1 s1 r2 s2:Nat}{k0 l0 k1 l1 k2 l2:Tok}
theorem uk{D:Addr}(ZK:0<s0)(ZJ:0<s1){e0 m:Nat}(hm:m<2^9):Ok (W2 w Z V) 5 (oE G it Z9 D fa KX Z8 RL g0 g1 1 (m+1) [] e0 e1 none e2 r0 s0 r1 s1 k0 l0 k1 l1 (1+(m+1)) (aP (λx=>oc2 x r0 s0 r1 s1) 1 (m+1))):=by
 refine yt λ_ _ _=>?_
 cases hz:oc2 1 r0 s0 r1 s1 with
 | nil=>
  have e:aP (λx=>oc2 x r0 s0 r1 s1) 1 (m+1)=1::aP (λx=>oc2 x r0 s0 r1 s1) 2 m:=by
   show(match oc2 1 r0 s0 r1 s1 with | []=>_ | _=>_)=_
   rw[hz]
  rw[e]
  refine yz hz (by decide) ZK ZJ λC U O=>?_
  obtain⟨v',Zs⟩:=aI [] .none 1 (U 1)
  have:=fX (w:=w) (Z:=Z) (V:=V) (G:=G) (it:=it) (Z9:=Z9) (D:=D) (fa:=fa) (KX:=KX) (Z8:=Z8) (RL:=RL) (g0:=g0) (g1:=g1) (r0:=r0) (s0:=s0) (r1:=r1) (s1:=s1) (k0:=k0) (l0:=l0) (k1:=k1) (l1:=l1) (e1:=e1) (e2:=e2) ZK ZJ m 2 [1] v' (.int (.ofNat 1) (U 1)) (U 0) (by simp only[List.length_cons,List.length_nil];lia)
  have hv'':qIL [1] v'=[.int (.ofNat 1) (U 1)]:=Zs
  rw[hv'',show 2+m=1+(m+1)by lia]at this
  exact this
 | cons z l=>
  have e:aP (λx=>oc2 x r0 s0 r1 s1) 1 (m+1)=aP (λx=>oc2 x r0 s0 r1 s1) 2 m:=by
   show(match oc2 1 r0 s0 r1 s1 with | []=>_ | _=>_)=_
   rw[hz]
  rw[e]
  refine yC hz ZK ZJ λC U O=>?_
  have:=fX (w:=w) (Z:=Z) (V:=V) (G:=G) (it:=it) (Z9:=Z9) (D:=D) (fa:=fa) (KX:=KX) (Z8:=Z8) (RL:=RL) (g0:=g0) (g1:=g1) (r0:=r0) (s0:=s0) (r1:=r1) (s1:=s1) (k0:=k0) (l0:=l0) (k1:=k1) (l1:=l1) (e1:=e1) (e2:=e2) ZK ZJ m 2 [] .none (.int (.ofNat 1) (U 1)) (U 0) (by simp only[List.length_nil];lia)
  rw[show 2+m=1+(m+1)by lia,List.nil_append]at this
  exact this
theorem fW{w:World}{Z V:Bool}{G:GP}{it Z9 D fa KX Z8 RL g0 g1 g2:Addr}{e1 e2:Nat}{r0 s0 r1 s1 r2 s2:Nat}{k0 l0 k1 l1 k2 l2:Tok}(ZK:0<s0)(ZJ:0<s1)(ZI:0<s2):∀(m i:Nat) (ds:List Nat) (v v1:Value) (e0:Nat),ds.length+m<2^10→
  Ok (W2 w Z V) 5 (kg G it Z9 D fa KX Z8 RL g0 g1 g2 i m (qIL ds v) e0 e1 (some v1) e2 r0 s0 r1 s1 r2 s2 k0 l0 k1 l1 k2 l2 (i+m) (ds++aP (λx=>oc3 x r0 s0 r1 s1 r2 s2) i m))
 | 0,i,ds,v,v1,e0,h=>by
  show Ok _ _ (kg G it Z9 D fa KX Z8 RL g0 g1 g2 i 0 (qIL ds v) e0 e1 (some v1) e2 r0 s0 r1 s1 r2 s2 k0 l0 k1 l1 k2 l2 i (ds++[]))
  rw[List.append_nil]
  exact ug
 | m+1,i,ds,v,v1,e0,h=>by
  cases hz:oc3 i r0 s0 r1 s1 r2 s2 with
  | nil=>
   have e:aP (λx=>oc3 x r0 s0 r1 s1 r2 s2) i (m+1)=i::aP (λx=>oc3 x r0 s0 r1 s1 r2 s2) (i+1) m:=by
    show(match oc3 i r0 s0 r1 s1 r2 s2 with | []=>_ | _=>_)=_
    rw[hz]
   rw[e]
   refine yy hz (by rw[az];lia) ZK ZJ ZI λC U O=>?_
   obtain⟨v',Zs⟩:=aI ds v i (U 1)
   have:=fW (w:=w) (Z:=Z) (V:=V) (G:=G) (it:=it) (Z9:=Z9) (D:=D) (fa:=fa) (KX:=KX) (Z8:=Z8) (RL:=RL) (g0:=g0) (g1:=g1) (g2:=g2) (r0:=r0) (s0:=s0) (r1:=r1) (s1:=s1) (r2:=r2) (s2:=s2) (k0:=k0) (l0:=l0) (k1:=k1) (l1:=l1) (k2:=k2) (l2:=l2) (e1:=e1) (e2:=e2) ZK ZJ ZI m (i+1) (ds++[i]) v' (.int (.ofNat i) (U 1)) (U 0) (by rw[List.length_append];simp only[List.length_cons,List.length_nil];lia)
   rw[Zs,show i+1+m=i+(m+1)by lia,List.append_assoc]at this
   exact this
  | cons z l=>
   have e:aP (λx=>oc3 x r0 s0 r1 s1 r2 s2) i (m+1)=aP (λx=>oc3 x r0 s0 r1 s1 r2 s2) (i+1) m:=by
    show(match oc3 i r0 s0 r1 s1 r2 s2 with | []=>_ | _=>_)=_
    rw[hz]
   rw[e]
   refine yB hz ZK ZJ ZI λC U O=>?_
   have:=fW (w:=w) (Z:=Z) (V:=V) (G:=G) (it:=it) (Z9:=Z9) (D:=D) (fa:=fa) (KX:=KX) (Z8:=Z8) (RL:=RL) (g0:=g0) (g1:=g1) (g2:=g2) (r0:=r0) (s0:=s0) (r1:=r1) (s1:=s1) (r2:=r2) (s2:=s2) (k0:=k0) (l0:=l0) (k1:=k1) (l1:=l1) (k2:=k2) (l2:=l2) (e1:=e1) (e2:=e2) ZK ZJ ZI m (i+1) ds v (.int (.ofNat i) (U 1)) (U 0) (by lia)
   rw[show i+1+m=i+(m+1)by lia]at this
   exact this
theorem uj{D:Addr}(ZK:0<s0)(ZJ:0<s1)(ZI:0<s2){e0 m:Nat}(hm:m<2^9):Ok (W2 w Z V) 5 (oD G it Z9 D fa KX Z8 RL g0 g1 g2 1 (m+1) [] e0 e1 none e2 r0 s0 r1 s1 r2 s2 k0 l0 k1 l1 k2 l2 (1+(m+1)) (aP (λx=>oc3 x r0 s0 r1 s1 r2 s2) 1 (m+1))):=by
 refine yr λ_ _ _=>?_
 cases hz:oc3 1 r0 s0 r1 s1 r2 s2 with
 | nil=>
  have e:aP (λx=>oc3 x r0 s0 r1 s1 r2 s2) 1 (m+1)=1::aP (λx=>oc3 x r0 s0 r1 s1 r2 s2) 2 m:=by
   show(match oc3 1 r0 s0 r1 s1 r2 s2 with | []=>_ | _=>_)=_
   rw[hz]
  rw[e]
  refine yy hz (by decide) ZK ZJ ZI λC U O=>?_
  obtain⟨v',Zs⟩:=aI [] .none 1 (U 1)
  have:=fW (w:=w) (Z:=Z) (V:=V) (G:=G) (it:=it) (Z9:=Z9) (D:=D) (fa:=fa) (KX:=KX) (Z8:=Z8) (RL:=RL) (g0:=g0) (g1:=g1) (g2:=g2) (r0:=r0) (s0:=s0) (r1:=r1) (s1:=s1) (r2:=r2) (s2:=s2) (k0:=k0) (l0:=l0) (k1:=k1) (l1:=l1) (k2:=k2) (l2:=l2) (e1:=e1) (e2:=e2) ZK ZJ ZI m 2 [1] v' (.int (.ofNat 1) (U 1)) (U 0) (by simp only[List.length_cons,List.length_nil];lia)
  have hv'':qIL [1] v'=[.int (.ofNat 1) (U 1)]:=Zs
  rw[hv'',show 2+m=1+(m+1)by lia]at this
  exact this
 | cons z l=>
  have e:aP (λx=>oc3 x r0 s0 r1 s1 r2 s2) 1 (m+1)=aP (λx=>oc3 x r0 s0 r1 s1 r2 s2) 2 m:=by
   show(match oc3 1 r0 s0 r1 s1 r2 s2 with | []=>_ | _=>_)=_
   rw[hz]
  rw[e]
  refine yB hz ZK ZJ ZI λC U O=>?_
  have:=fW (w:=w) (Z:=Z) (V:=V) (G:=G) (it:=it) (Z9:=Z9) (D:=D) (fa:=fa) (KX:=KX) (Z8:=Z8) (RL:=RL) (g0:=g0) (g1:=g1) (g2:=g2) (r0:=r0) (s0:=s0) (r1:=r1) (s1:=s1) (r2:=r2) (s2:=s2) (k0:=k0) (l0:=l0) (k1:=k1) (l1:=l1) (k2:=k2) (l2:=l2) (e1:=e1) (e2:=e2) ZK ZJ ZI m 2 [] .none (.int (.ofNat 1) (U 1)) (U 0) (by simp only[List.length_nil];lia)
  rw[show 2+m=1+(m+1)by lia,List.nil_append]at this
  exact this
theorem fV{w:World}{Z V:Bool}{G:GP}{it Z9 D fa KX Z8 RL g0 g1 g2 g3:Addr}{e1 e2:Nat}{r0 s0 r1 s1 r2 s2 r3 s3:Nat}{k0 l0 k1 l1 k2 l2 k3 l3:Tok}(ZK:0<s0)(ZJ:0<s1)(ZI:0<s2)(ZH:0<s3):∀(m i:Nat) (ds:List Nat) (v v1:Value) (e0:Nat),ds.length+m<2^10→
  Ok (W2 w Z V) 5 (ke G it Z9 D fa KX Z8 RL g0 g1 g2 g3 i m (qIL ds v) e0 e1 (some v1) e2 r0 s0 r1 s1 r2 s2 r3 s3 k0 l0 k1 l1 k2 l2 k3 l3 (i+m) (ds++aP (λx=>oc4 x r0 s0 r1 s1 r2 s2 r3 s3) i m))
 | 0,i,ds,v,v1,e0,h=>by
  show Ok _ _ (ke G it Z9 D fa KX Z8 RL g0 g1 g2 g3 i 0 (qIL ds v) e0 e1 (some v1) e2 r0 s0 r1 s1 r2 s2 r3 s3 k0 l0 k1 l1 k2 l2 k3 l3 i (ds++[]))
  rw[List.append_nil]
  exact uf
 | m+1,i,ds,v,v1,e0,h=>by
  cases hz:oc4 i r0 s0 r1 s1 r2 s2 r3 s3 with
  | nil=>
   have e:aP (λx=>oc4 x r0 s0 r1 s1 r2 s2 r3 s3) i (m+1)=i::aP (λx=>oc4 x r0 s0 r1 s1 r2 s2 r3 s3) (i+1) m:=by
    show(match oc4 i r0 s0 r1 s1 r2 s2 r3 s3 with | []=>_ | _=>_)=_
    rw[hz]
   rw[e]
   refine yx hz (by rw[az];lia) ZK ZJ ZI ZH λC U O=>?_
   obtain⟨v',Zs⟩:=aI ds v i (U 1)
   have:=fV (w:=w) (Z:=Z) (V:=V) (G:=G) (it:=it) (Z9:=Z9) (D:=D) (fa:=fa) (KX:=KX) (Z8:=Z8) (RL:=RL) (g0:=g0) (g1:=g1) (g2:=g2) (g3:=g3) (r0:=r0) (s0:=s0) (r1:=r1) (s1:=s1) (r2:=r2) (s2:=s2) (r3:=r3) (s3:=s3) (k0:=k0) (l0:=l0) (k1:=k1) (l1:=l1) (k2:=k2) (l2:=l2) (k3:=k3) (l3:=l3) (e1:=e1) (e2:=e2) ZK ZJ ZI ZH m (i+1) (ds++[i]) v' (.int (.ofNat i) (U 1)) (U 0) (by rw[List.length_append];simp only[List.length_cons,List.length_nil];lia)
   rw[Zs,show i+1+m=i+(m+1)by lia,List.append_assoc]at this
   exact this
  | cons z l=>
   have e:aP (λx=>oc4 x r0 s0 r1 s1 r2 s2 r3 s3) i (m+1)=aP (λx=>oc4 x r0 s0 r1 s1 r2 s2 r3 s3) (i+1) m:=by
    show(match oc4 i r0 s0 r1 s1 r2 s2 r3 s3 with | []=>_ | _=>_)=_
    rw[hz]
   rw[e]
   refine yA hz ZK ZJ ZI ZH λC U O=>?_
   have:=fV (w:=w) (Z:=Z) (V:=V) (G:=G) (it:=it) (Z9:=Z9) (D:=D) (fa:=fa) (KX:=KX) (Z8:=Z8) (RL:=RL) (g0:=g0) (g1:=g1) (g2:=g2) (g3:=g3) (r0:=r0) (s0:=s0) (r1:=r1) (s1:=s1) (r2:=r2) (s2:=s2) (r3:=r3) (s3:=s3) (k0:=k0) (l0:=l0) (k1:=k1) (l1:=l1) (k2:=k2) (l2:=l2) (k3:=k3) (l3:=l3) (e1:=e1) (e2:=e2) ZK ZJ ZI ZH m (i+1) ds v (.int (.ofNat i) (U 1)) (U 0) (by lia)
   rw[show i+1+m=i+(m+1)by lia]at this
   exact this
theorem ui{D g3:Addr}{r3 s3:Nat}{k3 l3:Tok}(ZK:0<s0)(ZJ:0<s1)(ZI:0<s2)(ZH:0<s3){e0 m:Nat}(hm:m<2^9):Ok (W2 w Z V) 5 (oC G it Z9 D fa KX Z8 RL g0 g1 g2 g3 1 (m+1) [] e0 e1 none e2 r0 s0 r1 s1 r2 s2 r3 s3 k0 l0 k1 l1 k2 l2 k3 l3 (1+(m+1)) (aP (λx=>oc4 x r0 s0 r1 s1 r2 s2 r3 s3) 1 (m+1))):=by
 refine yq λ_ _ _=>?_
 cases hz:oc4 1 r0 s0 r1 s1 r2 s2 r3 s3 with
 | nil=>
  have e:aP (λx=>oc4 x r0 s0 r1 s1 r2 s2 r3 s3) 1 (m+1)=1::aP (λx=>oc4 x r0 s0 r1 s1 r2 s2 r3 s3) 2 m:=by
   show(match oc4 1 r0 s0 r1 s1 r2 s2 r3 s3 with | []=>_ | _=>_)=_
   rw[hz]
  rw[e]
  refine yx hz (by decide) ZK ZJ ZI ZH λC U O=>?_
  obtain⟨v',Zs⟩:=aI [] .none 1 (U 1)
  have:=fV (w:=w) (Z:=Z) (V:=V) (G:=G) (it:=it) (Z9:=Z9) (D:=D) (fa:=fa) (KX:=KX) (Z8:=Z8) (RL:=RL) (g0:=g0) (g1:=g1) (g2:=g2) (g3:=g3) (r0:=r0) (s0:=s0) (r1:=r1) (s1:=s1) (r2:=r2) (s2:=s2) (r3:=r3) (s3:=s3) (k0:=k0) (l0:=l0) (k1:=k1) (l1:=l1) (k2:=k2) (l2:=l2) (k3:=k3) (l3:=l3) (e1:=e1) (e2:=e2) ZK ZJ ZI ZH m 2 [1] v' (.int (.ofNat 1) (U 1)) (U 0) (by simp only[List.length_cons,List.length_nil];lia)
  have hv'':qIL [1] v'=[.int (.ofNat 1) (U 1)]:=Zs
  rw[hv'',show 2+m=1+(m+1)by lia]at this
  exact this
 | cons z l=>
  have e:aP (λx=>oc4 x r0 s0 r1 s1 r2 s2 r3 s3) 1 (m+1)=aP (λx=>oc4 x r0 s0 r1 s1 r2 s2 r3 s3) 2 m:=by
   show(match oc4 1 r0 s0 r1 s1 r2 s2 r3 s3 with | []=>_ | _=>_)=_
   rw[hz]
  rw[e]
  refine yA hz ZK ZJ ZI ZH λC U O=>?_
  have:=fV (w:=w) (Z:=Z) (V:=V) (G:=G) (it:=it) (Z9:=Z9) (D:=D) (fa:=fa) (KX:=KX) (Z8:=Z8) (RL:=RL) (g0:=g0) (g1:=g1) (g2:=g2) (g3:=g3) (r0:=r0) (s0:=s0) (r1:=r1) (s1:=s1) (r2:=r2) (s2:=s2) (r3:=r3) (s3:=s3) (k0:=k0) (l0:=l0) (k1:=k1) (l1:=l1) (k2:=k2) (l2:=l2) (k3:=k3) (l3:=l3) (e1:=e1) (e2:=e2) ZK ZJ ZI ZH m 2 [] .none (.int (.ofNat 1) (U 1)) (U 0) (by simp only[List.length_nil];lia)
  rw[show 2+m=1+(m+1)by lia,List.nil_append]at this
  exact this
end
section
open PySem PySem.W PySem.W.X PySem.Builtin
open AutoSeq1 (wpAny_loadPart')
noncomputable abbrev m5(t:Tok):Obj:=⟨.type "slice",none,.fields ⟨[.none,.int 1 t,.none]⟩,⟨[]⟩⟩
theorem dT:typeLookup (.type "slice") (Str.ofString "__index__")=pure none:=by rw[typeLookup_type,builtinLookup_eq_fast];kernel_rfl
theorem h6:typeLookup (.type "int") (Str.ofString "__index__")=pure (some (.builtin "int.__index__")):=by rw[typeLookup_type,builtinLookup_eq_fast];kernel_rfl
set_option maxHeartbeats 4000000 in
theorem l7(l s:Addr)(v:Value)(vs:List Value)(n:Nat)(t:Tok)(hz:vs.length<2^10):Meets (Builtin.«list.__getitem__» ⟨[.ref l,.ref s],[]⟩)
  (λA R st=>st.heap.get? l=some (lO (v::vs) n)∧st.heap.get? s=some (m5 t)∧R (.ok (.ret (.ref st.heap.objs.size))) {st with heap:=st.heap.push {cls:=.type "list",data:=.seq #[v]}}):=by
 intro prog w A R st h
 obtain⟨hp,g,d,U,os⟩:=st
 obtain⟨hl,hs,h⟩:=h
 unfold Builtin.«list.__getitem__»
 wp_walk using wpAny_loadPart' hl,wpAny_loadPart' hs
 refine wpAny_of_eq (a:=none) dT ?_
 wp_walk using wpAny_loadPart' hl,wpAny_loadPart' hs
 refine wpAny_of_eq (a:=some (.builtin "int.__index__")) h6 ?_
 wp_walk using wpAny_loadPart' hl,wpAny_loadPart' hs
 have e1:(Max.max (0:Int) (Min.min (if(1:Int)<0 then 1+((Array.mk (v::vs)).size:Int)else 1) ((Array.mk (v::vs)).size:Int)))=1:=by
  rw[if_neg (by decide)]
  show max (0:Int) (min 1 ((vs.length+1:Nat):Int))=1
  lia
 have e2:(if(1:Int)>0 then(0:Int)else((Array.mk (v::vs)).size:Int)-1)=0:=if_pos (by decide)
 have e3:List.filterMap (λx=>(Array.mk (v::vs))[x]?) (sliceRange 0 1 1)=[v]:=rfl
 rw[e1,e2,e3]
 refine wpAny_ite_false (decide_eq_false (by show ¬(1>2^24);decide)) ?_
 wp_walk
 exact h
noncomputable def B6(G:GP)(l s:Addr)(v:Value)(vs:List Value)(n:Nat)(t:Tok):ac:=cB "list.__getitem__" [.ref l,.ref s] [(l,some (lO (v::vs) n)),(s,some (m5 t))] G 1 0 λC _ _=>⟨.ok (.ret (.ref (C 0))),[],[some (lO [v] 0)]⟩
theorem By{w:World}{G:GP}{l s:Addr}{v:Value}{vs:List Value}{n:Nat}{t:Tok}(hz:vs.length<2^10):Ok w 1 (B6 G l s v vs n t):=
 aN slot_list_getitem entry_list_getitem (args_list_getitem _ _) (l7 l s v vs n t hz) rfl λA R h gs d U os hA hG hB hP K=>by
  have ho:=(hP.get _ (.head _) _ rfl).1
  have ho2:=(hP.get _ (.tail _ (.head _)) _ rfl).1
  exact⟨⟨_,ho,rfl⟩,ho,ho2,K _ gs U (λ_=>h.objs.size) (λ_=>0) (λ_=>.none) hG (bJ hB rfl)⟩
end
section
open PySem PySem.W PySem.W.X PySem.Builtin
noncomputable def B7:PySem.Expr→PySem.Expr
 | .BinOp _ _ r _=>r
 | _=>noE
noncomputable def xcE:PySem.Expr:=B7 (exV (aE 15))
noncomputable def qw(D fa Z7:Addr):Env:=g7 (stA 16) xcE 162 fa D [(mS eC,Z7)]
noncomputable def uK(XL:Addr)(c:Nat)(tc:Tok)(p:Nat)(up:Tok)(e0 e1 e2:Nat):List (Option Obj):=[some (liO XL 0),some (lO [] e0),some (diO [] e1),some (ceO (some (.int (.ofNat p) up))),some (lO [.int (.ofNat c) tc] e2)]
noncomputable def yK(P:Params)(G:GP)(it Z9 D fa Z7 XL:Addr)(c:Nat)(tc:Tok)(p:Nat)(up:Tok)(e0 e1 e2:Nat):ac:=
 sd (.compStart xcE 0 (.ref it) (.ref Z9) (qw D fa Z7)) (aa [it,Z9,D,Z7,XL]) (uK XL c tc p up e0 e1 e2) G G 0 4 3 λ_ U O=>⟨.ok .next,[(0,⟨.type "list_iterator",none,.fields ⟨[O 0,O 1]⟩,⟨[]⟩⟩),(1,lO [.int (.ofNat (c+p)) (U 0)] (U 1)),(2,diO [en P s_x (U 2) (O 2)] (U 3))],[]⟩
noncomputable def uL(XL:Addr)(p:Nat)(up:Tok)(e0 e1 e2:Nat):List (Option Obj):=[some (liO XL 0),some (lO [] e0),some (diO [] e1),some (ceO (some (.int (.ofNat p) up))),some (lO [] e2)]
noncomputable def yL(P:Params)(G:GP)(it Z9 D fa Z7 XL:Addr)(p:Nat)(up:Tok)(e0 e1 e2:Nat):ac:=
 sd (.compStart xcE 0 (.ref it) (.ref Z9) (qw D fa Z7)) (aa [it,Z9,D,Z7,XL]) (uL XL p up e0 e1 e2) G G 0 0 2 λ_ U O=>⟨.ok .next,[(0,⟨.type "list_iterator",none,.fields ⟨[O 0,O 1]⟩,⟨[]⟩⟩)],[]⟩
noncomputable def kP(P:Params)(z1 z2 z3 z4 z5 z6 z7 z8 z9 Z2 Z0 ZZ ZY ZX ZW ZV ZU:Tok)(w1 w2 w3 w4 w5 w6 w7 w8 w9 Z1 ZT ZS ZR ZQ ZP ZO w17:Value)(ef:Nat):Obj:=frO [en P bu z1 w1,en P bt z2 w2,en P d7 z3 w3,en P d6 z4 w4,en P bS z5 w5,en P cE z6 w6,en P d5 z7 w7,en P kA z8 w8,en P fO z9 w9,en P bF Z2 Z1,en P aM Z0 ZT,en P bc ZZ ZS,en P bR ZY ZR,en P dg ZX ZQ,en P s_k ZW ZP,en P rS ZV ZO,en P rN ZU w17] ef
noncomputable def B0(P:Params)(TL RL g0 g1:Addr)(z1 z2 z3 z4 z5 z6 z7 z8 z9 Z2 Z0 ZZ ZY ZX ZW ZV ZU:Tok)(w1 w2 w3 w4 w5 w6 w7 w8 w9 Z1 ZT ZS ZR ZQ ZO:Value)(wk:Value)(ef:Nat)(i m:Nat)(ts:List Value)(et e2:Nat):List (Option Obj):=[some (kP P z1 z2 z3 z4 z5 z6 z7 z8 z9 Z2 Z0 ZZ ZY ZX ZW ZV ZU w1 w2 w3 w4 w5 w6 w7 w8 w9 Z1 ZT ZS ZR ZQ wk ZO (.ref TL) ef),some (riO (.ofNat i) (.ofNat m) 1),some (lO ts et),some (ceO (some (.ref RL))),some (lO [.ref g0,.ref g1] e2)]
noncomputable def j7(P:Params)(G:GP)(fr Z7 Z6 Z8 it TL RL g0 g1:Addr)(z1 z2 z3 z4 z5 z6 z7 z8 z9 Z2 Z0 ZZ ZY ZX ZW ZV ZU:Tok)(w1 w2 w3 w4 w5 w6 w7 w8 w9 Z1 ZT ZS ZR ZQ ZO:Value)(wk:Value)(ef:Nat)(i m:Nat)(ts:List Value)(et e2:Nat)(N:Nat):ac:=
 sd (cM (aE 16) (.ref it) (an fr Z7 Z6 Z8)) (aa [fr,it,TL,Z8,RL]) (B0 P TL RL g0 g1 z1 z2 z3 z4 z5 z6 z7 z8 z9 Z2 Z0 ZZ ZY ZX ZW ZV ZU w1 w2 w3 w4 w5 w6 w7 w8 w9 Z1 ZT ZS ZR ZQ ZO wk ef i m ts et e2) G G 0 1 1 λ_ U O=>⟨.ok .next,[(0,kP P z1 z2 z3 z4 z5 z6 z7 z8 z9 Z2 Z0 ZZ ZY ZX ZW ZV ZU w1 w2 w3 w4 w5 w6 w7 w8 w9 Z1 ZT ZS ZR ZQ (O 0) ZO (.ref TL) (U 0)),(1,riO (.ofNat N) (.ofNat 0) 1)],[]⟩
noncomputable def BZ(P:Params)(TL RL g0 g1 g2:Addr)(z1 z2 z3 z4 z5 z6 z7 z8 z9 Z2 Z0 ZZ ZY ZX ZW ZV ZU:Tok)(w1 w2 w3 w4 w5 w6 w7 w8 w9 Z1 ZT ZS ZR ZQ ZO:Value)(wk:Value)(ef:Nat)(i m:Nat)(ts:List Value)(et e2:Nat):List (Option Obj):=[some (kP P z1 z2 z3 z4 z5 z6 z7 z8 z9 Z2 Z0 ZZ ZY ZX ZW ZV ZU w1 w2 w3 w4 w5 w6 w7 w8 w9 Z1 ZT ZS ZR ZQ wk ZO (.ref TL) ef),some (riO (.ofNat i) (.ofNat m) 1),some (lO ts et),some (ceO (some (.ref RL))),some (lO [.ref g0,.ref g1,.ref g2] e2)]
noncomputable def j6(P:Params)(G:GP)(fr Z7 Z6 Z8 it TL RL g0 g1 g2:Addr)(z1 z2 z3 z4 z5 z6 z7 z8 z9 Z2 Z0 ZZ ZY ZX ZW ZV ZU:Tok)(w1 w2 w3 w4 w5 w6 w7 w8 w9 Z1 ZT ZS ZR ZQ ZO:Value)(wk:Value)(ef:Nat)(i m:Nat)(ts:List Value)(et e2:Nat)(N:Nat):ac:=
 sd (cM (aE 16) (.ref it) (an fr Z7 Z6 Z8)) (aa [fr,it,TL,Z8,RL]) (BZ P TL RL g0 g1 g2 z1 z2 z3 z4 z5 z6 z7 z8 z9 Z2 Z0 ZZ ZY ZX ZW ZV ZU w1 w2 w3 w4 w5 w6 w7 w8 w9 Z1 ZT ZS ZR ZQ ZO wk ef i m ts et e2) G G 0 1 1 λ_ U O=>⟨.ok .next,[(0,kP P z1 z2 z3 z4 z5 z6 z7 z8 z9 Z2 Z0 ZZ ZY ZX ZW ZV ZU w1 w2 w3 w4 w5 w6 w7 w8 w9 Z1 ZT ZS ZR ZQ (O 0) ZO (.ref TL) (U 0)),(1,riO (.ofNat N) (.ofNat 0) 1)],[]⟩
noncomputable def BY(P:Params)(TL RL g0 g1 g2 g3:Addr)(z1 z2 z3 z4 z5 z6 z7 z8 z9 Z2 Z0 ZZ ZY ZX ZW ZV ZU:Tok)(w1 w2 w3 w4 w5 w6 w7 w8 w9 Z1 ZT ZS ZR ZQ ZO:Value)(wk:Value)(ef:Nat)(i m:Nat)(ts:List Value)(et e2:Nat):List (Option Obj):=[some (kP P z1 z2 z3 z4 z5 z6 z7 z8 z9 Z2 Z0 ZZ ZY ZX ZW ZV ZU w1 w2 w3 w4 w5 w6 w7 w8 w9 Z1 ZT ZS ZR ZQ wk ZO (.ref TL) ef),some (riO (.ofNat i) (.ofNat m) 1),some (lO ts et),some (ceO (some (.ref RL))),some (lO [.ref g0,.ref g1,.ref g2,.ref g3] e2)]
noncomputable def j5(P:Params)(G:GP)(fr Z7 Z6 Z8 it TL RL g0 g1 g2 g3:Addr)(z1 z2 z3 z4 z5 z6 z7 z8 z9 Z2 Z0 ZZ ZY ZX ZW ZV ZU:Tok)(w1 w2 w3 w4 w5 w6 w7 w8 w9 Z1 ZT ZS ZR ZQ ZO:Value)(wk:Value)(ef:Nat)(i m:Nat)(ts:List Value)(et e2:Nat)(N:Nat):ac:=
 sd (cM (aE 16) (.ref it) (an fr Z7 Z6 Z8)) (aa [fr,it,TL,Z8,RL]) (BY P TL RL g0 g1 g2 g3 z1 z2 z3 z4 z5 z6 z7 z8 z9 Z2 Z0 ZZ ZY ZX ZW ZV ZU w1 w2 w3 w4 w5 w6 w7 w8 w9 Z1 ZT ZS ZR ZQ ZO wk ef i m ts et e2) G G 0 1 1 λ_ U O=>⟨.ok .next,[(0,kP P z1 z2 z3 z4 z5 z6 z7 z8 z9 Z2 Z0 ZZ ZY ZX ZW ZV ZU w1 w2 w3 w4 w5 w6 w7 w8 w9 Z1 ZT ZS ZR ZQ (O 0) ZO (.ref TL) (U 0)),(1,riO (.ofNat N) (.ofNat 0) 1)],[]⟩
noncomputable def eS(w:World)(Z V:Bool)(G:GP)(it Z9 D fa Z7 XL:Addr)(c:Nat)(tc:Tok)(p:Nat)(up:Tok)(e0 e1 e2:Nat):SegIn:=
 ⟨yK (Pw w Z V) G it Z9 D fa Z7 XL c tc p up e0 e1 e2,aa [it,Z9,D,Z7,XL],uK XL c tc p up e0 e1 e2⟩
noncomputable def eT(w:World)(Z V:Bool)(G:GP)(it Z9 D fa Z7 XL:Addr)(p:Nat)(up:Tok)(e0 e1 e2:Nat):SegIn:=
 ⟨yL (Pw w Z V) G it Z9 D fa Z7 XL p up e0 e1 e2,aa [it,Z9,D,Z7,XL],uL XL p up e0 e1 e2⟩
end
section
open PySem PySem.W PySem.W.X PySem.Builtin
noncomputable abbrev kK(N:Nat)(G:GP)(it:Addr)(i m:Nat)(TL:Addr)(ts:List Value)(et b:Nat)(tb:Tok)(a:Nat)(ta:Tok)(d:Int)(zz:List It):List It:=
 .i [165]::.f [1] (λN=>aY G it i m)::.i (ub 7 0xa6a6a6a4a4a4a4)::.f [2] (λN=>cw G TL ts none et (mA []) (i+1) (N.t 3) (.int (.ofNat b) tb))::.i (ub 5 0xa6a6a6a4a4)::.f [2] (λN=>cw G TL ts none et (mA []) i (N.t 0) (.int (.ofNat a) ta))::.f [] (λN=>dA G (.ofNat b) (.ofNat a) tb ta d)::.i (ub 6 0xa8a8a8a70003)::.n::zz
variable{w:World}{Z V:Bool}{G:GP}{it Z9 fa Z7 XL:Addr}{p e0 e1 e2:Nat}{up:Tok}
theorem xc1{D:Addr}{c:Nat}{tc:Tok}:Ok (W2 w Z V) 3 (eS w Z V G it Z9 D fa Z7 XL c tc p up e0 e1 e2).s:=by
 cases V with
 | false=>
  exact okS (eS w Z false G it Z9 D fa Z7 XL c tc p up e0 e1 e2) [] 67 (λN=>[(N.t 1),(e0+1),(N.t 0),(e1+1)]) (λN=>[.none,(.int 1 0),(.int (.ofNat c) tc)])
     (.i (ub 27 0xaaa4a4a8a4a4a4a4a5a5a5a5a7a6a6a6a4a4a8a4a4a4a4a4a4a4a4)::[])
     (sE (sg1 (by kernel_rfl)) Z) (λN=>trivial)
 | true=>
  exact okS (eS w Z true G it Z9 D fa Z7 XL c tc p up e0 e1 e2) [] 57 (λN=>[(N.t 1),(e0+1),(N.t 0),(e1+1)]) (λN=>[.none,(.int 1 0),(.int (.ofNat c) tc)])
     (.i (ub 23 0xaaa4a4a8a4a4a4a4a5a5a5a5a7a6a6a6a4a4a8a4a4a4a4)::[])
     (sE (sg1 (by kernel_rfl)) Z) (λN=>trivial)
theorem xc0{D:Addr}:Ok (W2 w Z V) 3 (eT w Z V G it Z9 D fa Z7 XL p up e0 e1 e2).s:=by
 cases V with
 | false=>
  exact okS (eT w Z false G it Z9 D fa Z7 XL p up e0 e1 e2) [] 32 (λN=>[]) (λN=>[.none,(.int 0 0)])
     (.i (ub 12 0xaaa4a4a8a4a4a4a4a4a4a4a4)::[])
     (sE (sg1 (by kernel_rfl)) Z) (λN=>trivial)
 | true=>
  exact okS (eT w Z true G it Z9 D fa Z7 XL p up e0 e1 e2) [] 22 (λN=>[]) (λN=>[.none,(.int 0 0)])
     (.i (ub 8 0xaaa4a4a8a4a4a4a4)::[])
     (sE (sg1 (by kernel_rfl)) Z) (λN=>trivial)
section
variable{w:World}{Z V:Bool}{G:GP}{fr Z7 Z6 Z8 it TL RL g0 g1:Addr}{z1 z2 z3 z4 z5 z6 z7 z8 z9 Z2 Z0 ZZ ZY ZX ZW ZV ZU:Tok}{w1 w2 w3 w4 w5 w6 w7 w8 w9 Z1 ZT ZS ZR ZQ ZO wk:Value}{ef i:Nat}{ts:List Value}{et e2 m N a b:Nat}{ta tb:Tok}{d:Int}{g2 g3:Addr}
theorem ox:Ok (W2 w Z V) 4 (j7 (Pw w Z V) G fr Z7 Z6 Z8 it TL RL g0 g1 z1 z2 z3 z4 z5 z6 z7 z8 z9 Z2 Z0 ZZ ZY ZX ZW ZV ZU w1 w2 w3 w4 w5 w6 w7 w8 w9 Z1 ZT ZS ZR ZQ ZO wk ef i 0 ts et e2 i):=
 okC [] 19 (λN=>[ef]) (λN=>[wk])
 (.i (ub 6 0xaaa5a5a5a5a5)::[])
 (λ_ _ _=>by kernel_rfl) (λN=>trivial)
theorem gl2(ha:ts[i]? =some (.int (.ofNat a) ta))(hb:ts[i+1]? =some (.int (.ofNat b) tb))(hi:i<2^10)(hi2:i+1<2^10)(hd:(.ofNat b:Int)- .ofNat a=d)(hg:decide (d> .ofNat 4)=false)(nx:NX λC U O=>Ok (W2 w Z V) 4 (j7 (Pw w Z V) G fr Z7 Z6 Z8 it TL RL g0 g1 z1 z2 z3 z4 z5 z6 z7 z8 z9 Z2 Z0 ZZ ZY ZX ZW ZV ZU w1 w2 w3 w4 w5 w6 w7 w8 w9 Z1 ZT ZS ZR ZQ ZO (O 0) (U 0) (i+1) m ts et e2 N)):Ok (W2 w Z V) 4 (j7 (Pw w Z V) G fr Z7 Z6 Z8 it TL RL g0 g1 z1 z2 z3 z4 z5 z6 z7 z8 z9 Z2 Z0 ZZ ZY ZX ZW ZV ZU w1 w2 w3 w4 w5 w6 w7 w8 w9 Z1 ZT ZS ZR ZQ ZO wk ef i (m+1) ts et e2 N):=
 aj nx (λN=>List.map N.r []) (λN=>[ef]) (λN=>[(.int (.ofNat i) (N.t 0))]) 69
 (kK N G it i m TL ts et b tb a ta d (.f [] (λN=>cGt G d 4 (N.t 4) (N.t 8) false)::[]))
 (sE (sg1 (by kernel_rfl)) Z) (λN=>⟨okU (aQ),okU (aT hb),okU (aT ha),okU (bV hd),okU (kGt hg),trivial⟩)
theorem ow:Ok (W2 w Z V) 4 (j6 (Pw w Z V) G fr Z7 Z6 Z8 it TL RL g0 g1 g2 z1 z2 z3 z4 z5 z6 z7 z8 z9 Z2 Z0 ZZ ZY ZX ZW ZV ZU w1 w2 w3 w4 w5 w6 w7 w8 w9 Z1 ZT ZS ZR ZQ ZO wk ef i 0 ts et e2 i):=
 okC [] 19 (λN=>[ef]) (λN=>[wk])
 (.i (ub 6 0xaaa5a5a5a5a5)::[])
 (λ_ _ _=>by kernel_rfl) (λN=>trivial)
theorem gl3(ha:ts[i]? =some (.int (.ofNat a) ta))(hb:ts[i+1]? =some (.int (.ofNat b) tb))(hi:i<2^10)(hi2:i+1<2^10)(hd:(.ofNat b:Int)- .ofNat a=d)(hg:decide (d> .ofNat 8)=false)(nx:NX λC U O=>Ok (W2 w Z V) 4 (j6 (Pw w Z V) G fr Z7 Z6 Z8 it TL RL g0 g1 g2 z1 z2 z3 z4 z5 z6 z7 z8 z9 Z2 Z0 ZZ ZY ZX ZW ZV ZU w1 w2 w3 w4 w5 w6 w7 w8 w9 Z1 ZT ZS ZR ZQ ZO (O 0) (U 0) (i+1) m ts et e2 N)):Ok (W2 w Z V) 4 (j6 (Pw w Z V) G fr Z7 Z6 Z8 it TL RL g0 g1 g2 z1 z2 z3 z4 z5 z6 z7 z8 z9 Z2 Z0 ZZ ZY ZX ZW ZV ZU w1 w2 w3 w4 w5 w6 w7 w8 w9 Z1 ZT ZS ZR ZQ ZO wk ef i (m+1) ts et e2 N):=
 aj nx (λN=>List.map N.r []) (λN=>[ef]) (λN=>[(.int (.ofNat i) (N.t 0))]) 69
 (kK N G it i m TL ts et b tb a ta d (.f [] (λN=>cGt G d 8 (N.t 4) (N.t 8) false)::[]))
 (sE (sg1 (by kernel_rfl)) Z) (λN=>⟨okU (aQ),okU (aT hb),okU (aT ha),okU (bV hd),okU (kGt hg),trivial⟩)
theorem ou:Ok (W2 w Z V) 4 (j5 (Pw w Z V) G fr Z7 Z6 Z8 it TL RL g0 g1 g2 g3 z1 z2 z3 z4 z5 z6 z7 z8 z9 Z2 Z0 ZZ ZY ZX ZW ZV ZU w1 w2 w3 w4 w5 w6 w7 w8 w9 Z1 ZT ZS ZR ZQ ZO wk ef i 0 ts et e2 i):=
 okC [] 19 (λN=>[ef]) (λN=>[wk])
 (.i (ub 6 0xaaa5a5a5a5a5)::[])
 (λ_ _ _=>by kernel_rfl) (λN=>trivial)
theorem gl4(ha:ts[i]? =some (.int (.ofNat a) ta))(hb:ts[i+1]? =some (.int (.ofNat b) tb))(hi:i<2^10)(hi2:i+1<2^10)(hd:(.ofNat b:Int)- .ofNat a=d)(hg:decide (d> .ofNat 16)=false)(nx:NX λC U O=>Ok (W2 w Z V) 4 (j5 (Pw w Z V) G fr Z7 Z6 Z8 it TL RL g0 g1 g2 g3 z1 z2 z3 z4 z5 z6 z7 z8 z9 Z2 Z0 ZZ ZY ZX ZW ZV ZU w1 w2 w3 w4 w5 w6 w7 w8 w9 Z1 ZT ZS ZR ZQ ZO (O 0) (U 0) (i+1) m ts et e2 N)):Ok (W2 w Z V) 4 (j5 (Pw w Z V) G fr Z7 Z6 Z8 it TL RL g0 g1 g2 g3 z1 z2 z3 z4 z5 z6 z7 z8 z9 Z2 Z0 ZZ ZY ZX ZW ZV ZU w1 w2 w3 w4 w5 w6 w7 w8 w9 Z1 ZT ZS ZR ZQ ZO wk ef i (m+1) ts et e2 N):=
 aj nx (λN=>List.map N.r []) (λN=>[ef]) (λN=>[(.int (.ofNat i) (N.t 0))]) 69
 (kK N G it i m TL ts et b tb a ta d (.f [] (λN=>cGt G d 16 (N.t 4) (N.t 8) false)::[]))
 (sE (sg1 (by kernel_rfl)) Z) (λN=>⟨okU (aQ),okU (aT hb),okU (aT ha),okU (bV hd),okU (kGt hg),trivial⟩)
end
end
section
open PySem PySem.W PySem.W.X PySem.Calls
structure GO where
 v:Value
 k:Resume→Sem PySem.Fin
 c:Code
 κ:Kont
 T:TT
 m:Nat
 G:GP
 ad:List (Addr × Addr)
 sd:List ac
noncomputable def gAd(p:Addr × Addr):Option GO→Option GO
 | none=>none
 | some o=>some {o with ad:=p::o.ad}
noncomputable def gSd(p:ac):Option GO→Option GO
 | none=>none
 | some o=>some {o with sd:=p::o.sd}
noncomputable abbrev fq:=Code→Kont→Sem PySem.Fin→TT→Nat→Nat→Nat→List Orc→GP→Option GO
noncomputable def qI(ih:fq)(r:Result)(κ:Kont):TT→Nat→Nat→Nat→List Orc→GP→Option GO:=match κ with
 | .ret c _ k κ=>ih c κ (k r)
 | _=>λ_ _ _ _ _ _=>none
noncomputable def noG:Kont→Bool
 | .ret _ hd _ κ=>match hd with
  | none=>noG κ
  | some _=>false
 | .base=>true
 | _=>false
noncomputable def fz:Bool→Option Value
 | true=>some .none
 | false=>none
theorem cL{b:Bool}(h:fz b=none):b=false:=by
 cases b with
 | false=>rfl
 | true=>cases h
noncomputable def dR(Tb:KT)(g:Setting)(ρ:Nat→Addr)(τ:Nat→Tok)(ζ:Nat→Value)(ih:fq)(c:Code)(κ:Kont)(t:Sem PySem.Fin):TT→Nat→Nat→Nat→List Orc→GP→Option GO:=match t with
 | .pure fin=>match fin with
  | .done f=>qI ih (.ok f) κ
  | .again c'=>match qk c' with
   | true=>ih c' κ (D c')
   | false=>λ_ _ _ _ _ _=>none
 | .rule _ k=>ih c κ (k ())
 | .at _ k=>ih c κ (k ())
 | .point _ k=>ih c κ (k ())
 | .ask k=>ih c κ (k g)
 | .yield v gd _ k=>λT m _ _ _ G=>match gd with
  | true=>none
  | false=>match noG κ with
   | true=>some ⟨v,k,c,κ,T,m,G,[],[]⟩
   | false=>none
 | .load a _ k=>λT m i z ZC G=>match ZC with
  | x::ZC=>match x with
   | .id j=>match look Tb T j with
    | some o=>gAd (a,adr ρ j) (ih c κ (k o) T m i z ZC G)
    | none=>none
   | _=>none
  | []=>none
 | .loadIfAlive a k=>λT m i z ZC G=>match ZC with
  | x::ZC=>match x with
   | .id j=>match look Tb T j with
    | some o=>gAd (a,adr ρ j) (ih c κ (k (some o)) T m i z ZC G)
    | none=>none
   | _=>none
  | []=>none
 | .update a _ f k=>λT m i z ZC G=>match ZC with
  | x::ZC=>match x with
   | .id j=>match Nat.blt j 164 with
    | true=>none
    | false=>match T.get (j-164)with
     | some o=>match(f o).isFreed with
      | true=>none
      | false=>gAd (a,ρ (j-164)) (ih c κ (k ()) (T.put 24 (j-164) (some (f o))) m i z ZC G)
     | none=>none
   | _=>none
  | []=>none
 | .alloc o k=>λT m i z ZC G=>match Nat.blt m 1000000 with
  | true=>match o.isFreed with
   | true=>none
   | false=>ih c κ (k (ρ m)) (T.put 24 m (some o)) (m+1) i z ZC G
  | false=>none
 | .fresh k=>λT m i z ZC G=>ih c κ (k (τ i)) T m (i+1) z ZC G
 | .handled own k=>match own with
  | false=>ih c κ (k none)
  | true=>λ_ _ _ _ _ _=>none
 | .call c' hd gd _ k=>match hd with
  | some _=>λ_ _ _ _ _ _=>none
  | none=>λT m i z ZC G=>match ZC with
   | x::orc1=>match x with
    | .fn foot nn nt nz G' F=>match aF foot with
     | true=>match Nat.ble (wc c+wB κ) 20 with
      | true=>match Nat.blt (m+nn) 1000000 with
       | true=>
        let N:Nm:=⟨cut m ρ,cut i τ,aq z ζ⟩
        let out:=F N (cut nn λq=>ρ (m+q)) (cut nt λq=>τ (i+q)) (aq nz λq=>ζ (z+q))
        match Nat.ble out.news.length nn with
        | true=>match dh foot out.ups T with
         | some T'=>gSd ⟨c',foot.map λj=>(ρ j,T.get j),G,G' N,nn,nt,nz,F N⟩ (ih c κ (k out.r) (aJ out.news m T') (m+nn) (i+nt) (z+nz) orc1 (G' N (cut nn λq=>ρ (m+q))))
         | none=>none
        | false=>none
       | false=>none
      | false=>none
     | false=>none
    | .nat=>ih c' (.ret c (fz gd) k κ) (D c') T m i z orc1 G
    | _=>ih c' (.ret c (fz gd) k κ) (D c') T m i z ZC G
   | []=>ih c' (.ret c (fz gd) k κ) (D c') T m i z [] G
 | _=>λ_ _ _ _ _ _=>none
noncomputable def m9(Tb:KT)(g:Setting)(ρ:Nat→Addr)(τ:Nat→Tok)(ζ:Nat→Value):Nat→fq
 | 0=>λ_ _ _ _ _ _ _ _ _=>none
 | n+1=>dR Tb g ρ τ ζ (m9 Tb g ρ τ ζ n)
noncomputable def ft:List Frame→Kont→Prop
 | [],.base=>True
 | .ret k hd g _ c _ kp::fs,.ret c' hd' k' κ=>k=k'∧c=c'∧hd=none∧(hd'=none→g=false)∧kp=[]∧ft fs κ
 | _,_=>False
theorem j9{k:Result→Sem PySem.Fin}{hd:Option Value}{g:Bool}{l:List Value}{c:Code}{p:Pos}{kp}{fs:List Frame}{κ:Kont}(h:ft (.ret k hd g l c p kp::fs) κ):∃hd' κ',κ=.ret c hd' k κ'∧hd=none∧(hd'=none→g=false)∧kp=[]∧ft fs κ':=by
 cases κ with
 | base=>exact h.elim
 | gen=>exact h.elim
 | genS=>exact h.elim
 | ret c' hd' k' κ=>
  obtain⟨rfl,rfl,rfl,hg,rfl,h⟩:=h
  exact⟨hd',κ,rfl,rfl,hg,rfl,h⟩
theorem ik{g:Nat}{k:GenResult→Sem PySem.Fin}{l:List Value}{c:Code}{p:Pos}{fs:List Frame}{κ:Kont}(h:ft (.gen g k l c p::fs) κ):False:=by
 cases κ<;>exact h
theorem oz{κ:Kont}(h:ft [] κ):κ=.base:=by
 cases κ with
 | base=>rfl
 | gen=>exact h.elim
 | genS=>exact h.elim
 | ret=>exact h.elim
theorem ka{fs:List Frame}:∀{κ:Kont},ft fs κ→noG κ=true→splitAtGen fs=none∧fs.any Frame.guarded=false:=by
 induction fs with
 | nil=>exact λ_ _=>⟨rfl,rfl⟩
 | cons f fs ih=>
  intro κ h hn
  cases f with
  | gen=>exact(ik h).elim
  | ret k hd g l c p kp=>
   obtain⟨hd',κ',rfl,rfl,hg,rfl,h2⟩:=j9 h
   cases hd' with
   | some v=>cases hn
   | none=>
   cases hg rfl
   obtain⟨a,b⟩:=ih h2 hn
   refine⟨?_,?_⟩
   ·show(splitAtGen fs).map _=none
    rw[a];rfl
   ·show(false||fs.any Frame.guarded)=false
    rw[b];rfl
theorem ij{A:Around}(hA:A.handled=none){fs:List Frame}:∀{κ:Kont},ft fs κ→(marksOver fs (A.handled,A.handled))=(none,none)∧frameCount (fs.map Frame.where_)≤wB κ∧unitsOf (fs.map Frame.where_)≤10*wB κ:=by
 induction fs with
 | nil=>
  intro κ h
  cases oz h
  exact⟨by show(A.handled,A.handled)=(none,none);rw[hA],Nat.le_refl _,Nat.zero_le _⟩
 | cons f fs ih=>
  intro κ h
  cases f with
  | gen=>exact(ik h).elim
  | ret k hd g l c p kp=>
   obtain⟨hd',κ',rfl,rfl,hg,rfl,h2⟩:=j9 h
   obtain⟨a,b,d⟩:=ih (κ:=κ') h2
   have h3:wB (Kont.ret c hd' k κ')=wc c+wB κ':=rfl
   have h4:=dC c
   have h5:=ew c
   refine⟨?_,?_,?_⟩
   ·have e:marksOver (Frame.ret k none g l c p []::fs) (A.handled,A.handled)=Frame.marks (Frame.ret k none g l c p []) (marksOver fs (A.handled,A.handled)):=rfl
    rw[e,a];rfl
   ·show frameCount ((c,p)::fs.map Frame.where_)≤_
    rw[frameCount_cons];lia
   ·show unitsOf ((c,p)::fs.map Frame.where_)≤_
    rw[unitsOf_cons];lia
section
variable{prog:Program}{w:World}{Tb:KT}{lv m₀:Nat}{A:Around}{P:End→Shared→Prop}{h₀:Heap}{d:Drawn}{os:OsState}
noncomputable def GoodG(prog:Program)(w:World)(Tb:KT)(lv m₀:Nat)(P:End→Shared→Prop)(h₀:Heap)(d:Drawn)(os:OsState)(ρ:Nat→Addr)(x:Option GO):Prop:=
 ∃out,x=some out∧(∀p∈out.ad,p.1=p.2)∧(∀s∈out.sd,eq prog w Tb lv s.c s.pre s.G s.G' s.nn s.nt s.nz s.F)∧
  ∀h' Zt ZM,Rp Tb m₀ ρ h₀ h' out.T out.m→out.G Zt→∀fs p l,ft fs out.κ→P (.susp out.v false l out.k out.c p fs) ⟨h',Zt,d,ZM,os⟩
theorem GoodG.no{ρ:Nat→Addr}(h:GoodG prog w Tb lv m₀ P h₀ d os ρ none):False:=by
 obtain⟨_,h,_⟩:=h;cases h
theorem GoodG.ad{ρ:Nat→Addr}{p:Addr × Addr}{x:Option GO}(h:GoodG prog w Tb lv m₀ P h₀ d os ρ (gAd p x)):p.1=p.2∧GoodG prog w Tb lv m₀ P h₀ d os ρ x:=by
 obtain⟨out,e,a,b,c⟩:=h
 cases x with
 | none=>cases e
 | some o=>
  cases e
  exact⟨a p (.head _),o,rfl,λq hq=>a q (.tail _ hq),b,c⟩
theorem GoodG.sd{ρ:Nat→Addr}{p:ac}{x:Option GO}(h:GoodG prog w Tb lv m₀ P h₀ d os ρ (gSd p x)):eq prog w Tb lv p.c p.pre p.G p.G' p.nn p.nt p.nz p.F∧GoodG prog w Tb lv m₀ P h₀ d os ρ x:=by
 obtain⟨out,e,a,b,c⟩:=h
 cases x with
 | none=>cases e
 | some o=>
  cases e
  exact⟨b p (.head _),o,rfl,a,λq hq=>b q (.tail _ hq),c⟩
noncomputable def lW(prog:Program)(w:World)(Tb:KT)(lv m₀:Nat)(A:Around)(P:End→Shared→Prop)(h₀:Heap)(d:Drawn)(os:OsState)(ih:(Nat→Addr)→(Nat→Tok)→(Nat→Value)→fq):Prop:=
 ∀(c:Code) (κ:Kont) (t:Sem PySem.Fin) (T:TT) (m i z:Nat) (ZC:List Orc) (G:GP) (ρ₀:Nat→Addr) (τ₀:Nat→Tok) (ζ₀:Nat→Value) (h:Heap) (gs:Array GenState) (U:Nat) (fs:List Frame),
  m≤1000000→ft fs κ→Rp Tb m₀ ρ₀ h₀ h T m→G gs→(∀ρ τ ζ,Ag ρ ρ₀ m→Ag τ τ₀ i→AgV ζ ζ₀ z→GoodG prog w Tb lv m₀ P h₀ d os ρ (ih ρ τ ζ c κ t T m i z ZC G))→
  SegX (model prog w) A c t fs ⟨h,gs,d,U,os⟩ P
theorem jX{ih:(Nat→Addr)→(Nat→Tok)→(Nat→Value)→fq}(IH:lW prog w Tb lv m₀ A P h₀ d os ih){r:Result}{c:Code}{κ:Kont}{T:TT}{m i z:Nat}{ZC:List Orc}{G:GP}{ρ₀:Nat→Addr}{τ₀:Nat→Tok}{ζ₀:Nat→Value}{h:Heap}{gs:Array GenState}{U:Nat}{fs:List Frame}{t:Sem PySem.Fin}(ht:t=leafOf r)
  (hm:m≤1000000) (hκ:ft fs κ) (D₀:Rp Tb m₀ ρ₀ h₀ h T m) (hG:G gs) (H:∀ρ τ ζ,Ag ρ ρ₀ m→Ag τ τ₀ i→AgV ζ ζ₀ z→GoodG prog w Tb lv m₀ P h₀ d os ρ (qI (ih ρ τ ζ) r κ T m i z ZC G)):
  SegX (model prog w) A c t fs ⟨h,gs,d,U,os⟩ P:=by
 have H0:=H ρ₀ τ₀ ζ₀ (Ag.refl _ _) (Ag.refl _ _) (AgV.refl _ _)
 cases κ with
 | base=>exact H0.no.elim
 | gen=>exact H0.no.elim
 | genS=>exact H0.no.elim
 | ret c' hd k κ=>
  cases fs with
  | nil=>exact hκ.elim
  | cons f fs=>
   cases f with
   | gen=>exact hκ.elim
   | ret k' hd' g l c'' p kp=>
    obtain⟨rfl,rfl,rfl,_,rfl,hκ⟩:=hκ
    exact s_pop prog w A c fs P _ r t ht _ _ _ _ _ _ _ (IH _ _ _ _ _ _ _ _ _ _ _ _ _ _ _ _ hm hκ D₀ hG H)
theorem jG{ih:(Nat→Addr)→(Nat→Tok)→(Nat→Value)→fq}(hA:Lv A (lv+1))(IH:lW prog w Tb lv m₀ A P h₀ d os ih):lW prog w Tb lv m₀ A P h₀ d os (λρ τ ζ=>dR Tb ⟨prog,w.params⟩ ρ τ ζ (ih ρ τ ζ)):=by
 intro c κ t T m i z ZC G ρ₀ τ₀ ζ₀ h gs U fs hm hκ D₀ hG H
 have H0:=H ρ₀ τ₀ ζ₀ (Ag.refl _ _) (Ag.refl _ _) (AgV.refl _ _)
 cases t with
 | pure fin=>
  cases fin with
  | done f=>exact jX IH rfl hm hκ D₀ hG H
  | again c'=>
   dsimp only[dR]at H H0
   cases hq:qk c' with
   | false=>rw[hq]at H0;exact H0.no.elim
   | true=>
    simp only[hq]at H H0
    refine s_again prog w A c fs P _ c' (gk hq) ?_
    rw[hH]
    exact IH _ _ _ _ _ _ _ _ _ _ _ _ _ _ _ _ hm hκ D₀ hG H
 | rule tag k=>exact s_skim prog w A c fs P _ _ 1 (IH _ _ _ _ _ _ _ _ _ _ _ _ _ _ _ _ hm hκ D₀ hG H)
 | «at» q k=>exact s_skim prog w A c fs P _ _ 1 (IH _ _ _ _ _ _ _ _ _ _ _ _ _ _ _ _ hm hκ D₀ hG H)
 | point l k=>exact s_skim prog w A c fs P _ _ 1 (IH _ _ _ _ _ _ _ _ _ _ _ _ _ _ _ _ hm hκ D₀ hG H)
 | ask k=>exact s_skim prog w A c fs P _ _ 1 (IH _ _ _ _ _ _ _ _ _ _ _ _ _ _ _ _ hm hκ D₀ hG H)
 | yield v gd l k=>
  cases gd with
  | true=>exact H0.no.elim
  | false=>
   dsimp only[dR]at H0
   cases hng:noG κ with
   | false=>rw[hng]at H0;exact H0.no.elim
   | true=>
   rw[hng]at H0
   obtain⟨out,e,_,_,y⟩:=H0
   cases e
   obtain⟨a,b⟩:=ka hκ hng
   exact s_yield prog w A c fs P _ v l k a b λp=>y h gs U D₀ hG fs p l hκ
 | load a q k=>
  dsimp only[dR]at H H0
  cases ZC with
  | nil=>exact H0.no.elim
  | cons x orc1=>
   cases x with
   | fn=>exact H0.no.elim
   | tl=>exact H0.no.elim
   | nat=>exact H0.no.elim
   | id j=>
    dsimp only at H H0
    cases lo:look Tb T j with
    | none=>rw[lo]at H0;exact H0.no.elim
    | some o=>
     simp only[lo]at H H0
     obtain⟨ea,H0⟩:=H0.ad
     dsimp only at ea
     refine s_load prog w A c fs P _ _ _ _ _ _ _ _ o (ea▸D₀.look lo) ?_
     exact IH _ _ _ _ _ _ _ _ _ _ _ _ _ _ _ _ hm hκ D₀ hG λρ τ ζ a b v=>(H ρ τ ζ a b v).ad.2
 | loadIfAlive a k=>
  dsimp only[dR]at H H0
  cases ZC with
  | nil=>exact H0.no.elim
  | cons x orc1=>
   cases x with
   | fn=>exact H0.no.elim
   | tl=>exact H0.no.elim
   | nat=>exact H0.no.elim
   | id j=>
    dsimp only at H H0
    cases lo:look Tb T j with
    | none=>rw[lo]at H0;exact H0.no.elim
    | some o=>
     simp only[lo]at H H0
     obtain⟨ea,H0⟩:=H0.ad
     dsimp only at ea
     refine s_alive prog w A c fs P _ _ _ _ _ _ _ o (ea▸D₀.look lo) ?_
     exact IH _ _ _ _ _ _ _ _ _ _ _ _ _ _ _ _ hm hκ D₀ hG λρ τ ζ a b v=>(H ρ τ ζ a b v).ad.2
 | update a q f k=>
  dsimp only[dR]at H H0
  cases ZC with
  | nil=>exact H0.no.elim
  | cons x orc1=>
   cases x with
   | fn=>exact H0.no.elim
   | tl=>exact H0.no.elim
   | nat=>exact H0.no.elim
   | id j=>
    dsimp only at H H0
    cases hb:Nat.blt j 164 with
    | true=>rw[hb]at H0;exact H0.no.elim
    | false=>
     simp only[hb]at H H0
     cases ho:T.get (j-164)with
     | none=>rw[ho]at H0;exact H0.no.elim
     | some o=>
      simp only[ho]at H H0
      cases hf:(f o).isFreed with
      | true=>rw[hf]at H0;exact H0.no.elim
      | false=>
       simp only[hf]at H H0
       obtain⟨ea,H0⟩:=H0.ad
       dsimp only at ea
       have hown:=D₀.own _ _ ho
       refine s_cmd prog w A c fs P (m:=updatePart a q f) (k:=k) (wpAny_updatePart (o:=o) (ea▸hown.2) ?_)
       subst ea
       exact IH _ _ _ _ _ _ _ _ _ _ _ _ _ _ _ _ hm hκ (D₀.update (by lia) ho hf) hG λρ τ ζ a b v=>(H ρ τ ζ a b v).ad.2
 | alloc o k=>
  dsimp only[dR]at H H0
  cases hmb:Nat.blt m 1000000 with
  | false=>rw[hmb]at H0;exact H0.no.elim
  | true=>
   cases hf:o.isFreed with
   | true=>rw[hmb,hf]at H0;exact H0.no.elim
   | false=>
    simp only[hmb,hf]at H H0
    refine s_cmd prog w A c fs P (m:=alloc o) (k:=k) (wpAny_alloc ?_)
    have e:ext ρ₀ (λ_=>h.objs.size) m m=h.objs.size:=by have:=bn (ρ₀:=ρ₀) (C:=λ_=>h.objs.size) (m:=m) (q:=0);simpa using this
    have D₁:=(D₀.ag (Ag.ext ρ₀ (λ_=>h.objs.size) m)).push (Nat.le_of_ble_eq_true hmb) hf e
    refine IH c κ (k h.objs.size) _ (m+1) i z ZC G (ext ρ₀ (λ_=>h.objs.size) m) τ₀ ζ₀ _ _ _ fs (Nat.le_of_ble_eq_true hmb) hκ D₁ hG λρ τ ζ a b v=>?_
    have y:=H ρ τ ζ (a.trans (Ag.ext _ _ _) (Nat.le_succ m)) b v
    rw[a m (Nat.lt_succ_self m),e]at y
    exact y
 | fresh k=>
  dsimp only[dR]at H H0
  refine s_fresh prog w A c fs P _ _ _ _ _ _ ?_
  have e:ext τ₀ (λ_=>U) i i=U:=by have:=bn (ρ₀:=τ₀) (C:=λ_=>U) (m:=i) (q:=0);simpa using this
  refine IH c κ (k U) T m (i+1) z ZC G ρ₀ (ext τ₀ (λ_=>U) i) ζ₀ _ _ _ fs hm hκ D₀ hG λρ τ ζ a b v=>?_
  have y:=H ρ τ ζ a (b.trans (Ag.ext _ _ _) (Nat.le_succ i)) v
  rw[b i (Nat.lt_succ_self i),e]at y
  exact y
 | handled own k=>
  cases own with
  | true=>exact H0.no.elim
  | false=>
   refine s_handled prog w A c fs P _ _ ?_
   have e:(A.over c fs).handled=none:=by
    show(marksOver fs (A.handled,A.handled)).1=none
    rw[(ij hA.hd hκ).1]
   rw[e]
   exact IH _ _ _ _ _ _ _ _ _ _ _ _ _ _ _ _ hm hκ D₀ hG H
 | call c' hd gd l k=>
  cases hd with
  | some v=>exact H0.no.elim
  | none=>
   dsimp only[dR]at H H0
   cases ZC with
   | nil=>
    refine s_call prog w A c fs P _ c' none gd l k λp=>?_
    rw[hH]
    exact IH c' (.ret c (fz gd) k κ) _ _ _ _ _ _ _ _ _ _ _ _ _ (.ret k none gd l c p []::fs) hm ⟨rfl,rfl,rfl,cL,rfl,hκ⟩ D₀ hG H
   | cons x orc1=>
    cases x with
    | id j=>
     refine s_call prog w A c fs P _ c' none gd l k λp=>?_
     rw[hH]
     exact IH c' (.ret c (fz gd) k κ) _ _ _ _ _ _ _ _ _ _ _ _ _ (.ret k none gd l c p []::fs) hm ⟨rfl,rfl,rfl,cL,rfl,hκ⟩ D₀ hG H
    | tl=>
     refine s_call prog w A c fs P _ c' none gd l k λp=>?_
     rw[hH]
     exact IH c' (.ret c (fz gd) k κ) _ _ _ _ _ _ _ _ _ _ _ _ _ (.ret k none gd l c p []::fs) hm ⟨rfl,rfl,rfl,cL,rfl,hκ⟩ D₀ hG H
    | nat=>
     refine s_call prog w A c fs P _ c' none gd l k λp=>?_
     rw[hH]
     exact IH c' (.ret c (fz gd) k κ) _ _ _ _ _ _ _ _ _ _ _ _ _ (.ret k none gd l c p []::fs) hm ⟨rfl,rfl,rfl,cL,rfl,hκ⟩ D₀ hG H
    | fn foot nn nt nz G' F=>
     dsimp only at H H0
     cases h1:aF foot with
     | false=>rw[h1]at H0;exact H0.no.elim
     | true=>
      cases h2:Nat.ble (wc c+wB κ) 20 with
      | false=>rw[h1,h2]at H0;exact H0.no.elim
      | true=>
       cases h3:Nat.blt (m+nn) 1000000 with
       | false=>rw[h1,h2,h3]at H0;exact H0.no.elim
       | true=>
        simp only[h1,h2,h3]at H H0
        obtain⟨k1,k2,k3⟩:=ij (A:=A) hA.hd hκ
        have w1:=dC c
        have w2:=ew c
        have w3:=Nat.le_of_ble_eq_true h2
        have w4:=hA.dp
        have w5:=hA.un
        have sd:eq prog w Tb lv c' (foot.map λj=>(ρ₀ j,T.get j)) G (G' ⟨cut m ρ₀,cut i τ₀,aq z ζ₀⟩) nn nt nz (F ⟨cut m ρ₀,cut i τ₀,aq z ζ₀⟩):=by
         split at H0
         ·split at H0
          ·exact H0.sd.1
          ·exact H0.no.elim
         ·exact H0.no.elim
        refine s_cmd prog w A c fs P (m:=.call c' none gd l .pure) (k:=k) (y_start _ _ _ _ _ _ _ _ _ _ _ _ (by intro e;cases e) ?_)
        rw[cq]
        refine sd _ _ _ _ _ _ _ ⟨?_,?_,?_⟩ hG D₀.base (nm D₀ h1) ?_
        ·show(marksOver fs (A.handled,A.handled)).1=none
         rw[k1]
        ·show A.depth+frameCount (fs.map Frame.where_)+c.weight+60*lv≤999
         lia
        ·show A.units+unitsOf (fs.map Frame.where_)+c.cUnits+600*lv≤9899
         lia
        ·intro h' Zt ZM C ZB O Zq Po
         refine wpAny_pure ?_
         have c1:∀ρ,Ag ρ (ext ρ₀ C m) (m+nn)→cut m ρ=cut m ρ₀:=λρ a=>by
          funext q
          unfold cut
          cases hq:Nat.blt q m with
          | false=>rfl
          | true=>
           have hq:q<m:=Nat.le_of_ble_eq_true hq
           exact(a q (by lia)).trans (bA hq)
         have c2:∀τ,Ag τ (ext τ₀ ZB i) (i+nt)→cut i τ=cut i τ₀:=λτ a=>by
          funext q
          unfold cut
          cases hq:Nat.blt q i with
          | false=>rfl
          | true=>
           have hq:q<i:=Nat.le_of_ble_eq_true hq
           exact(a q (by lia)).trans (bA hq)
         have c3:∀ζ,AgV ζ (gR ζ₀ O z) (z+nz)→aq z ζ=aq z ζ₀:=λζ a=>by
          funext q
          unfold aq
          cases hq:Nat.blt q z with
          | false=>rfl
          | true=>
           have hq:q<z:=Nat.le_of_ble_eq_true hq
           exact(a q (by lia)).trans (if_pos hq)
         have e1:∀ρ,Ag ρ (ext ρ₀ C m) (m+nn)→(cut nn λq=>ρ (m+q))=cut nn C:=λρ a=>by
          funext q
          unfold cut
          cases hq:Nat.blt q nn with
          | false=>rfl
          | true=>exact(a (m+q) (Nat.add_lt_add_left (Nat.le_of_ble_eq_true hq) m)).trans bn
         have e2:∀τ,Ag τ (ext τ₀ ZB i) (i+nt)→(cut nt λq=>τ (i+q))=cut nt ZB:=λτ a=>by
          funext q
          unfold cut
          cases hq:Nat.blt q nt with
          | false=>rfl
          | true=>exact(a (i+q) (Nat.add_lt_add_left (Nat.le_of_ble_eq_true hq) i)).trans bn
         have e3:∀ζ,AgV ζ (gR ζ₀ O z) (z+nz)→(aq nz λq=>ζ (z+q))=aq nz O:=λζ a=>by
          funext q
          unfold aq
          cases hq:Nat.blt q nz with
          | false=>rfl
          | true=>exact(a (z+q) (Nat.add_lt_add_left (Nat.le_of_ble_eq_true hq) z)).trans lF
         have b3:m+nn<1000000:=Nat.le_of_ble_eq_true h3
         have z₁:=H (ext ρ₀ C m) (ext τ₀ ZB i) (gR ζ₀ O z) (Ag.ext _ _ _) (Ag.ext _ _ _) (AgV.ext _ _ _)
         rw[c1 _ (Ag.refl _ _),c2 _ (Ag.refl _ _),c3 _ (AgV.refl _ _),e1 _ (Ag.refl _ _),e2 _ (Ag.refl _ _),e3 _ (AgV.refl _ _)]at z₁
         cases h4:Nat.ble (F ⟨cut m ρ₀,cut i τ₀,aq z ζ₀⟩ (cut nn C) (cut nt ZB) (aq nz O)).news.length nn with
         | false=>rw[h4]at z₁;exact z₁.no.elim
         | true=>
          cases h5:dh foot (F ⟨cut m ρ₀,cut i τ₀,aq z ζ₀⟩ (cut nn C) (cut nt ZB) (aq nz O)).ups T with
          | none=>simp only[h4,h5]at z₁;exact z₁.no.elim
          | some T₁=>
           have D₁:=D₀.post b3 (Nat.le_of_ble_eq_true h4) h5 Po
           refine IH c κ (k (F ⟨cut m ρ₀,cut i τ₀,aq z ζ₀⟩ (cut nn C) (cut nt ZB) (aq nz O)).r) _ (m+nn) (i+nt) (z+nz) orc1 (G' ⟨cut m ρ₀,cut i τ₀,aq z ζ₀⟩ (cut nn C)) (ext ρ₀ C m) (ext τ₀ ZB i) (gR ζ₀ O z) _ _ _ fs (by lia) hκ D₁ Zq λρ τ ζ a b v=>?_
           have y:=H ρ τ ζ (a.trans (Ag.ext _ _ _) (Nat.le_add_right ..)) (b.trans (Ag.ext _ _ _) (Nat.le_add_right ..)) (v.trans (AgV.ext _ _ _) (Nat.le_add_right ..))
           rw[c1 ρ a,c2 τ b,c3 ζ v,e1 ρ a,e2 τ b,e3 ζ v]at y
           simp only[h4,h5]at y
           exact y.sd.2
 | unsupported=>exact H0.no.elim
 | finish=>exact H0.no.elim
 | register=>exact H0.no.elim
 | choose=>exact H0.no.elim
 | os=>exact H0.no.elim
 | newGen=>exact H0.no.elim
 | genState=>exact H0.no.elim
 | resume=>exact H0.no.elim
 | raise=>exact H0.no.elim
 | stack=>exact H0.no.elim
 | fork=>exact H0.no.elim
 | thread=>exact H0.no.elim
 | await=>exact H0.no.elim
theorem gi(hA:Lv A (lv+1)):∀n,lW prog w Tb lv m₀ A P h₀ d os λρ τ ζ=>m9 Tb ⟨prog,w.params⟩ ρ τ ζ n
 | 0=>λ_ _ _ _ _ _ _ _ _ ρ₀ τ₀ ζ₀ _ _ _ _ _ _ _ _ H=>(H ρ₀ τ₀ ζ₀ (Ag.refl _ _) (Ag.refl _ _) (AgV.refl _ _)).no.elim
 | n+1=>jG hA (gi hA n)
end
end
section
open PySem PySem.W PySem.W.X PySem.Builtin
noncomputable abbrev cF:List Nat:=[103,114,111,117,112,105,110,103]
noncomputable abbrev iO:List Nat:=[95,103,114,111,117,112,105,110,103,95,105,110,116,101,114,118,97,108,115]
noncomputable def GN(k:Nat):GP:=λgs=>gs.size=k∧leftWithCleanup gs=false
noncomputable def GS(n:Nat)(st:GenState→Prop):GP:=λgs=>gs.size=n+1∧leftWithCleanup gs=false∧∃x,gs[n]? =some x∧st x
noncomputable def rI(c:Code):GenState→Prop:=λx=>x=.fresh c
noncomputable def vA(k:Resume→Sem PySem.Fin)(c:Code)(κ:Kont):GenState→Prop:=λx=>∃l p fs,x=.suspended k l c p fs false∧ft fs κ
variable{n:Nat}{st:GenState→Prop}{gs:Array GenState}{x:GenState}{w:World}{M:Model}{A:Around}{E:Value→Shared→Prop}{row:Addr}
theorem GS.gn(h:GS n st gs):GN (n+1) gs:=⟨h.1,h.2.1⟩
noncomputable def gnO(n:Nat)(t1 t2:Tok):Obj:=⟨.type "generator",none,.fields ⟨[.int (.ofNat n) 0,.str (mS iO) t1,.str (mS iO) t2]⟩,⟨[]⟩⟩
noncomputable def sdq(c:Code)(α:Nat→Addr)(objs:List (Option Obj))(G:GP)(G':GQ)(nn nt nz:Nat)(F:FT):ac:=⟨c,av α objs 0,G,G',nn,nt,nz,F⟩
noncomputable def tZ:GenState→Bool
 | .suspended _ _ _ _ _ c=>c
 | _=>false
theorem nO(gs:Array GenState):leftWithCleanup gs=gs.any tZ:=by
 unfold leftWithCleanup
 congr 1
theorem lp(h:leftWithCleanup gs=false)(hx:tZ x=false):leftWithCleanup (gs.setIfInBounds n x)=false:=by
 rw[nO]at h ⊢
 rw[Array.any_eq_false]at h ⊢
 intro i hi
 rw[Array.size_setIfInBounds]at hi
 rw[Array.getElem_setIfInBounds hi]
 split
 ·rw[hx];exact Bool.false_ne_true
 ·exact h i hi
theorem nN(h:leftWithCleanup gs=false)(hx:tZ x=false):leftWithCleanup (gs.push x)=false:=by
 rw[nO]at h ⊢
 rw[Array.any_push,h,hx];rfl
theorem gH(w:World):∃o,(Tb w.params).get cStatics=some o∧gI o=true:=⟨_,rfl,by kernel_rfl⟩
structure yJ where
 v:Value
 k:Resume→Sem PySem.Fin
 c:Code
 κ:Kont
 old:List (Option Obj)
 new:List (Option Obj)
 G:GP
 ad:List (Addr × Addr)
 sd:List ac
noncomputable def x5(m₀:Nat)(es:List Nat):Option GO→Option yJ
 | none=>none
 | some o=>some ⟨o.v,o.k,o.c,o.κ,eA o.T 0 m₀,es.map o.T.get,o.G,o.ad,o.sd⟩
theorem mE{m₀:Nat}{es:List Nat}{x:Option GO}{r:yJ}(h:x5 m₀ es x=some r):∃out,x=some out∧out.v=r.v∧out.k=r.k∧out.c=r.c∧out.κ=r.κ∧eA out.T 0 m₀=r.old∧es.map out.T.get=r.new∧out.G=r.G∧out.ad=r.ad∧out.sd=r.sd:=by
 cases x with
 | none=>cases h
 | some o=>cases h;exact⟨o,rfl,rfl,rfl,rfl,rfl,rfl,rfl,rfl,rfl,rfl⟩
theorem i5{lv:Nat}{α:Nat→Addr}{objs:List (Option Obj)}{t1 t2:Tok}{st':(Nat→Addr)→GenState→Prop}{nn nt nz:Nat}{F:FT}(h0:objs[0]? =some (some (gnO n t1 t2))){c₀:Code}{κ₀:Kont}{t₀:Sem PySem.Fin}(hst:∀x,st x→(x=.fresh c₀∧t₀=D c₀∧κ₀=.base)∨∃k l p fs,x=.suspended k l c₀ p fs false∧t₀=k (.send .none)∧ft fs κ₀)
  (es:List Nat) (fuel:Nat) (tl:Nm→List Nat) (zl:Nm→List Value) (ZA:GP→List It) (v:Nm→Value) (k':Nm→Resume→Sem PySem.Fin) (c':Nm→Code) (κ':Nm→Kont)
  (seg:∀ρ τ ζ G,x5 objs.length es (m9 (Tb w.params) ⟨pw,w.params⟩ (ay α ρ objs.length) τ ζ fuel c₀ κ₀ t₀ (aJ objs 0 .nil) objs.length 0 0 (itO (ZA G) []) G)=
   let N:Nm:=⟨ay α ρ objs.length,τ,ζ⟩
   let o:=F (cut nn (aa (es.map N.r))) (cut nt (aa (tl N))) (aq nz (aL (zl N)))
   some ⟨v N,k' N,c' N,κ' N,jA objs 0 o.ups,o.news,G,cZ N.r (itO (ZA G) []),itS N (ZA G)⟩)
  (hs:∀N G,bO w lv N (ZA G)) (hκn:∀N,noG (κ' N)=true)
  (hv:∀N:Nm,(F (cut nn (aa (es.map N.r))) (cut nt (aa (tl N))) (aq nz (aL (zl N)))).r=.ok (.ret (v N)):=by exact λ_=>rfl)
  (hst':∀(N:Nm) x,(∀q,q<objs.length→N.r q=α q)→vA (k' N) (c' N) (κ' N) x→st' (cut nn (aa (es.map N.r))) x:=by exact λ_ _ _ h=>h)
  (hl:Nat.blt objs.length 1000000=true:=by kernel_rfl) (hes:aF es=true:=by rfl) (hge:bZ objs.length es=true:=by rfl) (hn:es.length=nn:=by rfl)
  (hw:∀C U O,bH (F C U O).news=true:=by exact λ_ _ _=>rfl) (hnl:∀C U O,(F C U O).news.length=nn:=by exact λ_ _ _=>rfl) (hu:∀C U O,bU (F C U O).ups=true:=by exact λ_ _ _=>rfl):
  Ok w (lv+2) (sdq (.call (.builtin "generator.__next__") ⟨[.ref (α 0)],[]⟩) α objs (GS n st) (λC=>GS n (st' C)) nn nt nz F):=by
 have hl:=Nat.le_of_ble_eq_true hl
 refine bv slot_gen_next entry_gen_next (args_gen_next _) rfl λA R h gs d U os hA hG hB hP K=>?_
 obtain⟨hsz,hlc,x,hx,hstx⟩:=hG
 have hga:h.get? (α 0)=some (gnO n t1 t2):=(hP.get (α 0,some (gnO n t1 t2)) (by
  have:(av α objs 0)[0]? =some (α 0,some (gnO n t1 t2)):=by rw[aA,h0]
  exact List.mem_of_getElem? this) _ rfl).1
 have hg:Heap.IsGen h (α 0) n:=⟨_,_,_,hga,rfl,rfl,rfl⟩
 refine⟨hg.typeIs (s:=⟨h,gs,d,U,os⟩),?_⟩
 have hA1:Lv A.in1 (lv+1):=⟨hA.hd,by have:=hA.dp;show A.depth+60*(lv+1)≤999;lia,by have:=hA.un;show A.units+1+600*(lv+1)≤9899;lia⟩
 have hnl':Heap.NoLimit h:=by
  obtain⟨o,ho,hn⟩:=gH w
  exact gG (hB _ _ ho) hn
 have hroom:A.in1.depth<recursionLimit:=by have:=hA.dp;show A.depth<1000;lia
 show wpAny _ _ (Builtin.Generator.genWake (.ref (α 0)) (.send .none)) _ _ _
 unfold Builtin.Generator.genWake
 refine wpAny_bind (wpAny_holding (wpAny_genNumber (s:=⟨h,gs,d,U,os⟩) hg (wpAny_bind (wpAny_genState hx ?_))))
 have Zy:n<gs.size:=by lia
 have main:∀(k:GenResult→Sem PySem.Fin),(∀v,k (.yielded v)=ret v)→wpAny (model pw w) A.in1 (.resume n (.send .none) [] k) (λfin s'=>∃v,fin=.done (.ret v)∧R (.ok (.ret v)) s') (λe s'=>R (.error e) s') ⟨h,gs,d,U,os⟩:=by
  intro k hk
  have D₀:=br hl hB hP
  have fsx:∃fs,ft fs κ₀∧((x=.fresh c₀∧Resume.send .none=.send .none∧t₀=denote table c₀∧fs=[])∨(∃k₀ l₀ p₀ cl,x=.suspended k₀ l₀ c₀ p₀ fs cl∧t₀=k₀ (.send .none))):=by
   rcases hst x hstx with⟨h1,h2,h3⟩ | ⟨k0,l0,p0,fs,h1,h2,h3⟩
   ·exact⟨[],by rw[h3];trivial,.inl ⟨h1,rfl,by rw[h2,hH],rfl⟩⟩
   ·exact⟨fs,h3,.inr ⟨k0,l0,p0,false,h1,h2⟩⟩
  obtain⟨fs,hfs,hgs⟩:=fsx
  refine wake_any PySem.Fin pw w hx hgs (λΓ=>Γ.In A.in1) (λ_ h=>h) ?_
  refine gi (Tb:=Tb w.params) (m₀:=objs.length) (h₀:=h) hA1 fuel c₀ κ₀ t₀ (aJ objs 0 .nil) objs.length 0 0 (itO (ZA (· =gs.setIfInBounds n .running)) []) (· =gs.setIfInBounds n .running) α (λ_=>0) (λ_=>.none) h (gs.setIfInBounds n .running) U fs (Nat.le_of_lt hl) hfs D₀ rfl λρ τ ζ a _ _=>?_
  have sg:=seg ρ τ ζ (· =gs.setIfInBounds n .running)
  rw[cO a]at sg
  obtain⟨out,e,ev,ek,ec,eκ,e2,e3,e4,e5,e6⟩:=mE sg
  dsimp only at ev ek ec eκ e2 e3
  refine⟨out,e,by rw[e5];exact bq _ _,by rw[e6];exact bp (hs _ _),λh' Zt ZM DD Zq fs p l hfs'=>?_⟩
  rw[e4]at Zq
  subst Zq
  intro Γ pp hΓ
  rw[ev,ek,ec]
  rw[eκ]at hfs'
  have hng:noG (κ' ⟨ρ,τ,ζ⟩)=true:=hκn ⟨ρ,τ,ζ⟩
  obtain⟨_,hgd⟩:=ka hfs' hng
  show Sem.wp _ Γ (k (.yielded _)) _ _ pp _
  rw[hk]
  refine wpAny_pure (M:=model pw w) (A:=A.in1) (E:=λe s'=>R (.error e) s') ?_ Γ pp hΓ
  refine⟨_,rfl,?_⟩
  have eg:(End.susp (v ⟨ρ,τ,ζ⟩) false l (k' ⟨ρ,τ,ζ⟩) (c' ⟨ρ,τ,ζ⟩) p fs).genState=.suspended (k' ⟨ρ,τ,ζ⟩) l (c' ⟨ρ,τ,ζ⟩) p fs false:=by
   show GenState.suspended _ _ _ _ _ (false||fs.any Frame.guarded)=_
   rw[hgd];rfl
  have hsome:∀j∈es,∃o,out.T.get j=some o:=λj hj=>by
   have:=List.mem_map_of_mem (f:=out.T.get) hj
   rw[e3]at this
   exact b9 (hw _ _ _) _ this
  have hG2:GS n (st' (cut nn (aa (es.map ρ)))) ((gs.setIfInBounds n .running).setIfInBounds n (.suspended (k' ⟨ρ,τ,ζ⟩) l (c' ⟨ρ,τ,ζ⟩) p fs false)):=by
   refine⟨by rw[Array.size_setIfInBounds,Array.size_setIfInBounds];exact hsz,lp (lp hlc rfl) rfl,_,?_,hst' ⟨ρ,τ,ζ⟩ _ a ⟨l,p,fs,rfl,hfs'⟩⟩
   rw[Array.getElem?_setIfInBounds_self_of_lt (by rw[Array.size_setIfInBounds];exact Zy)]
  have k:=K h' _ ZM (aa (es.map ρ)) (aa (tl ⟨ρ,τ,ζ⟩)) (aL (zl ⟨ρ,τ,ζ⟩)) hG2 ?_
  ·have k:=k
   dsimp only[sdq]at k
   rw[hv ⟨ρ,τ,ζ⟩]at k
   unfold Shared.setGen
   rw[eg]
   exact k
  ·refine eE (out:=⟨.ret (.ok .next),out.T,out.m,0,0,out.G,[],[]⟩) hl a hP DD e2 (λq o hq=>?_) (hu _ _ _) hes hge hn hsome
   have z:(F (cut nn (aa (es.map ρ))) (cut nt (aa (tl ⟨ρ,τ,ζ⟩))) (aq nz (aL (zl ⟨ρ,τ,ζ⟩)))).news[q]? =some (some o):=hq
   refine⟨?_,by show(es.map out.T.get)[q]? =_;rw[e3];exact z⟩
   have:=(List.getElem?_eq_some_iff.mp z).1
   rw[hnl]at this
   exact this
 rcases hst x hstx with⟨rfl,_,_⟩ | ⟨k0,l0,p0,fs,rfl,_,_⟩
 ·refine wpAny_bind (wpAny_roomToWake hnl' hroom ?_)
  exact main _ λv=>rfl
 ·refine wpAny_bind (wpAny_roomToWake hnl' hroom ?_)
  exact main _ λv=>rfl
theorem um{M:Model}{A:Around}{E:Value→Shared→Prop}{h:Heap}{gs:Array GenState}{d:Drawn}{U:Nat}{os:OsState}{sc:Scope}{g:Addr}{n:PySem.Str}{v:Value}{q:PySem.Str}{fn cd:Addr}{bl:Addr}{Q:Env→Shared→Prop}(env:Addr→Env)
  (he:∀L,env L={scope:=sc,locals:=L,globals:=g,cells:=[],qual:=q,func:=some fn,code:=.ref cd,frame:=some L,builtins:=bl}) (hc:∀x∈sc.names,x.2≠.cell)
  (h1:wpAny M A (storeName (env h.objs.size) n v) (λ_ s=>Q (env h.objs.size) s) E ⟨h.push {cls:=.type "frame",data:=.dict #[]},gs,d,U,os⟩):
  wpAny M A (newFunctionEnv sc g [] [(n,v)] q (some fn) (.ref cd) none bl) Q E ⟨h,gs,d,U,os⟩:=by
 simp only[newFunctionEnv,Option.isSome_none,Bool.false_eq_true,if_false]
 refine wpAny_bind (wpAny_alloc ?_)
 rw[he]at h1
 rw[forIn_yield_id [] (λx hx c=>by
   obtain⟨name,kind⟩:=x
   have:(kind==NameKind.cell)=false:=by simpa using hc _ hx
   simp only[this,Bool.false_eq_true,if_false])]
 refine wpAny_bind (wpAny_pure (wpAny_bind ?_))
 rw[List.forIn_cons]
 refine wpAny_bind (wpAny_bind (wpAny_mono h1 (λ_ s h=>wpAny_pure ?_) λ_ _ h=>h))
 exact wpAny_pure (wpAny_pure h)
theorem iv{α:Type}{t:Sem α}{Q:α→Shared→Prop}{s:Shared}(h:∀c,wpOwn M ⟨A.handled,A.depth,none,none,A.units⟩ c t Q E s):wpAny M A t Q E s:=
 λΓ p hΓ=>h Γ.code Γ p rfl ⟨hΓ.1,Nat.le_trans (Nat.le_add_right _ _) hΓ.2.1,λ_ h=>(nomatch h),λ_ h=>(nomatch h),Nat.le_trans (Nat.le_add_left _ _) hΓ.2.2.2.2⟩
noncomputable def fdG:FuncData:=fdS (stA 2) (mS iO) 3 (.str (mS [99,112,121,51,49,51,46,108,111,99,97,108,101]) 187) (.ref 20) 0
theorem ud(v:Value):bindArgs fdG ⟨[v],[]⟩=pure [(mS cF,v)]:=by
 rw[kr]
 kernel_rfl
theorem yb:fdG.scope.isGenerator=true:=by kernel_rfl
theorem B2:fdG.scope.isCoroutine=false:=by kernel_rfl
theorem uc:fdG.body=.stmts (bdS (stA 2)):=by kernel_rfl
theorem qa:∀x∈fdG.scope.names,x.2≠.cell:=by
 have h:fdG.scope.names.all (λx=>match x.2 with | .cell=>false | _=>true)=true:=by kernel_rfl
 intro x hx e
 have:=List.all_eq_true.mp h x hx
 rw[e]at this;cases this
noncomputable def gS(L:Addr):Env:=kX (stA 2) 21 20 L
theorem yc(L:Addr):gS L={scope:=fdG.scope,locals:=L,globals:=fdG.globals,cells:=[],qual:=fdG.qualname++(Str.ofString ".<locals>."),func:=some 21,code:=.ref 20,frame:=some L,builtins:=fdG.builtins}:=by
 rw[gL]
 kernel_rfl
noncomputable abbrev vz:=@PySem.W.Fast.tw7998390705656384164
noncomputable def rH(row:Addr)(L:Addr):Sem PySem.Fin:=bdT (vz (gS L) (mS cF) (.ref row)) λ_=>.pure (.done .next)
noncomputable def gfO(P:Params)(row:Addr)(t:Tok):Obj:=frO [en P cF t (.ref row)] 1
theorem pg{c:Code}:∀(ρ:Nat→Addr) (τ:Nat→Tok) (ζ:Nat→Value) (G:GP),run (Tb w.params) ⟨pw,w.params⟩ ρ τ ζ 60 c .base (rH row (ρ 0)) (TT.nil.put 24 0 (some (frO [] 0))) 1 0 0 [.id 164,.id 164] G=
  some ⟨.ret (.ok .next),TT.nil.put 24 0 (some (gfO w.params row (τ 0))),1,1,0,G,cZ ρ [.id 164,.id 164],[]⟩:=λρ τ ζ G=>by kernel_rfl
theorem rB:@PySem.storeName=@vz:=PySem.W.Fast.te7998390705656384164
noncomputable def gnS(P:Params)(n:Nat)(row:Addr):ac:=
 sdq (.call (.ref 21) ⟨[.ref row],[]⟩) (aa []) [] (GN n) (λC=>GS n (rI (.func (bdS (stA 2)) (gS (C 1))))) 2 3 0 λC U _=>⟨.ok (.ret (.ref (C 0))),[],[some (gnO n (U 0) (U 1)),some (gfO P row (U 2))]⟩
theorem t9(w:World):∃oc vs tq,(Tb w.params).get 20=some oc∧oc.data=.fields vs∧vs[1]? =some (.str fdG.qualname tq):=⟨_,_,192,rfl,rfl,by kernel_rfl⟩
theorem B1(w:World):∃o,(Tb w.params).get 21=some o∧o.data=.func fdG:=⟨_,rfl,by kernel_rfl⟩
theorem pV:Ok w 2 (gnS w.params n row):=by
 intro A R h gs d U os hA hG hB hP K
 obtain⟨hsz,hlc⟩:=hG
 obtain⟨o,ho,hod⟩:=B1 w
 obtain⟨oc,vs,tq,hoc,hvs,hv1⟩:=t9 w
 have hroom:A.depth<recursionLimit:=by have:=hA.dp;show A.depth<1000;lia
 refine codeAny_call_generator (body:=bdS (stA 2)) hroom (hB _ _ ho) hod B2 yb uc ⟨20,oc,vs,tq,by kernel_rfl,hB _ _ hoc,hvs,hv1⟩ ?_
 rw[ud]
 refine wpAny_pure ?_
 refine um gS yc qa ?_
 refine iv λc=>?_
 have hA2:Lv ⟨A.in1.handled,A.in1.depth,none,none,A.in1.units⟩ (0+1):=⟨hA.hd,by have:=hA.dp;show A.depth+60*1≤999;lia,by have:=hA.un;show A.units+1+600*1≤9899;lia⟩
 have D₀:=br (T:=Tb w.params) (α:=λ_=>h.objs.size) (objs:=[]) (by decide) hB (by exact hP)
 have D₁:Rp (Tb w.params) 0 (λ_=>h.objs.size) h (h.push (frO [] 0)) (TT.nil.put 24 0 (some (frO [] 0))) 1:=D₀.push (by decide) rfl rfl
 have run:=dF (Tb:=Tb w.params) (m₀:=0) (h₀:=h) (d:=d) (os:=os) (R:=λr s=>match r with
   | .ok f=>s.heap.NoLimit∧R (.ok (.ret (.ref s.heap.objs.size))) {s with gens:=s.gens.push (.fresh (.func (bdS (stA 2)) (gS h.objs.size))),toks:=s.toks+1+1,heap:=s.heap.push (gnO s.gens.size s.toks (s.toks+1))}
   | .error e=>R (.error e) s) (prog:=pw) (w:=w) hA2 60 c .base (rH row h.objs.size) _ 1 0 0 [.id 164,.id 164] (· =gs) (λ_=>h.objs.size) (λ_=>0) (λ_=>.none) (h.push (frO [] 0)) gs U (by decide) trivial D₁ rfl (λρ τ ζ a _ _=>by
  have sg:=pg (w:=w) (c:=c) (row:=row) ρ τ ζ (· =gs)
  have e0:ρ 0=h.objs.size:=a 0 (by decide)
  rw[e0]at sg
  refine⟨_,sg,bq _ _,λ_ h=>(nomatch h),λh' Zt ZM DD Zq=>?_⟩
  dsimp only at DD Zq
  subst Zq
  obtain⟨ol,hol,hln⟩:=gH w
  refine⟨gG (DD.base _ _ hol) hln,?_⟩
  have D2:Rp (Tb w.params) 0 (ext ρ (λ_=>h'.objs.size) 1) h (h'.push (gnO Zt.size ZM (ZM+1))) ((TT.nil.put 24 0 (some (gfO w.params row (τ 0)))).put 24 1 (some (gnO Zt.size ZM (ZM+1)))) 2:=
   (DD.ag (Ag.ext ρ (λ_=>h'.objs.size) 1)).push (by decide) rfl (by have:=bn (ρ₀:=ρ) (C:=λ_=>h'.objs.size) (m:=1) (q:=0);simpa using this)
  have k:=K (h'.push (gnO Zt.size ZM (ZM+1))) (Zt.push (.fresh (.func (bdS (stA 2)) (gS h.objs.size)))) (ZM+1+1) (aa ([1,0].map (ext ρ (λ_=>h'.objs.size) 1))) (aa [ZM,ZM+1,τ 0]) (λ_=>.none) ?_ ?_
  ·exact k
  ·refine⟨by rw[Array.size_push,hsz],nN hlc rfl,.fresh (.func (bdS (stA 2)) (gS h.objs.size)),?_,?_⟩
   ·rw[←hsz,Array.getElem?_push_size]
   ·show GenState.fresh _=.fresh _
    have:cut (gnS w.params n row).nn (aa ([1,0].map (ext ρ (λ_=>h'.objs.size) 1))) 1=h.objs.size:=e0
    rw[this]
  ·rw[hsz]at D2 ⊢
   exact eE (α:=λ_=>h.objs.size) (objs:=[]) (es:=[1,0]) (out:=⟨.ret (.ok .next),_,2,0,0,GN 0,[],[]⟩) (by decide) (λ_ h=>absurd h (Nat.not_lt_zero _)) hP D2 rfl (λq o hq=>by
    rcases q with _ | _ | q
    ·exact⟨by show 0<2;decide,hq⟩
    ·exact⟨by show 1<2;decide,hq⟩
    ·cases hq) rfl rfl rfl rfl (λj hj=>by
    rcases hj with _ | ⟨_,_ | ⟨_,h⟩⟩
    ·exact⟨_,rfl⟩
    ·exact⟨_,rfl⟩
    ·cases h))
 intro Γ p hc hΓ
 have y:=run Γ p hc hΓ
 unfold rH at y
 rw[bD,Sem.wp_bind',←rB]at y
 exact Sem.wp_mono _ _ _ (λ_ _ s h=>h) (λ_ _ _ h=>h) _ _ y
end
section
open PySem PySem.W PySem.W.X PySem.Builtin
noncomputable def mkS(k:Nat)(row:Addr)(r s pN:Nat)(t1 t2 t3 t4:Tok)(e:Nat)(ms:List Nat):ac:=
 sd (.call (.ref 158) ⟨[.ref row,.int (.ofNat pN) t4],[]⟩) (aa [row]) [some (lO [.int (.ofNat r) t1,.int (.ofNat s) t2,.int (.ofNat 0) t3] e)] (GN k) (GN (k+1)) 1 1 1 λC U O=>⟨.ok (.ret (.ref (C 0))),[],[some (lO (qIL ms (O 0)) (U 0))]⟩
noncomputable def cz(w:World)(Z V:Bool)(r s pN:Nat)(ms:List Nat):Prop:=∀(k:Nat) (row:Addr) (t1 t2 t3 t4:Tok) (e:Nat),Ok (W2 w Z V) 6 (mkS k row r s pN t1 t2 t3 t4 e ms)
variable{w:World}{Z V:Bool}{ms l l1:List Nat}{G:GP}{fr Z7 Z6 Z8 it L DL M S PB:Addr}{ln el ef em ep n n1:Nat}{y1 y2 y3 y4 y5 y6 z1 z2 z3 z4 z5 z6 z7 z8 z9 Z2 q1 us:Tok}{w1 w2 w3 w4 w5 w6 w7 w8 w9 Z1 u1 u2 vm v:Value}
theorem kMk{k:Nat}{row:Addr}{r s pN:Nat}{t1 t2 t3 t4:Tok}{e:Nat}(h:cz w Z V r s pN ms):Ok (W2 w Z V) 6 (mkS k row r s pN t1 t2 t3 t4 e ms):=by apply h
theorem mw{q2 q3 q4:Tok}{zk:Tok}{vk:Value}(hk:ae ms l=l1)(hn:l.length=n)(hn1:l1.length=n1)(hb:l.length<2^9)(hc:∀c∈l,c<2^9):Ok (W2 w Z V) 4 (qlS (Pw w Z V) G fr Z7 Z6 Z8 it L DL M S PB ln y1 y2 y3 y4 y5 y6 el z1 z2 z3 z4 z5 z6 z7 z8 z9 Z2 w1 w2 w3 w4 w5 w6 w7 w8 w9 Z1 q1 q2 q3 q4 u1 u2 0 us [en (Pw w Z V) s_k zk vk] ef 0 n ms vm em (qSL (l.map fS) v) ep n n1 (l1.map fS)):=by
 subst hn hn1 hk
 have:=gj (w:=w) (Z:=Z) (V:=V) (G:=G) (fr:=fr) (Z7:=Z7) (Z6:=Z6) (Z8:=Z8) (it:=it) (L:=L) (DL:=DL) (M:=M) (S:=S) (PB:=PB) (ln:=ln) (y1:=y1) (y2:=y2) (y3:=y3) (y4:=y4) (y5:=y5) (y6:=y6) (el:=el) (q1:=q1) (q2:=q2) (q3:=q3) (q4:=q4) (u1:=u1) (u2:=u2) (ms:=ms) (vm:=vm) (em:=em) l [] 0 0 z1 z2 z3 z4 z5 z6 z7 z8 z9 Z2 w1 w2 w3 w4 w5 w6 w7 w8 w9 Z1 us ef zk vk v ep (by simpa using hb) hc
 rw[List.append_nil,List.nil_append,Nat.zero_add,Nat.zero_add]at this
 exact this
theorem tC{q2 q3 q4:Tok}(hk:ae ms l=l1)(hn:l.length=n)(hn1:l1.length=n1)(hb:l.length<2^9)(hc:∀c∈l,c<2^9)(h0:0<l.length):Ok (W2 w Z V) 4 (qlS (Pw w Z V) G fr Z7 Z6 Z8 it L DL M S PB ln y1 y2 y3 y4 y5 y6 el z1 z2 z3 z4 z5 z6 z7 z8 z9 Z2 w1 w2 w3 w4 w5 w6 w7 w8 w9 Z1 q1 q2 q3 q4 u1 u2 0 us [] ef 0 n ms vm em (qSL (l.map fS) v) ep n n1 (l1.map fS)):=by
 subst hn hn1 hk
 cases l with
 | nil=>exact absurd h0 (Nat.lt_irrefl _)
 | cons c l=>
  rw[List.length_cons]at hb
  have e1:qSL ((c::l).map fS) v=.str (mS (fS c)) ((au v).headD 0)::qSL (l.map fS) (a9 v):=rfl
  have hl:(qSL (l.map fS) (a9 v)).length<2^10:=by rw[bG,List.length_map];lia
  have hcl:(fS c).length=c:=by simp[fS]
  have hc2:=hc c (.head _)
  have hc':∀c∈l,c<2^9:=λx hx=>hc x (.tail _ hx)
  rw[e1]
  cases hbm:ms.contains c with
  | true=>
   have ek:ae ms (c::l)=ae ms l:=by unfold ae;rw[List.filter_cons,hbm];rfl
   rw[ek]
   refine zI hl hcl (by lia) hbm λC U O=>?_
   have:=gj (w:=w) (Z:=Z) (V:=V) (G:=G) (fr:=fr) (Z7:=Z7) (Z6:=Z6) (Z8:=Z8) (it:=it) (L:=L) (DL:=DL) (M:=M) (S:=S) (PB:=PB) (ln:=ln) (y1:=y1) (y2:=y2) (y3:=y3) (y4:=y4) (y5:=y5) (y6:=y6) (el:=el) (q1:=q1) (q2:=q2) (q3:=q3) (q4:=q4) (u1:=u1) (u2:=u2) (ms:=ms) (vm:=vm) (em:=em) l [] 1 0 z1 z2 z3 z4 z5 z6 z7 z8 z9 Z2 w1 w2 w3 w4 w5 w6 w7 w8 (O 1) Z1 us (U 1) (U 0) (O 0) (a9 v) (U 3) (by simp only[List.length_nil];lia) hc'
   rw[List.append_nil,List.nil_append,Nat.zero_add,Nat.add_comm 1]at this
   exact this
  | false=>
   have ek:ae ms (c::l)=c::ae ms l:=by unfold ae;rw[List.filter_cons,hbm];rfl
   rw[ek]
   refine zK hl hcl (by lia) hbm λC U O=>?_
   obtain⟨v',hv⟩:=aR (l.map fS) (a9 v) (fS c) ((au v).headD 0)
   have:=gj (w:=w) (Z:=Z) (V:=V) (G:=G) (fr:=fr) (Z7:=Z7) (Z6:=Z6) (Z8:=Z8) (it:=it) (L:=L) (DL:=DL) (M:=M) (S:=S) (PB:=PB) (ln:=ln) (y1:=y1) (y2:=y2) (y3:=y3) (y4:=y4) (y5:=y5) (y6:=y6) (el:=el) (q1:=q1) (q2:=q2) (q3:=q3) (q4:=q4) (u1:=u1) (u2:=u2) (ms:=ms) (vm:=vm) (em:=em) l [c] 1 1 z1 z2 z3 z4 z5 z6 z7 z8 z9 Z2 w1 w2 w3 w4 w5 w6 w7 w8 (O 1) Z1 (U 4) (U 1) (U 0) (O 0) v' (U 3) (by simp only[List.length_cons,List.length_nil];lia) hc'
   rw[show(l++[c]).map fS=l.map fS++[fS c]by simp,hv,Nat.add_comm 1 l.length,Nat.add_comm 1 (ae ms l).length]at this
   exact this
noncomputable def vf(P:Params)(TO L DL:Addr)(S PB:Addr)(ln:Nat)(y1 y2 y3 y4 y5 y6:Tok)(el:Nat)(z1 z2 z3 z4 z5 z6 z7 z8 z9 Z2:Tok)(w1 w2 w3 w4 w5 w6 w7 w9 Z1:Value)(d0 d1:Addr)(r0 s0 r1 s1:Nat)(k0 ZG k1 ZF:Tok)(q1 q2:Tok)(u1:Value)(pN:Nat)(tn up:Tok)(ef eo:Nat)(qs:List Value)(ep:Nat):List (Option Obj):=
 [some (eG P z1 z2 z3 z4 z5 z6 z7 z8 z9 Z2 w1 w2 w3 w4 w5 w6 w7 (.ref TO) w9 Z1 [en P aM q1 u1,en P bc q2 (.int (.ofNat pN) tn)] ef),some (liO TO 0),some (lO [.ref d0,.ref d1] eo),some (tuO [.int (.ofNat r0) k0,.int (.ofNat s0) ZG]),some (tuO [.int (.ofNat r1) k1,.int (.ofNat s1) ZF]),some (ceO (some (.int (.ofNat pN) up))),some (ceO (some (.ref L)))]++qtO P DL S PB ln y1 y2 y3 y4 y5 y6 el qs ep
noncomputable def ru(P:Params)(g:Nat)(fr Z7 Z6 Z8 it TO L DL:Addr)(S PB:Addr)(ln:Nat)(y1 y2 y3 y4 y5 y6:Tok)(el:Nat)(z1 z2 z3 z4 z5 z6 z7 z8 z9 Z2:Tok)(w1 w2 w3 w4 w5 w6 w7 w9 Z1:Value)(d0 d1:Addr)(r0 s0 r1 s1:Nat)(k0 ZG k1 ZF:Tok)(q1 q2:Tok)(u1:Value)(pN:Nat)(tn up:Tok)(ef eo:Nat)(l0:List Nat)(v:Value)(ep:Nat)(nz:Nat)(lz:List Nat):ac:=
 sd (cM (aE 13) (.ref it) (an fr Z7 Z6 Z8)) (aa [fr,it,TO,d0,d1,Z7,Z6,L,DL,PB]) (vf P TO L DL S PB ln y1 y2 y3 y4 y5 y6 el z1 z2 z3 z4 z5 z6 z7 z8 z9 Z2 w1 w2 w3 w4 w5 w6 w7 w9 Z1 d0 d1 r0 s0 r1 s1 k0 ZG k1 ZF q1 q2 u1 pN tn up ef eo (qSL (l0.map fS) v) ep) (GN g) (GN (g+2)) 0 6 9 λ_ U O=>
  ⟨.ok .next,[(0,eG P z1 z2 z3 z4 z5 z6 z7 z8 z9 Z2 w1 w2 w3 w4 (O 0) (O 1) w7 (.ref TO) (O 2) Z1 ([en P aM q1 u1,en P bc q2 (.int (.ofNat nz) (U 0)),en P bR (U 1) (O 3),en P dg (U 2) (O 4),en P s_k (U 3) (O 5)]) (U 4)),(1,⟨.type "list_iterator",none,.fields ⟨[O 6,O 7]⟩,⟨[]⟩⟩),(9,lO (qSL (lz.map fS) (O 8)) (U 5))],[]⟩
noncomputable def ve(P:Params)(TO L DL:Addr)(S PB:Addr)(ln:Nat)(y1 y2 y3 y4 y5 y6:Tok)(el:Nat)(z1 z2 z3 z4 z5 z6 z7 z8 z9 Z2:Tok)(w1 w2 w3 w4 w5 w6 w7 w9 Z1:Value)(d0 d1 d2:Addr)(r0 s0 r1 s1 r2 s2:Nat)(k0 ZG k1 ZF k2 ZE:Tok)(q1 q2:Tok)(u1:Value)(pN:Nat)(tn up:Tok)(ef eo:Nat)(qs:List Value)(ep:Nat):List (Option Obj):=
 [some (eG P z1 z2 z3 z4 z5 z6 z7 z8 z9 Z2 w1 w2 w3 w4 w5 w6 w7 (.ref TO) w9 Z1 [en P aM q1 u1,en P bc q2 (.int (.ofNat pN) tn)] ef),some (liO TO 0),some (lO [.ref d0,.ref d1,.ref d2] eo),some (tuO [.int (.ofNat r0) k0,.int (.ofNat s0) ZG]),some (tuO [.int (.ofNat r1) k1,.int (.ofNat s1) ZF]),some (tuO [.int (.ofNat r2) k2,.int (.ofNat s2) ZE]),some (ceO (some (.int (.ofNat pN) up))),some (ceO (some (.ref L)))]++qtO P DL S PB ln y1 y2 y3 y4 y5 y6 el qs ep
noncomputable def rt(P:Params)(g:Nat)(fr Z7 Z6 Z8 it TO L DL:Addr)(S PB:Addr)(ln:Nat)(y1 y2 y3 y4 y5 y6:Tok)(el:Nat)(z1 z2 z3 z4 z5 z6 z7 z8 z9 Z2:Tok)(w1 w2 w3 w4 w5 w6 w7 w9 Z1:Value)(d0 d1 d2:Addr)(r0 s0 r1 s1 r2 s2:Nat)(k0 ZG k1 ZF k2 ZE:Tok)(q1 q2:Tok)(u1:Value)(pN:Nat)(tn up:Tok)(ef eo:Nat)(l0:List Nat)(v:Value)(ep:Nat)(nz:Nat)(lz:List Nat):ac:=
 sd (cM (aE 13) (.ref it) (an fr Z7 Z6 Z8)) (aa [fr,it,TO,d0,d1,d2,Z7,Z6,L,DL,PB]) (ve P TO L DL S PB ln y1 y2 y3 y4 y5 y6 el z1 z2 z3 z4 z5 z6 z7 z8 z9 Z2 w1 w2 w3 w4 w5 w6 w7 w9 Z1 d0 d1 d2 r0 s0 r1 s1 r2 s2 k0 ZG k1 ZF k2 ZE q1 q2 u1 pN tn up ef eo (qSL (l0.map fS) v) ep) (GN g) (GN (g+3)) 0 6 9 λ_ U O=>
  ⟨.ok .next,[(0,eG P z1 z2 z3 z4 z5 z6 z7 z8 z9 Z2 w1 w2 w3 w4 (O 0) (O 1) w7 (.ref TO) (O 2) Z1 ([en P aM q1 u1,en P bc q2 (.int (.ofNat nz) (U 0)),en P bR (U 1) (O 3),en P dg (U 2) (O 4),en P s_k (U 3) (O 5)]) (U 4)),(1,⟨.type "list_iterator",none,.fields ⟨[O 6,O 7]⟩,⟨[]⟩⟩),(10,lO (qSL (lz.map fS) (O 8)) (U 5))],[]⟩
noncomputable def vd(P:Params)(TO L DL:Addr)(S PB:Addr)(ln:Nat)(y1 y2 y3 y4 y5 y6:Tok)(el:Nat)(z1 z2 z3 z4 z5 z6 z7 z8 z9 Z2:Tok)(w1 w2 w3 w4 w5 w6 w7 w9 Z1:Value)(d0 d1 d2 d3:Addr)(r0 s0 r1 s1 r2 s2 r3 s3:Nat)(k0 ZG k1 ZF k2 ZE k3 ZD:Tok)(q1 q2:Tok)(u1:Value)(pN:Nat)(tn up:Tok)(ef eo:Nat)(qs:List Value)(ep:Nat):List (Option Obj):=
 [some (eG P z1 z2 z3 z4 z5 z6 z7 z8 z9 Z2 w1 w2 w3 w4 w5 w6 w7 (.ref TO) w9 Z1 [en P aM q1 u1,en P bc q2 (.int (.ofNat pN) tn)] ef),some (liO TO 0),some (lO [.ref d0,.ref d1,.ref d2,.ref d3] eo),some (tuO [.int (.ofNat r0) k0,.int (.ofNat s0) ZG]),some (tuO [.int (.ofNat r1) k1,.int (.ofNat s1) ZF]),some (tuO [.int (.ofNat r2) k2,.int (.ofNat s2) ZE]),some (tuO [.int (.ofNat r3) k3,.int (.ofNat s3) ZD]),some (ceO (some (.int (.ofNat pN) up))),some (ceO (some (.ref L)))]++qtO P DL S PB ln y1 y2 y3 y4 y5 y6 el qs ep
noncomputable def rs(P:Params)(g:Nat)(fr Z7 Z6 Z8 it TO L DL:Addr)(S PB:Addr)(ln:Nat)(y1 y2 y3 y4 y5 y6:Tok)(el:Nat)(z1 z2 z3 z4 z5 z6 z7 z8 z9 Z2:Tok)(w1 w2 w3 w4 w5 w6 w7 w9 Z1:Value)(d0 d1 d2 d3:Addr)(r0 s0 r1 s1 r2 s2 r3 s3:Nat)(k0 ZG k1 ZF k2 ZE k3 ZD:Tok)(q1 q2:Tok)(u1:Value)(pN:Nat)(tn up:Tok)(ef eo:Nat)(l0:List Nat)(v:Value)(ep:Nat)(nz:Nat)(lz:List Nat):ac:=
 sd (cM (aE 13) (.ref it) (an fr Z7 Z6 Z8)) (aa [fr,it,TO,d0,d1,d2,d3,Z7,Z6,L,DL,PB]) (vd P TO L DL S PB ln y1 y2 y3 y4 y5 y6 el z1 z2 z3 z4 z5 z6 z7 z8 z9 Z2 w1 w2 w3 w4 w5 w6 w7 w9 Z1 d0 d1 d2 d3 r0 s0 r1 s1 r2 s2 r3 s3 k0 ZG k1 ZF k2 ZE k3 ZD q1 q2 u1 pN tn up ef eo (qSL (l0.map fS) v) ep) (GN g) (GN (g+4)) 0 6 9 λ_ U O=>
  ⟨.ok .next,[(0,eG P z1 z2 z3 z4 z5 z6 z7 z8 z9 Z2 w1 w2 w3 w4 (O 0) (O 1) w7 (.ref TO) (O 2) Z1 ([en P aM q1 u1,en P bc q2 (.int (.ofNat nz) (U 0)),en P bR (U 1) (O 3),en P dg (U 2) (O 4),en P s_k (U 3) (O 5)]) (U 4)),(1,⟨.type "list_iterator",none,.fields ⟨[O 6,O 7]⟩,⟨[]⟩⟩),(11,lO (qSL (lz.map fS) (O 8)) (U 5))],[]⟩
end
section
open PySem PySem.W PySem.W.X PySem.Builtin
section
variable{w:World}{Z V:Bool}{g:Nat}{fr Z7 Z6 Z8 it TO L DL S PB:Addr}{ln:Nat}{y1 y2 y3 y4 y5 y6:Tok}{el:Nat}{z1 z2 z3 z4 z5 z6 z7 z8 z9 Z2:Tok}{w1 w2 w3 w4 w5 w6 w7 w9 Z1:Value}{d0 d1:Addr}{r0 s0 r1 s1:Nat}{k0 ZG k1 ZF q1 q2:Tok}{u1:Value}{pN:Nat}{tn up:Tok}{ef eo:Nat}{l0:List Nat}{v:Value}{ep:Nat}{ms0 l1:List Nat}{n1:Nat}{ms1 l2:List Nat}{n2:Nat}{d2:Addr}{r2 s2:Nat}{k2 ZE:Tok}{ms2 l3:List Nat}{n3:Nat}{d3:Addr}{r3 s3:Nat}{k3 ZD:Tok}{ms3 l4:List Nat}{n4:Nat}
theorem tm2(hN:pN<2^20)(hM0:cz w Z V r0 s0 pN ms0)(hk0:ae ms0 l0=l1)(hn0:l0.length=pN)(Zn:l1.length=n1)(hb0:l0.length<2^9)(hc0:∀c∈l0,c<2^9)(h0:0<l0.length)(hq0:n1<2^20)(hM1:cz w Z V r1 s1 pN ms1)(hk1:ae ms1 l1=l2)(hn1:l1.length=n1)(Zm:l2.length=n2)(hb1:l1.length<2^9)(hc1:∀c∈l1,c<2^9)(hq1:n2<2^20):Ok (W2 w Z V) 7 (ru (Pw w Z V) g fr Z7 Z6 Z8 it TO L DL S PB ln y1 y2 y3 y4 y5 y6 el z1 z2 z3 z4 z5 z6 z7 z8 z9 Z2 w1 w2 w3 w4 w5 w6 w7 w9 Z1 d0 d1 r0 s0 r1 s1 k0 ZG k1 ZF q1 q2 u1 pN tn up ef eo l0 v ep n2 l2):=
 okC [] 315 (λN=>[(N.t 26),(N.t 4),(N.t 6),(N.t 23),(N.t 24),(N.t 25)]) (λN=>[(.int (.ofNat r1) k1),(.int (.ofNat s1) ZF),(N.z 7),(.ref (N.r 21)),(.int (.ofNat n2) (N.t 26)),(N.z 5),.none,(.int 2 0),(N.z 6)])
 (.i (ub 44 0x9ea9a4a403a4a4a4a4b0aeaea7aeaeaeaeaeaea7aeaeaeaeaeaea7aeaeaeaeaea7a7a7a7a5a5a5a6a5a5a5a5)::.f [13] (λN=>mkS g (N.r 13) r0 s0 pN k0 ZG (N.t 2) up 0 ms0)::.i (ub 13 0xb3b3b3b3b3b3a40003a4a4a4a4)::.f [15] (λN=>ak (GN (g+1)) (N.r 15) pN (N.t 7) tn (N.t 8))::.i [180]::.f [0,16,6,14,7,8,9] (λN=>qlS (Pw w Z V) (GN (g+1)) fr Z7 Z6 Z8 (N.r 16) L DL (N.r 14) S PB ln y1 y2 y3 y4 y5 y6 el z1 z2 z3 z4 z5 z6 z7 z8 z9 Z2 w1 w2 w3 w4 (.int (.ofNat r0) k0) (.int (.ofNat s0) ZG) w7 (.ref TO) w9 Z1 q1 q2 (N.t 4) (N.t 6) u1 (.int (.ofNat pN) tn) 0 (N.t 5) [] ((ef+1)+1) 0 pN ms0 (N.z 0) (N.t 3) (qSL (l0.map fS) v) ep pN n1 (l1.map fS))::.i (ub 47 0x9ea9a4a403a4a4a4a4b7b5b5a8b5b5b5b5b5b5a8b5b5b5b5b5b5a8b5b5b5b5b5a8a8a8a8a5a5a5a6a5a5a5a5a4a4a4)::.f [20] (λN=>mkS (g+1) (N.r 20) r1 s1 pN k1 ZF (N.t 16) up 0 ms1)::.i (ub 13 0xbabababababaa40003a4a4a4a4)::.f [22] (λN=>ak (GN ((g+1)+1)) (N.r 22) n1 (N.t 21) (N.t 12) (N.t 22))::.i [187]::.f [0,23,6,21,7,8,9] (λN=>qlS (Pw w Z V) (GN ((g+1)+1)) fr Z7 Z6 Z8 (N.r 23) L DL (N.r 21) S PB ln y1 y2 y3 y4 y5 y6 el z1 z2 z3 z4 z5 z6 z7 z8 z9 Z2 w1 w2 w3 w4 (.int (.ofNat r1) k1) (.int (.ofNat s1) ZF) w7 (.ref TO) (N.z 3) Z1 q1 q2 (N.t 4) (N.t 6) u1 (.int (.ofNat n1) (N.t 12)) 0 (N.t 19) [(en (Pw w Z V) s_k (N.t 9) (N.z 1))] (N.t 10) 0 n1 ms1 (N.z 4) (N.t 17) (qSL (l1.map fS) (N.z 2)) (N.t 11) n1 n2 (l2.map fS))::.i (ub 11 0xbda5a5a6a5a5a5a5a4a4a4)::[])
 (sE (sg1 (by kernel_rfl)) Z) (λN=>⟨okU (kMk hM0),okU (ap hN),okU (tC hk0 hn0 Zn hb0 hc0 h0),okU (kMk hM1),okU (ap hq0),okU (mw hk1 Zn Zm hb1 hc1),trivial⟩)
theorem tm3(hN:pN<2^20)(hM0:cz w Z V r0 s0 pN ms0)(hk0:ae ms0 l0=l1)(hn0:l0.length=pN)(Zn:l1.length=n1)(hb0:l0.length<2^9)(hc0:∀c∈l0,c<2^9)(h0:0<l0.length)(hq0:n1<2^20)(hM1:cz w Z V r1 s1 pN ms1)(hk1:ae ms1 l1=l2)(hn1:l1.length=n1)(Zm:l2.length=n2)(hb1:l1.length<2^9)(hc1:∀c∈l1,c<2^9)(hq1:n2<2^20)(hM2:cz w Z V r2 s2 pN ms2)(hk2:ae ms2 l2=l3)(hn2:l2.length=n2)(hm2:l3.length=n3)(hb2:l2.length<2^9)(hc2:∀c∈l2,c<2^9)(hq2:n3<2^20):Ok (W2 w Z V) 7 (rt (Pw w Z V) g fr Z7 Z6 Z8 it TO L DL S PB ln y1 y2 y3 y4 y5 y6 el z1 z2 z3 z4 z5 z6 z7 z8 z9 Z2 w1 w2 w3 w4 w5 w6 w7 w9 Z1 d0 d1 d2 r0 s0 r1 s1 r2 s2 k0 ZG k1 ZF k2 ZE q1 q2 u1 pN tn up ef eo l0 v ep n3 l3):=
 okC [] 462 (λN=>[(N.t 40),(N.t 4),(N.t 6),(N.t 37),(N.t 38),(N.t 39)]) (λN=>[(.int (.ofNat r2) k2),(.int (.ofNat s2) ZE),(N.z 11),(.ref (N.r 29)),(.int (.ofNat n3) (N.t 40)),(N.z 9),.none,(.int 3 0),(N.z 10)])
 (.i (ub 44 0x9eaaa4a403a4a4a4a4b1afafa7afafafafafafa7afafafafafafa7afafafafafa7a7a7a7a5a5a5a6a5a5a5a5)::.f [14] (λN=>mkS g (N.r 14) r0 s0 pN k0 ZG (N.t 2) up 0 ms0)::.i (ub 13 0xb4b4b4b4b4b4a40003a4a4a4a4)::.f [16] (λN=>ak (GN (g+1)) (N.r 16) pN (N.t 7) tn (N.t 8))::.i [181]::.f [0,17,7,15,8,9,10] (λN=>qlS (Pw w Z V) (GN (g+1)) fr Z7 Z6 Z8 (N.r 17) L DL (N.r 15) S PB ln y1 y2 y3 y4 y5 y6 el z1 z2 z3 z4 z5 z6 z7 z8 z9 Z2 w1 w2 w3 w4 (.int (.ofNat r0) k0) (.int (.ofNat s0) ZG) w7 (.ref TO) w9 Z1 q1 q2 (N.t 4) (N.t 6) u1 (.int (.ofNat pN) tn) 0 (N.t 5) [] ((ef+1)+1) 0 pN ms0 (N.z 0) (N.t 3) (qSL (l0.map fS) v) ep pN n1 (l1.map fS))::.i (ub 47 0x9eaaa4a403a4a4a4a4b8b6b6a8b6b6b6b6b6b6a8b6b6b6b6b6b6a8b6b6b6b6b6a8a8a8a8a5a5a5a6a5a5a5a5a4a4a4)::.f [21] (λN=>mkS (g+1) (N.r 21) r1 s1 pN k1 ZF (N.t 16) up 0 ms1)::.i (ub 13 0xbbbbbbbbbbbba40003a4a4a4a4)::.f [23] (λN=>ak (GN ((g+1)+1)) (N.r 23) n1 (N.t 21) (N.t 12) (N.t 22))::.i [188]::.f [0,24,7,22,8,9,10] (λN=>qlS (Pw w Z V) (GN ((g+1)+1)) fr Z7 Z6 Z8 (N.r 24) L DL (N.r 22) S PB ln y1 y2 y3 y4 y5 y6 el z1 z2 z3 z4 z5 z6 z7 z8 z9 Z2 w1 w2 w3 w4 (.int (.ofNat r1) k1) (.int (.ofNat s1) ZF) w7 (.ref TO) (N.z 3) Z1 q1 q2 (N.t 4) (N.t 6) u1 (.int (.ofNat n1) (N.t 12)) 0 (N.t 19) [(en (Pw w Z V) s_k (N.t 9) (N.z 1))] (N.t 10) 0 n1 ms1 (N.z 4) (N.t 17) (qSL (l1.map fS) (N.z 2)) (N.t 11) n1 n2 (l2.map fS))::.i (ub 47 0x9eaaa4a403a4a4a4a4bfbdbda9bdbdbdbdbdbda9bdbdbdbdbdbda9bdbdbdbdbda9a9a9a9a5a5a5a6a5a5a5a5a4a4a4)::.f [28] (λN=>mkS ((g+1)+1) (N.r 28) r2 s2 pN k2 ZE (N.t 30) up 0 ms2)::.i (ub 13 0xc2c2c2c2c2c2a40003a4a4a4a4)::.f [30] (λN=>ak (GN (((g+1)+1)+1)) (N.r 30) n2 (N.t 35) (N.t 26) (N.t 36))::.i [195]::.f [0,31,7,29,8,9,10] (λN=>qlS (Pw w Z V) (GN (((g+1)+1)+1)) fr Z7 Z6 Z8 (N.r 31) L DL (N.r 29) S PB ln y1 y2 y3 y4 y5 y6 el z1 z2 z3 z4 z5 z6 z7 z8 z9 Z2 w1 w2 w3 w4 (.int (.ofNat r2) k2) (.int (.ofNat s2) ZE) w7 (.ref TO) (N.z 7) Z1 q1 q2 (N.t 4) (N.t 6) u1 (.int (.ofNat n2) (N.t 26)) 0 (N.t 33) [(en (Pw w Z V) s_k (N.t 23) (N.z 5))] (N.t 24) 0 n2 ms2 (N.z 8) (N.t 31) (qSL (l2.map fS) (N.z 6)) (N.t 25) n2 n3 (l3.map fS))::.i (ub 11 0xc5a5a5a6a5a5a5a5a4a4a4)::[])
 (sE (sg1 (by kernel_rfl)) Z) (λN=>⟨okU (kMk hM0),okU (ap hN),okU (tC hk0 hn0 Zn hb0 hc0 h0),okU (kMk hM1),okU (ap hq0),okU (mw hk1 Zn Zm hb1 hc1),okU (kMk hM2),okU (ap hq1),okU (mw hk2 Zm hm2 hb2 hc2),trivial⟩)
theorem tm4(hN:pN<2^20)(hM0:cz w Z V r0 s0 pN ms0)(hk0:ae ms0 l0=l1)(hn0:l0.length=pN)(Zn:l1.length=n1)(hb0:l0.length<2^9)(hc0:∀c∈l0,c<2^9)(h0:0<l0.length)(hq0:n1<2^20)(hM1:cz w Z V r1 s1 pN ms1)(hk1:ae ms1 l1=l2)(hn1:l1.length=n1)(Zm:l2.length=n2)(hb1:l1.length<2^9)(hc1:∀c∈l1,c<2^9)(hq1:n2<2^20)(hM2:cz w Z V r2 s2 pN ms2)(hk2:ae ms2 l2=l3)(hn2:l2.length=n2)(hm2:l3.length=n3)(hb2:l2.length<2^9)(hc2:∀c∈l2,c<2^9)(hq2:n3<2^20)(hM3:cz w Z V r3 s3 pN ms3)(hk3:ae ms3 l3=l4)(hn3:l3.length=n3)(hm3:l4.length=n4)(hb3:l3.length<2^9)(hc3:∀c∈l3,c<2^9)(hq3:n4<2^20):Ok (W2 w Z V) 7 (rs (Pw w Z V) g fr Z7 Z6 Z8 it TO L DL S PB ln y1 y2 y3 y4 y5 y6 el z1 z2 z3 z4 z5 z6 z7 z8 z9 Z2 w1 w2 w3 w4 w5 w6 w7 w9 Z1 d0 d1 d2 d3 r0 s0 r1 s1 r2 s2 r3 s3 k0 ZG k1 ZF k2 ZE k3 ZD q1 q2 u1 pN tn up ef eo l0 v ep n4 l4):=
 okC [] 609 (λN=>[(N.t 54),(N.t 4),(N.t 6),(N.t 51),(N.t 52),(N.t 53)]) (λN=>[(.int (.ofNat r3) k3),(.int (.ofNat s3) ZD),(N.z 15),(.ref (N.r 37)),(.int (.ofNat n4) (N.t 54)),(N.z 13),.none,(.int 4 0),(N.z 14)])
 (.i (ub 44 0x9eaba4a403a4a4a4a4b2b0b0a7b0b0b0b0b0b0a7b0b0b0b0b0b0a7b0b0b0b0b0a7a7a7a7a5a5a5a6a5a5a5a5)::.f [15] (λN=>mkS g (N.r 15) r0 s0 pN k0 ZG (N.t 2) up 0 ms0)::.i (ub 13 0xb5b5b5b5b5b5a40003a4a4a4a4)::.f [17] (λN=>ak (GN (g+1)) (N.r 17) pN (N.t 7) tn (N.t 8))::.i [182]::.f [0,18,8,16,9,10,11] (λN=>qlS (Pw w Z V) (GN (g+1)) fr Z7 Z6 Z8 (N.r 18) L DL (N.r 16) S PB ln y1 y2 y3 y4 y5 y6 el z1 z2 z3 z4 z5 z6 z7 z8 z9 Z2 w1 w2 w3 w4 (.int (.ofNat r0) k0) (.int (.ofNat s0) ZG) w7 (.ref TO) w9 Z1 q1 q2 (N.t 4) (N.t 6) u1 (.int (.ofNat pN) tn) 0 (N.t 5) [] ((ef+1)+1) 0 pN ms0 (N.z 0) (N.t 3) (qSL (l0.map fS) v) ep pN n1 (l1.map fS))::.i (ub 47 0x9eaba4a403a4a4a4a4b9b7b7a8b7b7b7b7b7b7a8b7b7b7b7b7b7a8b7b7b7b7b7a8a8a8a8a5a5a5a6a5a5a5a5a4a4a4)::.f [22] (λN=>mkS (g+1) (N.r 22) r1 s1 pN k1 ZF (N.t 16) up 0 ms1)::.i (ub 13 0xbcbcbcbcbcbca40003a4a4a4a4)::.f [24] (λN=>ak (GN ((g+1)+1)) (N.r 24) n1 (N.t 21) (N.t 12) (N.t 22))::.i [189]::.f [0,25,8,23,9,10,11] (λN=>qlS (Pw w Z V) (GN ((g+1)+1)) fr Z7 Z6 Z8 (N.r 25) L DL (N.r 23) S PB ln y1 y2 y3 y4 y5 y6 el z1 z2 z3 z4 z5 z6 z7 z8 z9 Z2 w1 w2 w3 w4 (.int (.ofNat r1) k1) (.int (.ofNat s1) ZF) w7 (.ref TO) (N.z 3) Z1 q1 q2 (N.t 4) (N.t 6) u1 (.int (.ofNat n1) (N.t 12)) 0 (N.t 19) [(en (Pw w Z V) s_k (N.t 9) (N.z 1))] (N.t 10) 0 n1 ms1 (N.z 4) (N.t 17) (qSL (l1.map fS) (N.z 2)) (N.t 11) n1 n2 (l2.map fS))::.i (ub 47 0x9eaba4a403a4a4a4a4c0bebea9bebebebebebea9bebebebebebea9bebebebebea9a9a9a9a5a5a5a6a5a5a5a5a4a4a4)::.f [29] (λN=>mkS ((g+1)+1) (N.r 29) r2 s2 pN k2 ZE (N.t 30) up 0 ms2)::.i (ub 13 0xc3c3c3c3c3c3a40003a4a4a4a4)::.f [31] (λN=>ak (GN (((g+1)+1)+1)) (N.r 31) n2 (N.t 35) (N.t 26) (N.t 36))::.i [196]::.f [0,32,8,30,9,10,11] (λN=>qlS (Pw w Z V) (GN (((g+1)+1)+1)) fr Z7 Z6 Z8 (N.r 32) L DL (N.r 30) S PB ln y1 y2 y3 y4 y5 y6 el z1 z2 z3 z4 z5 z6 z7 z8 z9 Z2 w1 w2 w3 w4 (.int (.ofNat r2) k2) (.int (.ofNat s2) ZE) w7 (.ref TO) (N.z 7) Z1 q1 q2 (N.t 4) (N.t 6) u1 (.int (.ofNat n2) (N.t 26)) 0 (N.t 33) [(en (Pw w Z V) s_k (N.t 23) (N.z 5))] (N.t 24) 0 n2 ms2 (N.z 8) (N.t 31) (qSL (l2.map fS) (N.z 6)) (N.t 25) n2 n3 (l3.map fS))::.i (ub 47 0x9eaba4a403a4a4a4a4c7c5c5aac5c5c5c5c5c5aac5c5c5c5c5c5aac5c5c5c5c5aaaaaaaaa5a5a5a6a5a5a5a5a4a4a4)::.f [36] (λN=>mkS (((g+1)+1)+1) (N.r 36) r3 s3 pN k3 ZD (N.t 44) up 0 ms3)::.i (ub 13 0xcacacacacacaa40003a4a4a4a4)::.f [38] (λN=>ak (GN ((((g+1)+1)+1)+1)) (N.r 38) n3 (N.t 49) (N.t 40) (N.t 50))::.i [203]::.f [0,39,8,37,9,10,11] (λN=>qlS (Pw w Z V) (GN ((((g+1)+1)+1)+1)) fr Z7 Z6 Z8 (N.r 39) L DL (N.r 37) S PB ln y1 y2 y3 y4 y5 y6 el z1 z2 z3 z4 z5 z6 z7 z8 z9 Z2 w1 w2 w3 w4 (.int (.ofNat r3) k3) (.int (.ofNat s3) ZD) w7 (.ref TO) (N.z 11) Z1 q1 q2 (N.t 4) (N.t 6) u1 (.int (.ofNat n3) (N.t 40)) 0 (N.t 47) [(en (Pw w Z V) s_k (N.t 37) (N.z 9))] (N.t 38) 0 n3 ms3 (N.z 12) (N.t 45) (qSL (l3.map fS) (N.z 10)) (N.t 39) n3 n4 (l4.map fS))::.i (ub 11 0xcda5a5a6a5a5a5a5a4a4a4)::[])
 (sE (sg1 (by kernel_rfl)) Z) (λN=>⟨okU (kMk hM0),okU (ap hN),okU (tC hk0 hn0 Zn hb0 hc0 h0),okU (kMk hM1),okU (ap hq0),okU (mw hk1 Zn Zm hb1 hc1),okU (kMk hM2),okU (ap hq1),okU (mw hk2 Zm hm2 hb2 hc2),okU (kMk hM3),okU (ap hq2),okU (mw hk3 hm2 hm3 hb3 hc3),trivial⟩)
end
end
section
open PySem PySem.W PySem.W.X
noncomputable def g6(α:Nat→Addr)(m:Nat)(C:Nat→Addr)(q:Nat):Addr:=match Nat.blt q m with
 | true=>α q
 | false=>C (q-m)
theorem kl{l:List Nat}:aF l=true→∀(i j a:Nat),l[i]? =some a→l[j]? =some a→i=j:=by
 induction l with
 | nil=>intro _ i j a h;simp at h
 | cons x l ih=>
  intro h i j a hi hj
  unfold aF at h
  have hx:l.any (λb=>Nat.beq x b)=false:=by
   cases hz:l.any (λb=>Nat.beq x b)with
   | true=>rw[hz]at h;cases h
   | false=>rfl
  rw[hx]at h
  have hno:∀y∈l,y≠x:=λy hy e=>by
   have:=List.any_eq_false.mp hx y hy
   rw[e]at this
   exact this (Nat.beq_refl x)
  cases i with
  | zero=>cases j with
   | zero=>rfl
   | succ j=>
    have hi:x=a:=by simpa using hi
    have hj:l[j]? =some a:=by simpa using hj
    exact absurd hi.symm (hno a (List.mem_of_getElem? hj))
  | succ i=>cases j with
   | zero=>
    have hj:x=a:=by simpa using hj
    have hi:l[i]? =some a:=by simpa using hi
    exact absurd hj.symm (hno a (List.mem_of_getElem? hi))
   | succ j=>
    have:=ih h i j a (by simpa using hi) (by simpa using hj)
    lia
theorem dM{m:Nat}:∀{l:List Nat},bZ m l=true→∀a∈l,m≤a
 | x::l,h,a,ha=>by
  unfold bZ at h
  cases hb:Nat.ble m x with
  | false=>rw[hb]at h;cases h
  | true=>
   rw[hb]at h
   rcases List.mem_cons.mp ha with rfl | ha
   ·exact Nat.le_of_ble_eq_true hb
   ·exact dM h a ha
theorem iA{w:World}{lv:Nat}{s:ac}{α:Nat→Addr}{objs:List (Option Obj)}(es:List Nat)(s':Nm→ac)(old:Nm→List (Option Obj))(nw:Nm→List (Option Obj))(n:Nat)(ZC:List Orc)(sides:Nm→List ac)
  (hp:s.pre=av α objs 0) (hl:objs.length<1000000) (hes:aF es=true) (hge:bZ objs.length es=true)
  (Zo:∀N,(∀q,q<objs.length→N.r q=α q)→(s' N).pre=av (g6 α objs.length (aa (es.map N.r))) (old N++nw N) 0)
  (seg:∀ρ τ ζ,res objs.length es (iK (Tb w.params) ⟨pw,w.params⟩ (ay α ρ objs.length) τ ζ n s.c (aJ objs 0 .nil) objs.length 0 0 ZC s.G)=
   some ⟨.tail (s' ⟨ay α ρ objs.length,τ,ζ⟩).c,old ⟨ay α ρ objs.length,τ,ζ⟩,nw ⟨ay α ρ objs.length,τ,ζ⟩,(s' ⟨ay α ρ objs.length,τ,ζ⟩).G,cZ (ay α ρ objs.length) ZC,sides ⟨ay α ρ objs.length,τ,ζ⟩⟩)
  (ex:(Nat→Addr)→(Nat→Tok)→(Nat→Value)→List (Nat × Obj)) (hex:∀C U O,∀p∈ex C U O,objs.length≤p.1) (hsm:∀N,(nw N).all Option.isSome=true)
  (hF:∀N,(∀C U O,((s' N).F C U O)=⟨(s.F C U O).r,(s.F C U O).ups++ex C U O,(s.F C U O).news⟩)∧(s' N).G'=s.G'∧(s' N).nn=s.nn∧(s' N).nt=s.nt∧(s' N).nz=s.nz)
  (hu:∀C U O,∀p∈(s.F C U O).ups,p.1<objs.length)
  (hc:∀N C U O,bx (s.F C U O).ups 0 objs (old N))
  (hs:∀N,∀x∈sides N,Ok w lv x) (hk:∀N,Ok w (lv+1) (s' N)):Ok w (lv+1) s:=by
 intro A R h gs d U os hA hG0 hB hP K
 rw[hp]at hP
 have D₀:=br hl hB hP
 refine cR (m₀:=objs.length) (h₀:=h) (i:=0) (z:=0) (τ₀:=λ_=>0) (ζ₀:=λ_=>.none) (ZC:=ZC) hA n (Nat.le_of_lt hl) D₀ hG0 λρ τ ζ a _ _=>?_
 have sg:=seg ρ τ ζ
 rw[cO a]at sg
 obtain⟨out,e0,e1,e2,e3,e4,e5,e6⟩:=cm sg
 refine⟨out,e0,by rw[e5];exact bq _ _,by rw[e6];exact hs _,λh' Zt ZM D Zq=>?_⟩
 rw[e1]
 dsimp only at e2 e3 e4
 show codeAny _ A (s' ⟨ρ,τ,ζ⟩).c R _
 have hp2:=Zo ⟨ρ,τ,ζ⟩ (λq hq=>a q hq)
 obtain⟨f1,f2,f3,f4,f5⟩:=hF ⟨ρ,τ,ζ⟩
 generalize hN:(⟨ρ,τ,ζ⟩:Nm)=N at*
 have hρ:N.r=ρ:=by rw[←hN]
 rw[hρ]at hp2
 have ol:(old N).length=objs.length:=by
  have:=congrArg List.length e2
  rw[←this]
  have:∀(T:TT) (j n:Nat),(eA T j n).length=n:=by
   intro T j n
   induction n generalizing j with
   | zero=>rfl
   | succ n ih=>show(eA T (j+1) n).length+1=n+1;rw[ih]
  exact this _ _ _
 have nl:(nw N).length=es.length:=by
  have:=congrArg List.length e3
  rw[List.length_map]at this
  exact this.symm
 have gt:∀q,q<objs.length→(old N)[q]? =some (out.T.get q):=λq hq=>by
  have:=bI out.T objs.length 0 q
  rw[if_pos hq,e2,Nat.zero_add]at this
  exact this
 have gn:∀(q j:Nat),es[q]? =some j→(nw N)[q]? =some (out.T.get j):=λq j hq=>by
  rw[←e3,List.getElem?_map,hq];rfl
 have pk:∀(q j:Nat),es[q]? =some j→aa (es.map ρ) q=ρ j:=by
  have:∀(l:List Nat) (q j:Nat),l[q]? =some j→aa (l.map ρ) q=ρ j:=by
   intro l
   induction l with
   | nil=>intro q j h;simp at h
   | cons x l ih=>
    intro q j h
    cases q with
    | zero=>
     have:x=j:=by simpa using h
     subst this;rfl
    | succ q=>exact ih q j (by simpa using h)
  exact this es
 have gtA:∀(q:Nat) (p:Addr × Option Obj),(av (g6 α objs.length (aa (es.map ρ))) (old N++nw N) 0)[q]? =some p→
   ∃j,p=(ρ j,out.T.get j)∧((q<objs.length∧j=q)∨(objs.length≤q∧es[q-objs.length]? =some j)):=λq p hq=>by
  rw[aA]at hq
  split at hq
  ·rename_i o ho
   cases hq
   rw[Nat.zero_add]
   by_cases Zy:q<objs.length
   ·refine⟨q,?_,.inl ⟨Zy,rfl⟩⟩
    rw[List.getElem?_append_left (by rw[ol];exact Zy),gt q Zy]at ho
    cases ho
    have:g6 α objs.length (aa (es.map ρ)) q=ρ q:=by
     unfold g6
     rw[show Nat.blt q objs.length=true from Nat.ble_eq_true_of_le Zy]
     exact(a q Zy).symm
    rw[this]
   ·have hge':=Nat.not_lt.mp Zy
    rw[List.getElem?_append_right (by rw[ol];exact hge'),ol]at ho
    have hlen:=(List.getElem?_eq_some_iff.mp ho).1
    rw[nl]at hlen
    have hj:=List.getElem?_eq_getElem hlen
    refine⟨es[q-objs.length],?_,.inr ⟨hge',hj⟩⟩
    rw[gn _ _ hj]at ho
    cases ho
    have:g6 α objs.length (aa (es.map ρ)) q=ρ es[q-objs.length]:=by
     unfold g6
     cases hb:Nat.blt q objs.length with
     | true=>exact absurd (Nat.le_of_ble_eq_true hb) (by lia)
     | false=>exact pk _ _ hj
    rw[this]
  ·cases hq
 have preAt:∀q,q<objs.length→(av (g6 α objs.length (aa (es.map ρ))) (old N++nw N) 0)[q]? =some (ρ q,out.T.get q):=λq hq=>by
  have hx:∃p,(av (g6 α objs.length (aa (es.map ρ))) (old N++nw N) 0)[q]? =some p:=by
   rw[aA,List.getElem?_append_left (by rw[ol];exact hq),gt q hq]
   exact⟨_,rfl⟩
  obtain⟨p,hp⟩:=hx
  obtain⟨j,rfl,h1 | h1⟩:=gtA q p hp
  ·rw[h1.2]at hp;exact hp
  ·lia
 refine hk N A R h' Zt d ZM os hA (by rw[←e4];exact Zq) D.base ?_ ?_
 ·rw[hp2]
  refine⟨λp hp o ho=>?_,λq q' p p' o o' hq Zp ho ho' x=>?_⟩
  ·obtain⟨q,hq⟩:=List.getElem?_of_mem hp
   obtain⟨j,rfl,_⟩:=gtA q p hq
   exact⟨(D.own j o ho).2,D.nb j o ho⟩
  ·obtain⟨j,rfl,h3⟩:=gtA q p hq
   obtain⟨j',rfl,h3'⟩:=gtA q' p' Zp
   have hj:=D.inj j j' o o' ho ho' x
   subst hj
   rcases h3 with⟨h3,h4⟩ | ⟨h3,h4⟩<;>rcases h3' with⟨h3',h4'⟩ | ⟨h3',h4'⟩
   ·lia
   ·have:=dM hge j (List.mem_of_getElem? h4')
    lia
   ·have:=dM hge j (List.mem_of_getElem? h4)
    lia
   ·have:=kl hes _ _ _ h4 h4'
    lia
 ·intro h'' gs'' tk'' C ZB O hG'' P
  rw[f3,f4,f5,f1]at P ⊢
  refine K h'' gs'' tk'' C ZB O (by rw[←f2,←f3];exact hG'') ?_
  rw[hp]
  rw[hp2]at P
  have cv:=hc N (cut s.nn C) (cut s.nt ZB) (aq s.nz O)
  have hun:=hu (cut s.nn C) (cut s.nt ZB) (aq s.nz O)
  have hxx:=hex (cut s.nn C) (cut s.nt ZB) (aq s.nz O)
  generalize ex (cut s.nn C) (cut s.nt ZB) (aq s.nz O)=exs at P hxx ⊢
  generalize s.F (cut s.nn C) (cut s.nt ZB) (aq s.nz O)=out' at P cv hun ⊢
  have pa:∀(q:Nat) (o:Option Obj),objs[q]? =some o→(av α objs 0)[q]? =some (α q,o):=λq o e=>by
   rw[aA,e];simp
  have pa':∀(q:Nat) (x:Addr × Option Obj),(av α objs 0)[q]? =some x→x.1=α q∧q<objs.length:=λq x e=>by
   rw[aA]at e
   split at e
   ·rename_i o ho
    cases e
    exact⟨by simp,(List.getElem?_eq_some_iff.mp ho).1⟩
   ·cases e
  refine⟨P.base,Nat.le_trans D.ge P.ge,λp hp x hx=>?_,λb o ob k=>?_,P.new,λq hq=>Nat.le_trans D.ge (P.fresh q hq),P.ninj⟩
  ·obtain⟨hx1,hx2⟩:=pa' _ _ hx
   have:=P.ups p (List.mem_append_left _ hp) _ (preAt p.1 hx2)
   rw[hx1,←a _ hx2]
   exact this
  ·have k':∀p∈out'.ups++exs,∀x,(av (g6 α objs.length (aa (es.map ρ))) (old N++nw N) 0)[p.1]? =some x→x.1≠b:=λp hp x hx=>by
    rcases List.mem_append.mp hp with hp | hp
    rotate_left
    ·have hpl:=hxx p hp
     obtain⟨j,rfl,h1 | h1⟩:=gtA _ _ hx
     ·lia
     ·have hse:(out.T.get j).isSome=true:=by
       have h2:=gn _ _ h1.2
       exact List.all_eq_true.mp (hsm N) _ (List.mem_of_getElem? h2)
      obtain⟨o',g⟩:=Option.isSome_iff_exists.mp hse
      have h3:=D.fr j o' g (dM hge j (List.mem_of_getElem? h1.2))
      intro e
      dsimp only at e
      rw[e]at h3
      exact absurd (Heap.lt_size ob) (Nat.not_lt.mpr h3)
    have Zy:=hun p hp
    rw[preAt p.1 Zy]at hx
    cases hx
    obtain⟨oo,hoo⟩:∃oo,objs[p.1]? =some oo:=⟨_,List.getElem?_eq_getElem Zy⟩
    have:=k p hp _ (pa _ _ hoo)
    rw[←a _ Zy]at this
    exact this
   refine P.keep b o ?_ k'
   by_cases hx:∃j o',out.T.get j=some o'∧ρ j=b
   ·obtain⟨j,o',g,rfl⟩:=hx
    by_cases hj:j<objs.length
    ·obtain⟨oo,hoo⟩:∃oo,objs[j]? =some oo:=⟨_,List.getElem?_eq_getElem hj⟩
     obtain⟨o2,h2,h3⟩:=bY cv j oo hoo
     rw[gt j hj]at h2
     cases h2
     rcases h3 with h3 | h3
     ·subst h3
      have:=(hP.get _ (List.mem_of_getElem? (pa j _ hoo)) o' g).1
      dsimp only at this
      have ha:ρ j=α j:=a j hj
      rw[←ha]at this
      have e':o=o':=Option.some.inj (ob.symm.trans this)
      subst e'
      exact(D.own _ _ g).2
     ·rw[Nat.zero_add]at h3
      obtain⟨o3,h3⟩:=b8 h3
      exact absurd (a j hj).symm (k (j,o3) h3 _ (pa j oo hoo))
    ·have:=D.fr j o' g (Nat.not_lt.mp hj)
     exact absurd (Heap.lt_size ob) (Nat.not_lt.mpr this)
   ·exact D.keep b o ob λj o' g q=>hx ⟨j,o',g,q⟩
theorem qy{w:World}{lv:Nat}(S:SegIn)(X:(Nat→Addr)→(Nat→Tok)→(Nat→Value)→Nxt)(es:List Nat)(tl:Nm→List Nat)(zl:Nm→List Value)(n:Nat)(ZA:List It)
  (seg:∀ρ τ ζ,res S.objs.length es (iK (Tb w.params) ⟨pw,w.params⟩ (ay S.α ρ S.objs.length) τ ζ n S.s.c (aJ S.objs 0 .nil) S.objs.length 0 0 (itO ZA [.tl]) S.s.G)=
   let N:Nm:=⟨ay S.α ρ S.objs.length,τ,ζ⟩
   let x:=X (aa (es.map N.r)) (aa (tl N)) (aL (zl N))
   some ⟨.tail x.s.c,x.objs.take S.objs.length,x.objs.drop S.objs.length,x.s.G,cZ (ay S.α ρ S.objs.length) (itO ZA [.tl]),itS N ZA⟩)
  (hs:∀N,bO w lv N ZA) (hn:∀C U O,Ok w (lv+1) (X C U O).s)
  (hc:∀N C U O,bx (S.s.F C U O).ups 0 S.objs ((X (aa (es.map N.r)) (aa (tl N)) (aL (zl N))).objs.take S.objs.length))
  (hp:S.s.pre=av S.α S.objs 0:=by rfl) (hl:Nat.blt S.objs.length 1000000=true:=by kernel_rfl) (hes:aF es=true:=by rfl) (hge:bZ S.objs.length es=true:=by rfl)
  (Zo:∀C U O,(X C U O).s.pre=av (g6 S.α S.objs.length C) ((X C U O).objs.take S.objs.length++(X C U O).objs.drop S.objs.length) 0:=by exact λ_ _ _=>rfl)
  (ex:(Nat→Addr)→(Nat→Tok)→(Nat→Value)→List (Nat × Obj))
  (hF:∀C U O,(∀as' ZM zs',((X C U O).s.F as' ZM zs')=⟨(S.s.F as' ZM zs').r,(S.s.F as' ZM zs').ups++ex as' ZM zs',(S.s.F as' ZM zs').news⟩)∧(X C U O).s.G'=S.s.G'∧(X C U O).s.nn=S.s.nn∧(X C U O).s.nt=S.s.nt∧(X C U O).s.nz=S.s.nz:=by exact λ_ _ _=>⟨λ_ _ _=>rfl,rfl,rfl,rfl,rfl⟩)
  (hex:∀C U O,(ex C U O).all (λp=>Nat.ble S.objs.length p.1)=true:=by exact λ_ _ _=>rfl)
  (hsm:∀C U O,((X C U O).objs.drop S.objs.length).all Option.isSome=true:=by exact λ_ _ _=>rfl)
  (hu:∀C U O,(S.s.F C U O).ups.all (λp=>Nat.blt p.1 S.objs.length)=true:=by exact λ_ _ _=>rfl):Ok w (lv+1) S.s:=
 iA es (λN=>(X (aa (es.map N.r)) (aa (tl N)) (aL (zl N))).s) (λN=>(X (aa (es.map N.r)) (aa (tl N)) (aL (zl N))).objs.take S.objs.length)
  (λN=>(X (aa (es.map N.r)) (aa (tl N)) (aL (zl N))).objs.drop S.objs.length) n (itO ZA [.tl]) (λN=>itS N ZA) hp (Nat.le_of_ble_eq_true hl) hes hge
  (λN _=>Zo _ _ _) seg ex (λC U O p hp=>Nat.le_of_ble_eq_true (List.all_eq_true.mp (hex C U O) p hp)) (λN=>hsm _ _ _) (λN=>hF _ _ _) (λC U O p hp=>Nat.le_of_ble_eq_true (List.all_eq_true.mp (hu _ _ _) p hp)) hc (λN=>bp (hs N)) λN=>hn _ _ _
end
section
open PySem PySem.W PySem.W.X
noncomputable def sqT(m t:Sem Flow):Sem Flow:=bdT m λf=>match f with
 | .next=>t
 | .cont=>.pure .cont
 | .brk=>.pure .brk
 | .ret v=>.pure (.ret v)
section
variable{w:World}{Γ:Ctx}
theorem vB{m m' t t':Sem Flow}(h:Le w Γ m m')(h':Le w Γ t t'):Le w Γ (m >>= λf=>match f with | .next=>t | f=>pure f) (sqT m' t'):=by
 unfold sqT
 rw[bD]
 refine Le.bind h λf=>?_
 cases f with
 | next=>exact h'
 | cont=>exact Le.refl _
 | brk=>exact Le.refl _
 | ret v=>exact Le.refl _
theorem cP{env:Env}{ys:List Stmt}{t:Sem Flow}(ht:Le w Γ (execs ys env) t):∀(xs:List Stmt),Le w Γ (execs (xs++ys) env) (sqT (execs xs env) t)
 | []=>λQ E p s x=>by
  unfold sqT at x
  rw[bD]at x
  exact ht Q E p s x
 | st::xs=>λQ E p s x=>by
  have ih:=cP ht xs
  unfold sqT at x
  rw[bD,execs_cons,Sem.wp_bind',Sem.wp_bind']at x
  rw[List.cons_append,execs_cons,Sem.wp_bind']
  refine Sem.wp_mono _ _ _ (λf p s y=>?_) (λ_ _ _ y=>y) _ _ x
  cases f with
  | next=>
   refine ih Q E p s ?_
   unfold sqT
   rw[bD,Sem.wp_bind']
   exact y
  | cont=>exact y
  | brk=>exact y
  | ret v=>exact y
theorem eM{env:Env}{st:Stmt}{ys:List Stmt}{u t:Sem Flow}(hu:Le w Γ (exec st env) u)(ht:Le w Γ (execs ys env) t):Le w Γ (execs (st::ys) env) (sqT u t):=by
 rw[execs_cons]
 have:=vB hu ht
 refine Le.trans (Le.of_eq ?_) this
 congr 1
noncomputable def ifT(pos:Pos)(c:Sem Bool)(body orelse:List Stmt)(env:Env):Sem Flow:=bdT (standAt pos) λ_=>bdT c λb=>match b with
 | true=>exT body env
 | false=>exT orelse env
theorem qP{test:Expr}{body orelse:List Stmt}{pos:Pos}{env:Env}{c:Sem Bool}(h:Le w Γ (isTrue test env (eval test env)) c):Le w Γ (exec (.If test body orelse pos) env) (ifT pos c body orelse env):=λQ E p s x=>by
 unfold ifT at x
 simp only[bD,←oG]at x
 rw[exec_If]
 simp only[Sem.wp_bind',Sem.wp_cmd_standAt]at x ⊢
 refine h _ _ _ _ (Sem.wp_mono _ _ _ (λb p s y=>?_) (λ_ _ _ y=>y) _ _ x)
 cases b with
 | true=>exact y
 | false=>exact y
noncomputable def orT(c1:Sem Bool)(e2:Expr)(env:Env):Sem Bool:=bdT c1 λb=>match b with
 | true=>.pure true
 | false=>itT e2 env (evT e2 env)
theorem vZ{e1 e2:Expr}{pos:Pos}{env:Env}{whole:Sem Value}{c1:Sem Bool}(h:Le w Γ (isTrue e1 env (eval e1 env)) c1):Le w Γ (isTrue (.BoolOp .Or [e1,e2] pos) env whole) (orT c1 e2 env):=λQ E p s x=>by
 unfold orT at x
 rw[bD,←n6,←jq,Sem.wp_bind']at x
 show Sem.wp _ Γ (allTrue .Or [e1,e2] env) Q E p s
 have e:allTrue .Or [e1,e2] env=(isTrue e1 env (eval e1 env) >>= λb=>match BoolOp.Or,b with
  | .And,false=>pure false
  | .Or,true=>pure true
  | _,_=>allTrue .Or [e2] env):=rfl
 rw[e,Sem.wp_bind']
 refine h _ _ _ _ (Sem.wp_mono _ _ _ (λb p s y=>?_) (λ_ _ _ y=>y) _ _ x)
 cases b with
 | true=>exact y
 | false=>
  have e':allTrue .Or [e2] env=(isTrue e2 env (eval e2 env) >>= λb=>match BoolOp.Or,b with
   | .And,false=>pure false
   | .Or,true=>pure true
   | _,_=>allTrue .Or [] env):=rfl
  show Sem.wp _ Γ (allTrue .Or [e2] env) Q E p s
  rw[e',Sem.wp_bind']
  refine Sem.wp_mono _ _ _ (λb p s y=>?_) (λ_ _ _ y=>y) _ _ y
  cases b with
  | true=>exact y
  | false=>exact y
end
noncomputable def fuT(B:Sem Flow):Sem PySem.Fin:=bdT B λf=>match f with
 | .ret v=>.pure (.done (.ret v))
 | _=>.pure (.done (.ret .none))
theorem qc{w:World}{body:List Stmt}{env:Env}{B:Sem Flow}(hL:∀Γ:Ctx,Γ.units<cLine→Le w Γ (execs body env) B):bk w (.func body env) (fuT B):=by
 intro A R s hu h
 refine y_code pw w A R s _ ?_
 intro Γ p hc hΓ
 have hx:=h Γ p hc hΓ
 have hG:=jC hc hΓ (Nat.le_refl 3) hu
 unfold fuT at hx
 rw[bD,Sem.wp_bind']at hx
 have e:denote table (.func body env)=(point >>= λ_=>(execs body env).onRaise (leaving env) >>= λf=>match f with
  | .ret v=>ret v
  | _=>ret .none):=rfl
 rw[e]
 simp only[Sem.wp_bind',Sem.wp_cmd_point,Sem.wp_onRaise]
 refine hL Γ hG _ _ _ _ (Sem.wp_mono _ _ _ (λf p s y=>?_) (λv p s y=>y.elim) _ _ hx)
 cases f with
 | ret v=>exact y
 | next=>exact y
 | cont=>exact y
 | brk=>exact y
end
section
open PySem PySem.W PySem.W.X PySem.Builtin
open AutoSeq1 (wpAny_loadPart')
set_option maxHeartbeats 4000000 in
theorem l8(l s:Addr)(n:Nat)(t:Tok):Meets (Builtin.«list.__getitem__» ⟨[.ref l,.ref s],[]⟩)
  (λA R st=>st.heap.get? l=some (lO [] n)∧st.heap.get? s=some (m5 t)∧R (.ok (.ret (.ref st.heap.objs.size))) {st with heap:=st.heap.push {cls:=.type "list",data:=.seq #[]}}):=by
 intro prog w A R st h
 obtain⟨hp,g,d,U,os⟩:=st
 obtain⟨hl,hs,h⟩:=h
 unfold Builtin.«list.__getitem__»
 wp_walk using wpAny_loadPart' hl,wpAny_loadPart' hs
 refine wpAny_of_eq (a:=none) dT ?_
 wp_walk using wpAny_loadPart' hl,wpAny_loadPart' hs
 refine wpAny_of_eq (a:=some (.builtin "int.__index__")) h6 ?_
 wp_walk using wpAny_loadPart' hl,wpAny_loadPart' hs
 exact h
noncomputable def ql(G:GP)(l s:Addr)(n:Nat)(t:Tok):ac:=cB "list.__getitem__" [.ref l,.ref s] [(l,some (lO [] n)),(s,some (m5 t))] G 1 0 λC _ _=>⟨.ok (.ret (.ref (C 0))),[],[some (lO [] 0)]⟩
theorem tz{w:World}{G:GP}{l s:Addr}{n:Nat}{t:Tok}:Ok w 1 (ql G l s n t):=
 aN slot_list_getitem entry_list_getitem (args_list_getitem _ _) (l8 l s n t) rfl λA R h gs d U os hA hG hB hP K=>by
  have ho:=(hP.get _ (.head _) _ rfl).1
  have ho2:=(hP.get _ (.tail _ (.head _)) _ rfl).1
  exact⟨⟨_,ho,rfl⟩,ho,ho2,K _ gs U (λ_=>h.objs.size) (λ_=>0) (λ_=>.none) hG (bJ hB rfl)⟩
noncomputable def qn(G:GP)(a b:Addr)(n m:Nat):ac:=cB "list.__ne__" [.ref a,.ref b] [(a,some (lO [] n)),(b,some (lO [] m))] G 0 0 λ_ _ _=>rV (.bool false)
theorem tD{w:World}{G:GP}{a b:Addr}{n m:Nat}:Ok w 1 (qn G a b n m):=pS (ns:=[]) (v:=.none) (v':=.none)
end
section
open PySem PySem.W PySem.W.X PySem.Builtin
noncomputable def xu(L:Addr)(e0 e1:Nat):List (Option Obj):=[some (riO (.ofNat 0) (.ofNat 0) 1),some (lO [] e0),some (diO [] e1),some (ceO (some (.ref L)))]
noncomputable def Bn(G:GP)(it Z9 D fa Z6 L:Addr)(e0 e1:Nat):ac:=
 sd (.compStart lcE 0 (.ref it) (.ref Z9) (nT D fa Z6)) (aa [it,Z9,D,Z6]) (xu L e0 e1) G G 0 0 0 λ_ _ _=>⟨.ok .next,[],[]⟩
noncomputable def dE(w:World)(Z V:Bool)(G:GP)(it Z9 D fa Z6 L:Addr)(e0 e1:Nat):SegIn:=
 ⟨Bn G it Z9 D fa Z6 L e0 e1,aa [it,Z9,D,Z6],xu L e0 e1⟩
end
section
open PySem PySem.W PySem.W.X PySem.Builtin
theorem tE{w:World}{Z V:Bool}{G:GP}{it Z9 D fa Z6 L:Addr}{e0 e1:Nat}:Ok (W2 w Z V) 4 (dE w Z V G it Z9 D fa Z6 L e0 e1).s:=by
 cases V with
 | false=>
  exact okS (dE w Z false G it Z9 D fa Z6 L e0 e1) [] 30 (λN=>[]) (λN=>[])
     (.i (ub 10 0xa9a4a4a4a4a4a4a4a4a4)::[])
     (sE (sg1 (by kernel_rfl)) Z) (λN=>trivial)
 | true=>
  exact okS (dE w Z true G it Z9 D fa Z6 L e0 e1) [] 20 (λN=>[]) (λN=>[])
     (.i (ub 6 0xa9a4a4a4a4a4)::[])
     (sE (sg1 (by kernel_rfl)) Z) (λN=>trivial)
end
section
open PySem PySem.W PySem.W.X PySem.Builtin
noncomputable def dU(w:World)(Z V:Bool)(xs:List Value)(r:Int × Int × Int × Int):Prop:=∀(G:GP) (a:Addr) (dd:Option Addr) (e:Nat) (sl:Array (Option Value)),Ok (W2 w Z V) 3 (fu G a xs dd e sl r)
variable{w:World}{Z V:Bool}{G:GP}{a fr Z7 Z6 Z8 it b RL g0 g1 TO L DL S R RC KP KT PL PB CT Z9 fa KX TL g2 g3:Addr}{e r0 s0 r1 s1 sz ef el p ln pz lz es ep et pN e2 nz g eo nf e0 e1 m d r2 s2 r3 s3 c n:Nat}{u1 v1 v2 v3 w3 w4 w5 w6 w7 w1 w2 w9 Z1 v w8 ZT ZS ZR ZQ ZO wk:Value}{J:Nat→Value}{u3 z1 z2 z3 z4 u4 k0 ZG k1 ZF t u y y1 y2 y3 y4 y5 y6 y7 y8 y9 Z3 Z4 z5 z6 z7 z8 z9 ut up Z2 q1 tn Z0 ZZ ZY ZX ZW ZV ZU tc k2 ZE k3 ZD:Tok}{l tx x tok l0 ns:List Nat}{ts:List Value}
noncomputable def dW(w:World)(Z V:Bool)(t0 t1 t2 t3:Int)(l:List (Int × Int)):Prop:=∀(G:GP) (a:Addr) (u0 u1 u2 u3:Tok) (e:Nat),Ok (W2 w Z V) 5 (na G a t0 t1 t2 t3 u0 u1 u2 u3 e l)
noncomputable def pK(xs:List Value)(dd:Option Addr)(e:Nat)(sl:Array (Option Value)):List (Option Obj):=[some ⟨.type "list",dd,.seq ⟨xs⟩ e,sl⟩,some gD]
noncomputable def nV:FT:=λ_ _ O=>⟨.ok (.ret (.bool true)),[(1,⟨.none,none,.fields ⟨[O 0,O 1,O 2]⟩,⟨[]⟩⟩)],[]⟩
noncomputable def qK(P:Params):(Nat→Addr)→(Nat→Tok)→(Nat→Value)→List (Nat × Obj):=λ_ U O=>[(2,kP P (U 0) (U 1) (U 2) (U 3) (U 4) (U 5) (U 6) (U 7) (U 8) (U 9) (U 10) (U 11) (U 12) (U 13) (U 14) (U 15) (U 16) (O 3) (O 4) (O 5) (O 6) (O 7) (O 8) (O 9) (O 10) (O 11) (O 12) (O 13) (O 14) (O 15) (O 16) (O 17) (O 18) (O 19) (U 17)),(3,ceO (some (O 20))),(4,ceO (some (O 21))),(5,ceO (some (O 22)))]
noncomputable def xx(P:Params):FT:=λC U O=>⟨(nV C U O).r,(nV C U O).ups++qK P C U O,(nV C U O).news⟩
noncomputable def jf(g g':Nat)(a:Addr)(xs:List Value)(dd:Option Addr)(e:Nat)(sl:Array (Option Value)):ac:=
 sd (.call (.ref 163) ⟨[.ref a],[]⟩) (aa [a,146]) (pK xs dd e sl) (GN g) (GN g') 0 18 23 nV
noncomputable def jY(P:Params)(g g':Nat)(a fr Z8 Z6 Z7:Addr)(t:Tok)(xs:List Value)(dd:Option Addr)(e:Nat)(sl:Array (Option Value)):SegIn:=
 let o:=pK xs dd e sl++[some (frO [en P bu t (.ref a)] 1),some (ceO none),some (ceO none),some (ceO none)]
 ⟨sd (.func (bdS (stA 16)) (an fr Z7 Z6 Z8)) (aa [a,146,fr,Z8,Z6,Z7]) o (GN g) (GN g') 0 18 23 (xx P),aa [a,146,fr,Z8,Z6,Z7],o⟩
noncomputable def boV:PySem.Expr→Nat→PySem.Expr
 | .BoolOp _ es _,i=>es.getD i noE
 | _,_=>noE
noncomputable def pr:Stmt→Pos
 | .If _ _ _ p=>p
 | _=>⟨0,0,0,0⟩
noncomputable def mr:PySem.Expr:=boV (eR (aE 8)) 0
noncomputable def mt:PySem.Expr:=eR (aE 17)
noncomputable def laT(env:Env):Sem PySem.Fin:=
 fuT (sqT (exT ((bdS (stA 16)).take 8) env)
  (sqT (ifT (pr (aE 8)) (orT (mI (gV mr) .NotEq (hh mr) (jv mr) env) (boV (eR (aE 8)) 1) env) (bdW (aE 8)) [] env)
   (sqT (exT (((bdS (stA 16)).drop 9).take 8) env)
    (sqT (ifT (pr (aE 17)) (mI (gV mt) .NotEq (hh mt) (jv mt) env) (bdW (aE 17)) [] env)
     (exT ((bdS (stA 16)).drop 18) env)))))
noncomputable def vX:PySem.Expr→Pos
 | .BoolOp _ _ p=>p
 | _=>⟨0,0,0,0⟩
theorem pM:bdS (stA 16)=(bdS (stA 16)).take 8++.If (.BoolOp .Or [.Compare (gV mr) [.NotEq] [hh mr] (jv mr),boV (eR (aE 8)) 1] (vX (eR (aE 8)))) (bdW (aE 8)) [] (pr (aE 8))::
  (((bdS (stA 16)).drop 9).take 8++.If (.Compare (gV mt) [.NotEq] [hh mt] (jv mt)) (bdW (aE 17)) [] (pr (aE 17))::(bdS (stA 16)).drop 18):=by kernel_rfl
theorem eZ(env:Env):bk w (.func (bdS (stA 16)) env) (laT env):=by
 have h:∀Γ:Ctx,Γ.units<cLine→Le w Γ (execs (bdS (stA 16)) env) _:=λΓ hu=>by
  rw[pM]
  refine cP (eM (qP (vZ (ju hu (.inl rfl) (by kernel_rfl)))) (cP (eM (qP (ju hu (.inl rfl) (by kernel_rfl))) (Le.refl _)) _)) _
 have h2:=qc h
 unfold laT
 rw[←oG]
 exact h2
noncomputable def lP(w:World)(Z V:Bool)(sd:Nat)(r0 s0 r1 s1:Nat)(tx:List Nat)(sz:Nat):Prop:=∀(G:GP) (fr Z7 Z6 Z8 it a b RL:Addr) (z1 z2 z3 z4 u3 u4:Tok) (ef el:Nat) (g0 g1:Addr) (k0 ZG k1 ZF:Tok),Ok (W2 w Z V) 6 (mN (Pw w Z V) G fr Z7 Z6 Z8 it a b RL z1 z2 z3 z4 sd u3 [] u4 ef el g0 g1 r0 s0 r1 s1 k0 ZG k1 ZF tx sz)
noncomputable def oW(w:World)(Z V:Bool)(x:List Nat)(p ln:Nat)(tok:List Nat)(r0 s0 r1 s1:Nat)(pz lz:Nat):Prop:=∀(G:GP) (fr Z7 Z6 Z8 a b TO:Addr) (L DL S DS R RC KP KT PL PB CT:Addr) (t:Tok) (J:Nat→Value) (u:Tok) (y:Tok) (e:Nat) (y1 y2 y3 y4 y5 y6 y7 y8 y9 Z3 Z4:Tok) (v1 v2 v3:Value) (el es:Nat) (ep:Nat) (z1 z2 z3 z4 z5 z6 z7 z8 z9:Tok) (w3 w4 w5 w6 w7:Value) (ut:Tok) (ef et:Nat),Ok (W2 w Z V) 8 (iE (Pw w Z V) G fr Z7 Z6 Z8 a b TO L DL S DS R RC KP KT PL PB CT t J x u p y e ln y1 y2 y3 y4 y5 y6 y7 y8 y9 Z3 Z4 v1 v2 v3 el es ep z1 z2 z3 z4 z5 z6 z7 z8 z9 w3 w4 w5 w6 w7 tok ut ef et pz lz [(r0,s0),(r1,s1)])
noncomputable def lV(w:World)(Z V:Bool)(r0 s0 r1 s1:Nat)(pN:Nat):Prop:=∀(G:GP) (fr Z7 Z6 Z8 RL g0 g1:Addr) (up:Tok) (e2:Nat) (k0 ZG k1 ZF:Tok),Ok (W2 w Z V) 5 (mh G fr Z7 Z6 Z8 RL g0 g1 1 up e2 r0 s0 r1 s1 k0 ZG k1 ZF pN)
noncomputable def lS(w:World)(Z V:Bool)(r0 s0 r1 s1:Nat)(pN:Nat)(l0:List Nat)(nz:Nat)(lz:List Nat):Prop:=∀(g:Nat) (fr Z7 Z6 Z8 it TO L DL:Addr) (S PB:Addr) (ln:Nat) (y1 y2 y3 y4 y5 y6:Tok) (el:Nat) (z1 z2 z3 z4 z5 z6 z7 z8 z9 Z2:Tok) (w1 w2 w3 w4 w5 w6 w7 w9 Z1:Value) (g0 g1:Addr) (k0 ZG k1 ZF:Tok) (q1 q2:Tok) (u1:Value) (tn up:Tok) (ef eo:Nat) (v:Value) (ep:Nat),Ok (W2 w Z V) 7 (ru (Pw w Z V) g fr Z7 Z6 Z8 it TO L DL S PB ln y1 y2 y3 y4 y5 y6 el z1 z2 z3 z4 z5 z6 z7 z8 z9 Z2 w1 w2 w3 w4 w5 w6 w7 w9 Z1 g0 g1 r0 s0 r1 s1 k0 ZG k1 ZF q1 q2 u1 pN tn up ef eo l0 v ep nz lz)
noncomputable def zg(P:Params)(r0 s0 r1 s1:Nat)(pN:Nat)(l0:List Nat)(g:Nat)(fr Z7 Z6 Z8 it TO L DL:Addr)(S PB:Addr)(ln:Nat)(y1 y2 y3 y4 y5 y6:Tok)(el:Nat)(z1 z2 z3 z4 z5 z6 z7 z8 z9 Z2:Tok)(w1 w2 w3 w4 w5 w6 w7 w9 Z1:Value)(g0 g1:Addr)(k0 ZG k1 ZF:Tok)(q1 q2:Tok)(u1:Value)(tn up:Tok)(ef eo:Nat)(v:Value)(ep:Nat):ac:=sd (cM (aE 13) (.ref it) (an fr Z7 Z6 Z8)) (aa [fr,it,TO,g0,g1,Z7,Z6,L,DL,PB]) (vf P TO L DL S PB ln y1 y2 y3 y4 y5 y6 el z1 z2 z3 z4 z5 z6 z7 z8 z9 Z2 w1 w2 w3 w4 w5 w6 w7 w9 Z1 g0 g1 r0 s0 r1 s1 k0 ZG k1 ZF q1 q2 u1 pN tn up ef eo (qSL (l0.map fS) v) ep) (GN g) (GN (g+2)) 0 6 9 λ_ U O=>
  ⟨.ok .next,[(0,eG P z1 z2 z3 z4 z5 z6 z7 z8 z9 Z2 w1 w2 w3 w4 (O 0) (O 1) w7 (.ref TO) (O 2) Z1 ([en P aM q1 u1,en P bc q2 (.int (.ofNat 0) (U 0)),en P bR (U 1) (O 3),en P dg (U 2) (O 4),en P s_k (U 3) (O 5)]) (U 4)),(1,⟨.type "list_iterator",none,.fields ⟨[O 6,O 7]⟩,⟨[]⟩⟩),(9,lO [] (U 5))],[]⟩
noncomputable def lZ(w:World)(Z V:Bool)(r0 s0 r1 s1:Nat)(pN nf:Nat)(ns:List Nat):Prop:=∀(G:GP) (it Z9 D fa KX Z8 RL g0 g1:Addr) (e0 e1 e2:Nat) (k0 ZG k1 ZF:Tok),Ok (W2 w Z V) 5 (oE G it Z9 D fa KX Z8 RL g0 g1 1 pN [] e0 e1 none e2 r0 s0 r1 s1 k0 ZG k1 ZF nf ns)
noncomputable def rd(w:World)(Z V:Bool)(m:Nat)(l:List Nat)(d:Nat):Prop:=∀(G:GP) (fr Z7 Z6 Z8 it TL RL g0 g1:Addr) (z1 z2 z3 z4 z5 z6 z7 z8 z9 Z2 Z0 ZZ ZY ZX ZW ZV ZU:Tok) (w1 w2 w3 w4 w5 w6 w7 w8 w9 Z1 ZT ZS ZR ZQ ZO:Value) (wk:Value) (ef:Nat) (v:Value) (tc:Tok) (et e2:Nat),Ok (W2 w Z V) 4 (j7 (Pw w Z V) G fr Z7 Z6 Z8 it TL RL g0 g1 z1 z2 z3 z4 z5 z6 z7 z8 z9 Z2 Z0 ZZ ZY ZX ZW ZV ZU w1 w2 w3 w4 w5 w6 w7 w8 w9 Z1 ZT ZS ZR ZQ ZO wk ef 0 m ((qIL l v).append [.int (.ofNat d) tc]) et e2 m)
theorem xQ:Ok (W2 w Z V) 4 (j7 (Pw w Z V) G fr Z7 Z6 Z8 it TL RL g0 g1 z1 z2 z3 z4 z5 z6 z7 z8 z9 Z2 Z0 ZZ ZY ZX ZW ZV ZU w1 w2 w3 w4 w5 w6 w7 w8 w9 Z1 ZT ZS ZR ZQ ZO wk ef 0 0 ts et e2 0):=ox
noncomputable def lN(w:World)(Z V:Bool)(sd:Nat)(r0 s0 r1 s1 r2 s2:Nat)(tx:List Nat)(sz:Nat):Prop:=∀(G:GP) (fr Z7 Z6 Z8 it a b RL:Addr) (z1 z2 z3 z4 u3 u4:Tok) (ef el:Nat) (g0 g1 g2:Addr) (k0 ZG k1 ZF k2 ZE:Tok),Ok (W2 w Z V) 6 (mM (Pw w Z V) G fr Z7 Z6 Z8 it a b RL z1 z2 z3 z4 sd u3 [] u4 ef el g0 g1 g2 r0 s0 r1 s1 r2 s2 k0 ZG k1 ZF k2 ZE tx sz)
noncomputable def oV(w:World)(Z V:Bool)(x:List Nat)(p ln:Nat)(tok:List Nat)(r0 s0 r1 s1 r2 s2:Nat)(pz lz:Nat):Prop:=∀(G:GP) (fr Z7 Z6 Z8 a b TO:Addr) (L DL S DS R RC KP KT PL PB CT:Addr) (t:Tok) (J:Nat→Value) (u:Tok) (y:Tok) (e:Nat) (y1 y2 y3 y4 y5 y6 y7 y8 y9 Z3 Z4:Tok) (v1 v2 v3:Value) (el es:Nat) (ep:Nat) (z1 z2 z3 z4 z5 z6 z7 z8 z9:Tok) (w3 w4 w5 w6 w7:Value) (ut:Tok) (ef et:Nat),Ok (W2 w Z V) 8 (iE (Pw w Z V) G fr Z7 Z6 Z8 a b TO L DL S DS R RC KP KT PL PB CT t J x u p y e ln y1 y2 y3 y4 y5 y6 y7 y8 y9 Z3 Z4 v1 v2 v3 el es ep z1 z2 z3 z4 z5 z6 z7 z8 z9 w3 w4 w5 w6 w7 tok ut ef et pz lz [(r0,s0),(r1,s1),(r2,s2)])
noncomputable def lU(w:World)(Z V:Bool)(r0 s0 r1 s1 r2 s2:Nat)(pN:Nat):Prop:=∀(G:GP) (fr Z7 Z6 Z8 RL g0 g1 g2:Addr) (up:Tok) (e2:Nat) (k0 ZG k1 ZF k2 ZE:Tok),Ok (W2 w Z V) 5 (me G fr Z7 Z6 Z8 RL g0 g1 g2 1 up e2 r0 s0 r1 s1 r2 s2 k0 ZG k1 ZF k2 ZE pN)
noncomputable def lR(w:World)(Z V:Bool)(r0 s0 r1 s1 r2 s2:Nat)(pN:Nat)(l0:List Nat)(nz:Nat)(lz:List Nat):Prop:=∀(g:Nat) (fr Z7 Z6 Z8 it TO L DL:Addr) (S PB:Addr) (ln:Nat) (y1 y2 y3 y4 y5 y6:Tok) (el:Nat) (z1 z2 z3 z4 z5 z6 z7 z8 z9 Z2:Tok) (w1 w2 w3 w4 w5 w6 w7 w9 Z1:Value) (g0 g1 g2:Addr) (k0 ZG k1 ZF k2 ZE:Tok) (q1 q2:Tok) (u1:Value) (tn up:Tok) (ef eo:Nat) (v:Value) (ep:Nat),Ok (W2 w Z V) 7 (rt (Pw w Z V) g fr Z7 Z6 Z8 it TO L DL S PB ln y1 y2 y3 y4 y5 y6 el z1 z2 z3 z4 z5 z6 z7 z8 z9 Z2 w1 w2 w3 w4 w5 w6 w7 w9 Z1 g0 g1 g2 r0 s0 r1 s1 r2 s2 k0 ZG k1 ZF k2 ZE q1 q2 u1 pN tn up ef eo l0 v ep nz lz)
noncomputable def zf(P:Params)(r0 s0 r1 s1 r2 s2:Nat)(pN:Nat)(l0:List Nat)(g:Nat)(fr Z7 Z6 Z8 it TO L DL:Addr)(S PB:Addr)(ln:Nat)(y1 y2 y3 y4 y5 y6:Tok)(el:Nat)(z1 z2 z3 z4 z5 z6 z7 z8 z9 Z2:Tok)(w1 w2 w3 w4 w5 w6 w7 w9 Z1:Value)(g0 g1 g2:Addr)(k0 ZG k1 ZF k2 ZE:Tok)(q1 q2:Tok)(u1:Value)(tn up:Tok)(ef eo:Nat)(v:Value)(ep:Nat):ac:=sd (cM (aE 13) (.ref it) (an fr Z7 Z6 Z8)) (aa [fr,it,TO,g0,g1,g2,Z7,Z6,L,DL,PB]) (ve P TO L DL S PB ln y1 y2 y3 y4 y5 y6 el z1 z2 z3 z4 z5 z6 z7 z8 z9 Z2 w1 w2 w3 w4 w5 w6 w7 w9 Z1 g0 g1 g2 r0 s0 r1 s1 r2 s2 k0 ZG k1 ZF k2 ZE q1 q2 u1 pN tn up ef eo (qSL (l0.map fS) v) ep) (GN g) (GN (g+3)) 0 6 9 λ_ U O=>
  ⟨.ok .next,[(0,eG P z1 z2 z3 z4 z5 z6 z7 z8 z9 Z2 w1 w2 w3 w4 (O 0) (O 1) w7 (.ref TO) (O 2) Z1 ([en P aM q1 u1,en P bc q2 (.int (.ofNat 0) (U 0)),en P bR (U 1) (O 3),en P dg (U 2) (O 4),en P s_k (U 3) (O 5)]) (U 4)),(1,⟨.type "list_iterator",none,.fields ⟨[O 6,O 7]⟩,⟨[]⟩⟩),(10,lO [] (U 5))],[]⟩
noncomputable def lY(w:World)(Z V:Bool)(r0 s0 r1 s1 r2 s2:Nat)(pN nf:Nat)(ns:List Nat):Prop:=∀(G:GP) (it Z9 D fa KX Z8 RL g0 g1 g2:Addr) (e0 e1 e2:Nat) (k0 ZG k1 ZF k2 ZE:Tok),Ok (W2 w Z V) 5 (oD G it Z9 D fa KX Z8 RL g0 g1 g2 1 pN [] e0 e1 none e2 r0 s0 r1 s1 r2 s2 k0 ZG k1 ZF k2 ZE nf ns)
noncomputable def rc(w:World)(Z V:Bool)(m:Nat)(l:List Nat)(d:Nat):Prop:=∀(G:GP) (fr Z7 Z6 Z8 it TL RL g0 g1 g2:Addr) (z1 z2 z3 z4 z5 z6 z7 z8 z9 Z2 Z0 ZZ ZY ZX ZW ZV ZU:Tok) (w1 w2 w3 w4 w5 w6 w7 w8 w9 Z1 ZT ZS ZR ZQ ZO:Value) (wk:Value) (ef:Nat) (v:Value) (tc:Tok) (et e2:Nat),Ok (W2 w Z V) 4 (j6 (Pw w Z V) G fr Z7 Z6 Z8 it TL RL g0 g1 g2 z1 z2 z3 z4 z5 z6 z7 z8 z9 Z2 Z0 ZZ ZY ZX ZW ZV ZU w1 w2 w3 w4 w5 w6 w7 w8 w9 Z1 ZT ZS ZR ZQ ZO wk ef 0 m ((qIL l v).append [.int (.ofNat d) tc]) et e2 m)
theorem xP:Ok (W2 w Z V) 4 (j6 (Pw w Z V) G fr Z7 Z6 Z8 it TL RL g0 g1 g2 z1 z2 z3 z4 z5 z6 z7 z8 z9 Z2 Z0 ZZ ZY ZX ZW ZV ZU w1 w2 w3 w4 w5 w6 w7 w8 w9 Z1 ZT ZS ZR ZQ ZO wk ef 0 0 ts et e2 0):=ow
noncomputable def lM(w:World)(Z V:Bool)(sd:Nat)(r0 s0 r1 s1 r2 s2 r3 s3:Nat)(tx:List Nat)(sz:Nat):Prop:=∀(G:GP) (fr Z7 Z6 Z8 it a b RL:Addr) (z1 z2 z3 z4 u3 u4:Tok) (ef el:Nat) (g0 g1 g2 g3:Addr) (k0 ZG k1 ZF k2 ZE k3 ZD:Tok),Ok (W2 w Z V) 6 (mL (Pw w Z V) G fr Z7 Z6 Z8 it a b RL z1 z2 z3 z4 sd u3 [] u4 ef el g0 g1 g2 g3 r0 s0 r1 s1 r2 s2 r3 s3 k0 ZG k1 ZF k2 ZE k3 ZD tx sz)
noncomputable def oU(w:World)(Z V:Bool)(x:List Nat)(p ln:Nat)(tok:List Nat)(r0 s0 r1 s1 r2 s2 r3 s3:Nat)(pz lz:Nat):Prop:=∀(G:GP) (fr Z7 Z6 Z8 a b TO:Addr) (L DL S DS R RC KP KT PL PB CT:Addr) (t:Tok) (J:Nat→Value) (u:Tok) (y:Tok) (e:Nat) (y1 y2 y3 y4 y5 y6 y7 y8 y9 Z3 Z4:Tok) (v1 v2 v3:Value) (el es:Nat) (ep:Nat) (z1 z2 z3 z4 z5 z6 z7 z8 z9:Tok) (w3 w4 w5 w6 w7:Value) (ut:Tok) (ef et:Nat),Ok (W2 w Z V) 8 (iE (Pw w Z V) G fr Z7 Z6 Z8 a b TO L DL S DS R RC KP KT PL PB CT t J x u p y e ln y1 y2 y3 y4 y5 y6 y7 y8 y9 Z3 Z4 v1 v2 v3 el es ep z1 z2 z3 z4 z5 z6 z7 z8 z9 w3 w4 w5 w6 w7 tok ut ef et pz lz [(r0,s0),(r1,s1),(r2,s2),(r3,s3)])
noncomputable def lT(w:World)(Z V:Bool)(r0 s0 r1 s1 r2 s2 r3 s3:Nat)(pN:Nat):Prop:=∀(G:GP) (fr Z7 Z6 Z8 RL g0 g1 g2 g3:Addr) (up:Tok) (e2:Nat) (k0 ZG k1 ZF k2 ZE k3 ZD:Tok),Ok (W2 w Z V) 5 (mc G fr Z7 Z6 Z8 RL g0 g1 g2 g3 1 up e2 r0 s0 r1 s1 r2 s2 r3 s3 k0 ZG k1 ZF k2 ZE k3 ZD pN)
noncomputable def lQ(w:World)(Z V:Bool)(r0 s0 r1 s1 r2 s2 r3 s3:Nat)(pN:Nat)(l0:List Nat)(nz:Nat)(lz:List Nat):Prop:=∀(g:Nat) (fr Z7 Z6 Z8 it TO L DL:Addr) (S PB:Addr) (ln:Nat) (y1 y2 y3 y4 y5 y6:Tok) (el:Nat) (z1 z2 z3 z4 z5 z6 z7 z8 z9 Z2:Tok) (w1 w2 w3 w4 w5 w6 w7 w9 Z1:Value) (g0 g1 g2 g3:Addr) (k0 ZG k1 ZF k2 ZE k3 ZD:Tok) (q1 q2:Tok) (u1:Value) (tn up:Tok) (ef eo:Nat) (v:Value) (ep:Nat),Ok (W2 w Z V) 7 (rs (Pw w Z V) g fr Z7 Z6 Z8 it TO L DL S PB ln y1 y2 y3 y4 y5 y6 el z1 z2 z3 z4 z5 z6 z7 z8 z9 Z2 w1 w2 w3 w4 w5 w6 w7 w9 Z1 g0 g1 g2 g3 r0 s0 r1 s1 r2 s2 r3 s3 k0 ZG k1 ZF k2 ZE k3 ZD q1 q2 u1 pN tn up ef eo l0 v ep nz lz)
noncomputable def ze(P:Params)(r0 s0 r1 s1 r2 s2 r3 s3:Nat)(pN:Nat)(l0:List Nat)(g:Nat)(fr Z7 Z6 Z8 it TO L DL:Addr)(S PB:Addr)(ln:Nat)(y1 y2 y3 y4 y5 y6:Tok)(el:Nat)(z1 z2 z3 z4 z5 z6 z7 z8 z9 Z2:Tok)(w1 w2 w3 w4 w5 w6 w7 w9 Z1:Value)(g0 g1 g2 g3:Addr)(k0 ZG k1 ZF k2 ZE k3 ZD:Tok)(q1 q2:Tok)(u1:Value)(tn up:Tok)(ef eo:Nat)(v:Value)(ep:Nat):ac:=sd (cM (aE 13) (.ref it) (an fr Z7 Z6 Z8)) (aa [fr,it,TO,g0,g1,g2,g3,Z7,Z6,L,DL,PB]) (vd P TO L DL S PB ln y1 y2 y3 y4 y5 y6 el z1 z2 z3 z4 z5 z6 z7 z8 z9 Z2 w1 w2 w3 w4 w5 w6 w7 w9 Z1 g0 g1 g2 g3 r0 s0 r1 s1 r2 s2 r3 s3 k0 ZG k1 ZF k2 ZE k3 ZD q1 q2 u1 pN tn up ef eo (qSL (l0.map fS) v) ep) (GN g) (GN (g+4)) 0 6 9 λ_ U O=>
  ⟨.ok .next,[(0,eG P z1 z2 z3 z4 z5 z6 z7 z8 z9 Z2 w1 w2 w3 w4 (O 0) (O 1) w7 (.ref TO) (O 2) Z1 ([en P aM q1 u1,en P bc q2 (.int (.ofNat 0) (U 0)),en P bR (U 1) (O 3),en P dg (U 2) (O 4),en P s_k (U 3) (O 5)]) (U 4)),(1,⟨.type "list_iterator",none,.fields ⟨[O 6,O 7]⟩,⟨[]⟩⟩),(11,lO [] (U 5))],[]⟩
noncomputable def lX(w:World)(Z V:Bool)(r0 s0 r1 s1 r2 s2 r3 s3:Nat)(pN nf:Nat)(ns:List Nat):Prop:=∀(G:GP) (it Z9 D fa KX Z8 RL g0 g1 g2 g3:Addr) (e0 e1 e2:Nat) (k0 ZG k1 ZF k2 ZE k3 ZD:Tok),Ok (W2 w Z V) 5 (oC G it Z9 D fa KX Z8 RL g0 g1 g2 g3 1 pN [] e0 e1 none e2 r0 s0 r1 s1 r2 s2 r3 s3 k0 ZG k1 ZF k2 ZE k3 ZD nf ns)
noncomputable def rb(w:World)(Z V:Bool)(m:Nat)(l:List Nat)(d:Nat):Prop:=∀(G:GP) (fr Z7 Z6 Z8 it TL RL g0 g1 g2 g3:Addr) (z1 z2 z3 z4 z5 z6 z7 z8 z9 Z2 Z0 ZZ ZY ZX ZW ZV ZU:Tok) (w1 w2 w3 w4 w5 w6 w7 w8 w9 Z1 ZT ZS ZR ZQ ZO:Value) (wk:Value) (ef:Nat) (v:Value) (tc:Tok) (et e2:Nat),Ok (W2 w Z V) 4 (j5 (Pw w Z V) G fr Z7 Z6 Z8 it TL RL g0 g1 g2 g3 z1 z2 z3 z4 z5 z6 z7 z8 z9 Z2 Z0 ZZ ZY ZX ZW ZV ZU w1 w2 w3 w4 w5 w6 w7 w8 w9 Z1 ZT ZS ZR ZQ ZO wk ef 0 m ((qIL l v).append [.int (.ofNat d) tc]) et e2 m)
theorem xO:Ok (W2 w Z V) 4 (j5 (Pw w Z V) G fr Z7 Z6 Z8 it TL RL g0 g1 g2 g3 z1 z2 z3 z4 z5 z6 z7 z8 z9 Z2 Z0 ZZ ZY ZX ZW ZV ZU w1 w2 w3 w4 w5 w6 w7 w8 w9 Z1 ZT ZS ZR ZQ ZO wk ef 0 0 ts et e2 0):=ou
noncomputable def nq(P:Params)(G:GP)(fr Z7 Z6 Z8 it L DL:Addr)(S PB:Addr)(ln:Nat)(y1 y2 y3 y4 y5 y6:Tok)(el:Nat)(z1 z2 z3 z4 z5 z6 z7 z8 z9 Z2:Tok)(w1 w2 w3 w4 w5 w6 w7 w8 w9 Z1:Value)(ef ep:Nat)(pN:Nat)(l:List Nat):ac:=sd (cM (aE 11) (.ref it) (an fr Z7 Z6 Z8)) (aa [fr,it,Z6,L,DL,PB]) (vY P L DL S PB ln y1 y2 y3 y4 y5 y6 el z1 z2 z3 z4 z5 z6 z7 z8 z9 Z2 w1 w2 w3 w4 w5 w6 w7 w8 w9 Z1 [] ef 1 pN [] ep) G G 0 3 2 (λ_ U O=>⟨.ok .next,[(0,eG P z1 z2 z3 z4 z5 z6 z7 z8 z9 Z2 w1 w2 w3 w4 w5 w6 w7 w8 w9 Z1 [en P aM (U 0) (O 0)] (U 1)),(1,riO (.ofNat (pN+1)) (.ofNat 0) 1),(5,lO (qSL (l.map fS) (O 1)) (U 2))],[]⟩)
noncomputable def fC(w:World)(Z V:Bool)(pN:Nat)(l:List Nat):Prop:=∀(G:GP) (fr Z7 Z6 Z8 it L DL:Addr) (S PB:Addr) (ln:Nat) (y1 y2 y3 y4 y5 y6:Tok) (el:Nat) (z1 z2 z3 z4 z5 z6 z7 z8 z9 Z2:Tok) (w1 w2 w3 w4 w5 w6 w7 w8 w9 Z1:Value) (ef ep:Nat),Ok (W2 w Z V) 4 (nq (Pw w Z V) G fr Z7 Z6 Z8 it L DL S PB ln y1 y2 y3 y4 y5 y6 el z1 z2 z3 z4 z5 z6 z7 z8 z9 Z2 w1 w2 w3 w4 w5 w6 w7 w8 w9 Z1 ef ep pN l)
theorem kLc{D:Addr}{l':List Nat}{vq:Value}(hz:l=c::l')(hn:l.length=n)(hb:l.length<2^9)(hc:∀x∈l,x<2^9):
  Ok (W2 w Z V) 4 (lcA (Pw w Z V) G it Z9 D fa Z6 L DL S PB ln y1 y2 y3 y4 y5 y6 el 0 n [] e0 [] e1 (qSL (l.map fS) vq) ep n l):=by
 subst hz
 subst hn
 exact xw (by rw[List.length_cons]at hb ⊢;exact hb) c hc
noncomputable def qh(G:GP)(l s:Addr)(c:Nat)(xs:List Nat)(v:Value)(n:Nat)(t:Tok):ac:=cB "list.__getitem__" [.ref l,.ref s] [(l,some (lO (qIL xs v) n)),(s,some (m5 t))] G 1 0 λC _ _=>⟨.ok (.ret (.ref (C 0))),[],[some (lO [.int (.ofNat c) ((au v).headD 0)] 0)]⟩
theorem ty{l s:Addr}{xs xs':List Nat}(hz:xs=c::xs')(hb:xs.length<2^9):Ok w 1 (qh G l s c xs v n t):=by
 subst hz
 rw[List.length_cons]at hb
 exact By (by rw[az];lia)
noncomputable def lI(G:GP)(a:Addr)(l:List Nat)(v:Value)(e n:Nat):ac:=cB "len" [.ref a] [(a,some (lO (qIL l v) e))] G 0 1 λ_ U _=>rV (.int (.ofNat n) (U 0))
theorem nZ(hn:l.length=n)(hb:l.length<2^9):Ok w 1 (lI G a l v e n):=by
 have h:Ok w 1 (cx G a (qIL l v) e none ⟨[]⟩):=du (by rw[az];lia)
 unfold cx at h
 rw[az,hn]at h
 exact h
theorem n5{y:Value}(hb:l.length<2^9):Ok w 1 (hD G a b (qIL l v) [y] n m):=gZ (by rw[az];lia) (by show 1<2^20;decide)
noncomputable def fM(w:World)(Z V:Bool)(g gz:Nat)(a:Addr)(xs:List Value)(dd:Option Addr)(e:Nat)(sl:Array (Option Value)):SegIn × ((Nat→Addr)→(Nat→Tok)→(Nat→Value)→Nxt):=
 (⟨jf g gz a xs dd e sl,aa [a,146],pK xs dd e sl⟩,
  λC U O=>⟨(jY (Pw w Z V) g gz a (C 0) (C 1) (C 2) (C 3) (U 0) xs dd e sl).s,(jY (Pw w Z V) g gz a (C 0) (C 1) (C 2) (C 3) (U 0) xs dd e sl).objs⟩)
end
section
open PySem PySem.W PySem.W.X PySem.Builtin
noncomputable abbrev nE(g:Nat)(a:Addr)(xs:List Value)(dd:Option Addr)(e:Nat)(sl:Array (Option Value))(t0 t1 t2 t3:Int)(r0 s0 r1 s1 r2 s2 r3 s3 Zx:Nat)(w:World)(Z V:Bool)(fr Z7 Z6 Z8:Addr)(t:Tok)(x:List Nat)(sz:Nat)(tok:List Nat)(p0 d0 pz lz nc pN:Nat)(l0:List Nat)(zz:List It):List It:=
 .i [3,166,134]::.f [0] (λN=>fu (GN g) a xs dd e sl (t0,(t1,(t2,t3))))::.i (ub 5 0x8ba603a6a6)::.f [6] (λN=>na (GN g) (N.r 6) t0 t1 t2 t3 (N.t 0) (N.t 1) (N.t 2) (N.t 3) 0 [((.ofNat r0),(.ofNat s0)),((.ofNat r1),(.ofNat s1)),((.ofNat r2),(.ofNat s2)),((.ofNat r3),(.ofNat s3))])::.i (ub 8 0xaaaaaaaaaaa6a7a7)::.f [] (λN=>aZ (GN g) t3 65537 (N.t 3) (N.t 15) (.ofNat Zx))::.i (ub 36 0xb4abababa7a6a6a6a6b3b1b1b0b1b1b1b1b1b1b0b1b1b1b1b1b1b0b1b1b1b1b1b0b0b0b0)::.f [2,16,7,8,9,10,11] (λN=>mL (Pw w Z V) (GN g) fr Z7 Z6 Z8 (N.r 16) a (N.r 6) (N.r 7) t (N.t 4) (N.t 17) (N.t 18) Zx (N.t 16) [] (N.t 13) 4 0 (N.r 8) (N.r 9) (N.r 10) (N.r 11) r0 s0 r1 s1 r2 s2 r3 s3 (N.t 5) (N.t 6) (N.t 7) (N.t 8) (N.t 9) (N.t 10) (N.t 11) (N.t 12) x sz)::.i [3,166,151]::.f [1] (λN=>nQ (Pw w Z V) (GN g) x (N.t 20))::.i (ub 21 0x31b6b5313a3b3bb53a3b3bb53a3b3bb5a8a6a6a8a8)::.f [17,18,19,20,21,22,23,24,25,26] (λN=>gtS (Pw w Z V) (GN g) (N.r 17) (N.r 18) (N.r 19) (N.r 20) (N.r 21) (N.r 22) (N.r 23) (N.r 24) (N.r 25) (N.r 26) (N.r 27) (N.t 25) (λk=>N.z (k+5)) x (N.t 20) 0 (N.t 26) 0 1 (N.t 27) (N.t 28) (N.t 29) (N.t 30) (N.t 31) (N.t 32) (N.t 33) (N.t 34) (N.t 35) (N.t 36) (N.t 37) (N.z 23) (N.z 24) (N.z 25) 4 5 0 tok p0 (1+d0))::.i [166,166]::.f [2,28,4,17,18,19,20,21,22,23,24,25,26] (λN=>iE (Pw w Z V) (GN g) fr Z7 Z6 Z8 a (N.r 6) (N.r 28) (N.r 17) (N.r 18) (N.r 19) (N.r 20) (N.r 21) (N.r 22) (N.r 23) (N.r 24) (N.r 25) (N.r 26) (N.r 27) (N.t 25) (λk=>N.z (k+5)) x (N.t 20) p0 (N.t 43) (N.t 44) (1+d0) (N.t 27) (N.t 41) (N.t 29) (N.t 30) (N.t 31) (N.t 32) (N.t 33) (N.t 34) (N.t 35) (N.t 36) (N.t 37) (N.z 23) (N.z 24) (N.z 25) (N.t 42) 5 0 t (N.t 4) (N.t 17) (N.t 18) (N.t 21) (N.t 22) (N.t 23) (N.t 39) (N.t 45) (.int (.ofNat sz) (N.t 19)) (.str (mS x) (N.t 20)) (N.z 0) (N.z 1) (N.z 2) tok (N.t 40) (((N.t 24)+1)+1) 0 pz lz [(r0,s0),(r1,s1),(r2,s2),(r3,s3)])::.i (ub 5 0xc0abc0a7a6)::.f [28,7,29,8,30,9,31,10,32,11] (λN=>q5 (GN g) (N.r 28) (N.r 7) (N.t 49) 0 (N.r 29) (N.r 30) (N.r 31) (N.r 32) (N.r 8) (N.r 9) (N.r 10) (N.r 11) r0 s0 r1 s1 r2 s2 r3 s3 (N.t 54) (N.t 55) (N.t 5) (N.t 6) (N.t 56) (N.t 57) (N.t 7) (N.t 8) (N.t 58) (N.t 59) (N.t 9) (N.t 10) (N.t 60) (N.t 61) (N.t 11) (N.t 12))::.i (ub 14 0xa6b63bb5b53a3b3bb53a3b3bb5a8)::.f [] (λN=>ee (GN g) x [10] (N.t 20) (N.t 64) nc)::.n::.f [] (λN=>cNe (GN g) (.ofNat lz) (1+(.ofNat nc)) (N.t 50) (N.t 66) false)::.i [169,169]::.f [5,3,7,8,9,10,11] (λN=>mc (GN g) fr Z7 Z6 Z8 (N.r 7) (N.r 8) (N.r 9) (N.r 10) (N.r 11) 1 (N.t 67) 0 r0 s0 r1 s1 r2 s2 r3 s3 (N.t 5) (N.t 6) (N.t 7) (N.t 8) (N.t 9) (N.t 10) (N.t 11) (N.t 12) pN)::.i (ub 9 0xc5c5c5c5c5c5a90003)::.f [33] (λN=>aU (GN g) (N.r 33) pN (N.t 69) (N.t 71) (N.t 72))::.i [198]::.f [2,34,4,17,18,26] (λN=>nq (Pw w Z V) (GN g) fr Z7 Z6 Z8 (N.r 34) (N.r 17) (N.r 18) (N.r 19) (N.r 26) lz (N.t 27) (N.t 50) (N.t 29) (N.t 30) (N.t 31) (N.t 32) (N.t 51) t (N.t 4) (N.t 17) (N.t 18) (N.t 21) (N.t 22) (N.t 23) (N.t 39) (N.t 45) (N.t 47) (.ref a) (.ref (N.r 6)) (.int (.ofNat sz) (N.t 19)) (.str (mS x) (N.t 20)) (N.z 0) (N.z 1) (N.z 2) (.ref (N.r 28)) (.str (mS []) (N.t 46)) (N.z 29) (N.t 48) 0 pN l0)::.i (ub 8 0xc7c0c0c0a6a6a6a9)::zz
noncomputable abbrev nD(g:Nat)(a:Addr)(xs:List Value)(dd:Option Addr)(e:Nat)(sl:Array (Option Value))(t0 t1 t2 t3:Int)(r0 s0 r1 s1 r2 s2 Zx:Nat)(w:World)(Z V:Bool)(fr Z7 Z6 Z8:Addr)(t:Tok)(x:List Nat)(sz:Nat)(tok:List Nat)(p0 d0 pz lz nc pN:Nat)(l0:List Nat)(zz:List It):List It:=
 .i [3,166,134]::.f [0] (λN=>fu (GN g) a xs dd e sl (t0,(t1,(t2,t3))))::.i (ub 5 0x8ba603a6a6)::.f [6] (λN=>na (GN g) (N.r 6) t0 t1 t2 t3 (N.t 0) (N.t 1) (N.t 2) (N.t 3) 0 [((.ofNat r0),(.ofNat s0)),((.ofNat r1),(.ofNat s1)),((.ofNat r2),(.ofNat s2))])::.i (ub 8 0xaaaaaaaaaaa6a7a7)::.f [] (λN=>aZ (GN g) t3 65537 (N.t 3) (N.t 13) (.ofNat Zx))::.i (ub 36 0xb3abababa7a6a6a6a6b2b0b0afb0b0b0b0b0b0afb0b0b0b0b0b0afb0b0b0b0b0afafafaf)::.f [2,15,7,8,9,10] (λN=>mM (Pw w Z V) (GN g) fr Z7 Z6 Z8 (N.r 15) a (N.r 6) (N.r 7) t (N.t 4) (N.t 15) (N.t 16) Zx (N.t 14) [] (N.t 11) 4 0 (N.r 8) (N.r 9) (N.r 10) r0 s0 r1 s1 r2 s2 (N.t 5) (N.t 6) (N.t 7) (N.t 8) (N.t 9) (N.t 10) x sz)::.i [3,166,151]::.f [1] (λN=>nQ (Pw w Z V) (GN g) x (N.t 18))::.i (ub 21 0x31b5b4313a3b3bb43a3b3bb43a3b3bb4a8a6a6a8a8)::.f [16,17,18,19,20,21,22,23,24,25] (λN=>gtS (Pw w Z V) (GN g) (N.r 16) (N.r 17) (N.r 18) (N.r 19) (N.r 20) (N.r 21) (N.r 22) (N.r 23) (N.r 24) (N.r 25) (N.r 26) (N.t 23) (λk=>N.z (k+5)) x (N.t 18) 0 (N.t 24) 0 1 (N.t 25) (N.t 26) (N.t 27) (N.t 28) (N.t 29) (N.t 30) (N.t 31) (N.t 32) (N.t 33) (N.t 34) (N.t 35) (N.z 23) (N.z 24) (N.z 25) 4 5 0 tok p0 (1+d0))::.i [166,166]::.f [2,27,4,16,17,18,19,20,21,22,23,24,25] (λN=>iE (Pw w Z V) (GN g) fr Z7 Z6 Z8 a (N.r 6) (N.r 27) (N.r 16) (N.r 17) (N.r 18) (N.r 19) (N.r 20) (N.r 21) (N.r 22) (N.r 23) (N.r 24) (N.r 25) (N.r 26) (N.t 23) (λk=>N.z (k+5)) x (N.t 18) p0 (N.t 41) (N.t 42) (1+d0) (N.t 25) (N.t 39) (N.t 27) (N.t 28) (N.t 29) (N.t 30) (N.t 31) (N.t 32) (N.t 33) (N.t 34) (N.t 35) (N.z 23) (N.z 24) (N.z 25) (N.t 40) 5 0 t (N.t 4) (N.t 15) (N.t 16) (N.t 19) (N.t 20) (N.t 21) (N.t 37) (N.t 43) (.int (.ofNat sz) (N.t 17)) (.str (mS x) (N.t 18)) (N.z 0) (N.z 1) (N.z 2) tok (N.t 38) (((N.t 22)+1)+1) 0 pz lz [(r0,s0),(r1,s1),(r2,s2)])::.i (ub 5 0xbfabbfa7a6)::.f [27,7,28,8,29,9,30,10] (λN=>q6 (GN g) (N.r 27) (N.r 7) (N.t 47) 0 (N.r 28) (N.r 29) (N.r 30) (N.r 8) (N.r 9) (N.r 10) r0 s0 r1 s1 r2 s2 (N.t 52) (N.t 53) (N.t 5) (N.t 6) (N.t 54) (N.t 55) (N.t 7) (N.t 8) (N.t 56) (N.t 57) (N.t 9) (N.t 10))::.i (ub 14 0xa6b53bb4b43a3b3bb43a3b3bb4a8)::.f [] (λN=>ee (GN g) x [10] (N.t 18) (N.t 60) nc)::.n::.f [] (λN=>cNe (GN g) (.ofNat lz) (1+(.ofNat nc)) (N.t 48) (N.t 62) false)::.i [169,169]::.f [5,3,7,8,9,10] (λN=>me (GN g) fr Z7 Z6 Z8 (N.r 7) (N.r 8) (N.r 9) (N.r 10) 1 (N.t 63) 0 r0 s0 r1 s1 r2 s2 (N.t 5) (N.t 6) (N.t 7) (N.t 8) (N.t 9) (N.t 10) pN)::.i (ub 9 0xc3c3c3c3c3c3a90003)::.f [31] (λN=>aU (GN g) (N.r 31) pN (N.t 65) (N.t 67) (N.t 68))::.i [196]::.f [2,32,4,16,17,25] (λN=>nq (Pw w Z V) (GN g) fr Z7 Z6 Z8 (N.r 32) (N.r 16) (N.r 17) (N.r 18) (N.r 25) lz (N.t 25) (N.t 48) (N.t 27) (N.t 28) (N.t 29) (N.t 30) (N.t 49) t (N.t 4) (N.t 15) (N.t 16) (N.t 19) (N.t 20) (N.t 21) (N.t 37) (N.t 43) (N.t 45) (.ref a) (.ref (N.r 6)) (.int (.ofNat sz) (N.t 17)) (.str (mS x) (N.t 18)) (N.z 0) (N.z 1) (N.z 2) (.ref (N.r 27)) (.str (mS []) (N.t 44)) (N.z 29) (N.t 46) 0 pN l0)::.i (ub 8 0xc5bfbfbfa6a6a6a9)::zz
noncomputable abbrev nC(g:Nat)(a:Addr)(xs:List Value)(dd:Option Addr)(e:Nat)(sl:Array (Option Value))(t0 t1 t2 t3:Int)(r0 s0 r1 s1 Zx:Nat)(w:World)(Z V:Bool)(fr Z7 Z6 Z8:Addr)(t:Tok)(x:List Nat)(sz:Nat)(tok:List Nat)(p0 d0 pz lz nc pN:Nat)(l0:List Nat)(zz:List It):List It:=
 .i [3,166,134]::.f [0] (λN=>fu (GN g) a xs dd e sl (t0,(t1,(t2,t3))))::.i (ub 5 0x8ba603a6a6)::.f [6] (λN=>na (GN g) (N.r 6) t0 t1 t2 t3 (N.t 0) (N.t 1) (N.t 2) (N.t 3) 0 [((.ofNat r0),(.ofNat s0)),((.ofNat r1),(.ofNat s1))])::.i (ub 8 0xaaaaaaaaaaa6a7a7)::.f [] (λN=>aZ (GN g) t3 65537 (N.t 3) (N.t 11) (.ofNat Zx))::.i (ub 36 0xb2abababa7a6a6a6a6b1afafaeafafafafafafaeafafafafafafaeafafafafafaeaeaeae)::.f [2,14,7,8,9] (λN=>mN (Pw w Z V) (GN g) fr Z7 Z6 Z8 (N.r 14) a (N.r 6) (N.r 7) t (N.t 4) (N.t 13) (N.t 14) Zx (N.t 12) [] (N.t 9) 4 0 (N.r 8) (N.r 9) r0 s0 r1 s1 (N.t 5) (N.t 6) (N.t 7) (N.t 8) x sz)::.i [3,166,151]::.f [1] (λN=>nQ (Pw w Z V) (GN g) x (N.t 16))::.i (ub 21 0x31b4b3313a3b3bb33a3b3bb33a3b3bb3a8a6a6a8a8)::.f [15,16,17,18,19,20,21,22,23,24] (λN=>gtS (Pw w Z V) (GN g) (N.r 15) (N.r 16) (N.r 17) (N.r 18) (N.r 19) (N.r 20) (N.r 21) (N.r 22) (N.r 23) (N.r 24) (N.r 25) (N.t 21) (λk=>N.z (k+5)) x (N.t 16) 0 (N.t 22) 0 1 (N.t 23) (N.t 24) (N.t 25) (N.t 26) (N.t 27) (N.t 28) (N.t 29) (N.t 30) (N.t 31) (N.t 32) (N.t 33) (N.z 23) (N.z 24) (N.z 25) 4 5 0 tok p0 (1+d0))::.i [166,166]::.f [2,26,4,15,16,17,18,19,20,21,22,23,24] (λN=>iE (Pw w Z V) (GN g) fr Z7 Z6 Z8 a (N.r 6) (N.r 26) (N.r 15) (N.r 16) (N.r 17) (N.r 18) (N.r 19) (N.r 20) (N.r 21) (N.r 22) (N.r 23) (N.r 24) (N.r 25) (N.t 21) (λk=>N.z (k+5)) x (N.t 16) p0 (N.t 39) (N.t 40) (1+d0) (N.t 23) (N.t 37) (N.t 25) (N.t 26) (N.t 27) (N.t 28) (N.t 29) (N.t 30) (N.t 31) (N.t 32) (N.t 33) (N.z 23) (N.z 24) (N.z 25) (N.t 38) 5 0 t (N.t 4) (N.t 13) (N.t 14) (N.t 17) (N.t 18) (N.t 19) (N.t 35) (N.t 41) (.int (.ofNat sz) (N.t 15)) (.str (mS x) (N.t 16)) (N.z 0) (N.z 1) (N.z 2) tok (N.t 36) (((N.t 20)+1)+1) 0 pz lz [(r0,s0),(r1,s1)])::.i (ub 5 0xbeabbea7a6)::.f [26,7,27,8,28,9] (λN=>q7 (GN g) (N.r 26) (N.r 7) (N.t 45) 0 (N.r 27) (N.r 28) (N.r 8) (N.r 9) r0 s0 r1 s1 (N.t 50) (N.t 51) (N.t 5) (N.t 6) (N.t 52) (N.t 53) (N.t 7) (N.t 8))::.i (ub 14 0xa6b43bb3b33a3b3bb33a3b3bb3a8)::.f [] (λN=>ee (GN g) x [10] (N.t 16) (N.t 56) nc)::.n::.f [] (λN=>cNe (GN g) (.ofNat lz) (1+(.ofNat nc)) (N.t 46) (N.t 58) false)::.i [169,169]::.f [5,3,7,8,9] (λN=>mh (GN g) fr Z7 Z6 Z8 (N.r 7) (N.r 8) (N.r 9) 1 (N.t 59) 0 r0 s0 r1 s1 (N.t 5) (N.t 6) (N.t 7) (N.t 8) pN)::.i (ub 9 0xc1c1c1c1c1c1a90003)::.f [29] (λN=>aU (GN g) (N.r 29) pN (N.t 61) (N.t 63) (N.t 64))::.i [194]::.f [2,30,4,15,16,24] (λN=>nq (Pw w Z V) (GN g) fr Z7 Z6 Z8 (N.r 30) (N.r 15) (N.r 16) (N.r 17) (N.r 24) lz (N.t 23) (N.t 46) (N.t 25) (N.t 26) (N.t 27) (N.t 28) (N.t 47) t (N.t 4) (N.t 13) (N.t 14) (N.t 17) (N.t 18) (N.t 19) (N.t 35) (N.t 41) (N.t 43) (.ref a) (.ref (N.r 6)) (.int (.ofNat sz) (N.t 15)) (.str (mS x) (N.t 16)) (N.z 0) (N.z 1) (N.z 2) (.ref (N.r 26)) (.str (mS []) (N.t 42)) (N.z 29) (N.t 44) 0 pN l0)::.i (ub 8 0xc3bebebea6a6a6a9)::zz
theorem tv{w:World}{Z V:Bool}{g gz:Nat}{a:Addr}{xs:List Value}{dd:Option Addr}{e:Nat}{sl:Array (Option Value)}(nx:∀C U O,Ok (W2 w Z V) 10 ((fM w Z V g gz a xs dd e sl).2 C U O).s):Ok (W2 w Z V) 10 (fM w Z V g gz a xs dd e sl).1.s:=
 qy (fM w Z V g gz a xs dd e sl).1 (fM w Z V g gz a xs dd e sl).2 [2,3,4,5] (λN=>[(N.t 0)]) (λN=>[]) 13
  (.i (ub 5 0x2a6a6a2a3)::[])
  (λρ τ ζ=>by kernel_rfl)
  (λN=>trivial) nx (λN C U O=>by refine⟨?_,?_,trivial⟩<;>first | exact Or.inl rfl | exact Or.inr rfl) (ex:=qK (Pw w Z V))
section
variable{w:World}{Z V:Bool}{g:Nat}{a fr Z8 Z6 Z7:Addr}{t:Tok}{xs:List Value}{dd:Option Addr}{e:Nat}{sl:Array (Option Value)}{t0 t1 t2 t3:Int}{r0 s0 r1 s1 Zx sz:Nat}{x:List Nat}{d0 p0 pz lz nc pe:Nat}{tok:List Nat}{pN:Nat}{l0:List Nat}{nf nz c:Nat}{l ls:List Nat}{r2 s2 r3 s3:Nat}
theorem Bw(hT:dU w Z V xs (t0,t1,t2,t3))(hR:dW w Z V t0 t1 t2 t3 [(.ofNat r0,.ofNat s0),(.ofNat r1,.ofNat s1)])(hS:Int.fmod t3 (.ofNat 65537)=.ofNat Zx)(hW:lP w Z V Zx r0 s0 r1 s1 x sz)(hG:bo w Z V x 0 d0 tok p0)(hL:oW w Z V x p0 (1+d0) tok r0 s0 r1 s1 pz lz)(hC:aG x [10]=nc)(Zz:((.ofNat lz:Int) !=1+.ofNat nc)=false)(hP:lV w Z V r0 s0 r1 s1 pN)(hPl:fC w Z V pN l0)(hpN:pN<2^9)(hM:lS w Z V r0 s0 r1 s1 pN l0 nz ls)(hz:ls=c::l)(hn:ls.length=nz)(hb:ls.length<2^9)(hc:∀x∈ls,x<2^9)(hgl:rd w Z V nz ls (c+pN))(hF:lZ w Z V r0 s0 r1 s1 pN nf ls)(hE:bo w Z V x pz 0 [] pe):Ok (W2 w Z V) 10 ((jY (Pw w Z V) g (g+2) a fr Z8 Z6 Z7 t xs dd e sl).s):=
 fD (laT (an fr Z7 Z6 Z8)) (eZ (an fr Z7 Z6 Z8)) [] 509 (λN=>[t,(N.t 4),(N.t 13),(N.t 14),(N.t 17),(N.t 18),(N.t 19),(N.t 35),(N.t 41),(N.t 43),(N.t 65),(N.t 68),(N.t 70),(N.t 71),(N.t 72),(N.t 81),(N.t 87),(N.t 91)]) (λN=>[(N.z 26),(N.z 27),(N.z 28),(.ref a),(.ref (N.r 6)),(.int (.ofNat sz) (N.t 15)),(.str (mS x) (N.t 16)),(N.z 32),(N.z 33),(N.z 2),(.ref (N.r 26)),(N.z 34),(N.z 29),(N.z 30),(.int (.ofNat nz) (N.t 69)),(N.z 35),(N.z 36),(N.z 46),(.ref (N.r 34)),(.ref (N.r 41)),(.ref (N.r 7)),(.ref (N.r 15)),(.int (.ofNat pN) (N.t 60))])
 (nC g a xs dd e sl t0 t1 t2 t3 r0 s0 r1 s1 Zx w Z V fr Z7 Z6 Z8 t x sz tok p0 d0 pz lz nc pN l0 (.f [2,31,26,27,28,5,4,15,16,24] (λN=>ru (Pw w Z V) g fr Z7 Z6 Z8 (N.r 31) (N.r 26) (N.r 15) (N.r 16) (N.r 17) (N.r 24) lz (N.t 23) (N.t 46) (N.t 25) (N.t 26) (N.t 27) (N.t 28) (N.t 47) t (N.t 4) (N.t 13) (N.t 14) (N.t 17) (N.t 18) (N.t 19) (N.t 35) (N.t 41) (N.t 43) (.ref a) (.ref (N.r 6)) (.int (.ofNat sz) (N.t 15)) (.str (mS x) (N.t 16)) (N.z 0) (N.z 1) (N.z 2) (.str (mS []) (N.t 42)) (N.z 29) (N.r 27) (N.r 28) r0 s0 r1 s1 (N.t 50) (N.t 51) (N.t 52) (N.t 53) (N.t 65) (N.t 68) (N.z 30) pN (N.t 60) (N.t 60) ((N.t 66)+1) (N.t 45) l0 (N.z 31) (N.t 67) nz ls)::.i (ub 9 0xc4c4c4c4c4c4a60003)::.f [32] (λN=>ak (GN (g+2)) (N.r 32) nz (N.t 75) (N.t 69) (N.t 76))::.i [197]::.f [33,34,35,4,15,16,24] (λN=>lcA (Pw w Z V) (GN (g+2)) (N.r 33) (N.r 34) (N.r 35) fr Z6 (N.r 15) (N.r 16) (N.r 17) (N.r 24) lz (N.t 23) (N.t 46) (N.t 25) (N.t 26) (N.t 27) (N.t 28) (N.t 47) 0 nz [] 0 [] 0 (qSL (ls.map fS) (N.z 40)) (N.t 74) nz ls)::.i (ub 10 0xc6c6c6a6a6c7c7c7a6a6)::.f [34,36] (λN=>qh (GN (g+2)) (N.r 34) (N.r 36) c ls (N.z 41) (N.t 77) (N.t 82))::.i (ub 4 0xcac9c9c9)::.f [38,39,40,5,37] (λN=>SegIn.s (eS w false V (GN (g+2)) (N.r 38) (N.r 39) (N.r 40) fr Z7 (N.r 37) c (@List.headD.{0} Nat (au (N.z 41)) 0) pN (N.t 60) 0 0 0))::.i (ub 6 0xc6cbc6cccccc)::.f [34,39] (λN=>hD (GN (g+2)) (N.r 34) (N.r 39) (qIL ls (N.z 41)) [(.int (.ofNat (c+pN)) (N.t 83))] (N.t 77) (N.t 84))::.i (ub 7 0xa600030003a6a6)::.f [34] (λN=>lI (GN (g+2)) (N.r 34) ls (N.z 41) (N.t 77) nz)::.i (ub 6 0xcececececece)::.f [42] (λN=>ak (GN (g+2)) (N.r 42) nz (N.t 89) (N.t 88) (N.t 90))::.i [207]::.f [2,43,41,3,7] (λN=>j7 (Pw w Z V) (GN (g+2)) fr Z7 Z6 Z8 (N.r 43) (N.r 41) (N.r 7) (N.r 8) (N.r 9) t (N.t 4) (N.t 13) (N.t 14) (N.t 17) (N.t 18) (N.t 19) (N.t 35) (N.t 41) (N.t 43) (N.t 65) (N.t 68) (N.t 70) (N.t 71) (N.t 72) (N.t 81) (N.t 87) (.ref a) (.ref (N.r 6)) (.int (.ofNat sz) (N.t 15)) (.str (mS x) (N.t 16)) (N.z 32) (N.z 33) (N.z 2) (.ref (N.r 26)) (N.z 34) (N.z 29) (N.z 30) (.int (.ofNat nz) (N.t 69)) (N.z 35) (N.z 36) (.ref (N.r 34)) (N.z 37) (((N.t 73)+1)+1) 0 nz ((qIL ls (N.z 41))++[(.int (.ofNat (c+pN)) (N.t 83))]) 0 0 nz)::.i (ub 10 0xd0d0d0d0d0d0a90003a6)::.f [44] (λN=>aU (GN (g+2)) (N.r 44) pN (N.t 92) (N.t 94) (N.t 95))::.i [209]::.f [45,46,47,48,3,7,8,9] (λN=>oE (GN (g+2)) (N.r 45) (N.r 46) (N.r 47) fr (N.r 48) Z8 (N.r 7) (N.r 8) (N.r 9) 1 pN [] 0 0 none 0 r0 s0 r1 s1 (N.t 5) (N.t 6) (N.t 7) (N.t 8) nf ls)::.i [198,210,198]::.f [34,46] (λN=>qm (GN (g+2)) (N.r 34) (N.r 46) ls (N.z 41) (N.z 47) (N.t 77) (N.t 96))::.i (ub 17 0x31b4b3313a3b3bb33a3b3bb33a3b3bb3a8)::.f [15,16,17,18,19,20,21,22,23,24] (λN=>gtS (Pw w Z V) (GN (g+2)) (N.r 15) (N.r 16) (N.r 17) (N.r 18) (N.r 19) (N.r 20) (N.r 21) (N.r 22) (N.r 23) (N.r 24) (N.r 25) (N.t 21) (λk=>N.z (k+5)) x (N.t 16) pz (N.t 48) (N.t 49) lz (N.t 23) (N.t 46) (N.t 25) (N.t 26) (N.t 27) (N.t 28) (N.t 29) (N.t 30) (N.t 31) (N.t 32) (N.t 33) (N.z 23) (N.z 24) (N.z 25) (N.t 47) 5 (N.t 80) [] pe (lz+0))::[]))
 (sE (sg1 (by kernel_rfl)) Z) (λN=>⟨okU (by apply hT),okU (by apply hR),okU (aH hS),okU (by apply hW),okU (mx),okU (by apply hG),okU (by apply hL),okU (qO),okU (aK hC),okU (kNe Zz),okU (by apply hP),okU (aO),okU (by apply hPl),okU (by apply hM),okU (ap),okU (kLc hz hn hb hc),okU (ty hz hb),okU (xc1),okU (n5 hb),okU (nZ hn hb),okU (ap),okU (by apply hgl),okU (aO),okU (by apply hF),okU (pS),okU (by apply hE),trivial⟩)
theorem Bx(hT:dU w Z V xs (t0,t1,t2,t3))(hR:dW w Z V t0 t1 t2 t3 [(.ofNat r0,.ofNat s0),(.ofNat r1,.ofNat s1)])(hS:Int.fmod t3 (.ofNat 65537)=.ofNat Zx)(hW:lP w Z V Zx r0 s0 r1 s1 x sz)(hG:bo w Z V x 0 d0 tok p0)(hL:oW w Z V x p0 (1+d0) tok r0 s0 r1 s1 pz lz)(hC:aG x [10]=nc)(Zz:((.ofNat lz:Int) !=1+.ofNat nc)=false)(hP:lV w Z V r0 s0 r1 s1 pN)(hPl:fC w Z V pN l0)(hpN:pN<2^9)(hM:lS w Z V r0 s0 r1 s1 pN l0 0 [])(hF:lZ w Z V r0 s0 r1 s1 pN nf [])(hE:bo w Z V x pz 0 [] pe):Ok (W2 w Z V) 10 ((jY (Pw w Z V) g (g+2) a fr Z8 Z6 Z7 t xs dd e sl).s):=
 fD (laT (an fr Z7 Z6 Z8)) (eZ (an fr Z7 Z6 Z8)) [] 501 (λN=>[t,(N.t 4),(N.t 13),(N.t 14),(N.t 17),(N.t 18),(N.t 19),(N.t 35),(N.t 41),(N.t 43),(N.t 65),(N.t 68),(N.t 70),(N.t 71),(N.t 72),(N.t 77),(N.t 79),(N.t 83)]) (λN=>[(N.z 26),(N.z 27),(N.z 28),(.ref a),(.ref (N.r 6)),(.int (.ofNat sz) (N.t 15)),(.str (mS x) (N.t 16)),(N.z 32),(N.z 33),(N.z 2),(.ref (N.r 26)),(N.z 34),(N.z 29),(N.z 30),(.int 0 (N.t 69)),(N.z 35),(N.z 36),(N.z 43),(.ref (N.r 34)),(.ref (N.r 41)),(.ref (N.r 7)),(.ref (N.r 15)),(.int (.ofNat pN) (N.t 60))])
 (nC g a xs dd e sl t0 t1 t2 t3 r0 s0 r1 s1 Zx w Z V fr Z7 Z6 Z8 t x sz tok p0 d0 pz lz nc pN l0 (.f [2,31,26,27,28,5,4,15,16,24] (λN=>zg (Pw w Z V) r0 s0 r1 s1 pN l0 g fr Z7 Z6 Z8 (N.r 31) (N.r 26) (N.r 15) (N.r 16) (N.r 17) (N.r 24) lz (N.t 23) (N.t 46) (N.t 25) (N.t 26) (N.t 27) (N.t 28) (N.t 47) t (N.t 4) (N.t 13) (N.t 14) (N.t 17) (N.t 18) (N.t 19) (N.t 35) (N.t 41) (N.t 43) (.ref a) (.ref (N.r 6)) (.int (.ofNat sz) (N.t 15)) (.str (mS x) (N.t 16)) (N.z 0) (N.z 1) (N.z 2) (.str (mS []) (N.t 42)) (N.z 29) (N.r 27) (N.r 28) (N.t 50) (N.t 51) (N.t 52) (N.t 53) (N.t 65) (N.t 68) (N.z 30) (N.t 60) (N.t 60) ((N.t 66)+1) (N.t 45) (N.z 31) (N.t 67))::.i (ub 9 0xc4c4c4c4c4c4a60003)::.f [32] (λN=>ak (GN (g+2)) (N.r 32) 0 (N.t 75) (N.t 69) (N.t 76))::.i [197]::.f [33,34,35,4] (λN=>SegIn.s (dE w false V (GN (g+2)) (N.r 33) (N.r 34) (N.r 35) fr Z6 (N.r 15) 0 0))::.i (ub 8 0xc6c6c6a6a6c7a6a6)::.f [34,36] (λN=>ql (GN (g+2)) (N.r 34) (N.r 36) 0 (N.t 78))::.i (ub 4 0xcac9c9c9)::.f [38,39,40,5,37] (λN=>SegIn.s (eT w false V (GN (g+2)) (N.r 38) (N.r 39) (N.r 40) fr Z7 (N.r 37) pN (N.t 60) 0 0 0))::.i (ub 4 0xc6cbc6cc)::.f [34,39] (λN=>hD (GN (g+2)) (N.r 34) (N.r 39) [] [] 0 0)::.i (ub 7 0xa600030003a6a6)::.f [34] (λN=>cx (GN (g+2)) (N.r 34) [] 0 none (mA []))::.i (ub 6 0xcececececece)::.f [42] (λN=>ak (GN (g+2)) (N.r 42) 0 (N.t 81) (N.t 80) (N.t 82))::.i [207]::.f [2,43,41,3,7] (λN=>j7 (Pw w Z V) (GN (g+2)) fr Z7 Z6 Z8 (N.r 43) (N.r 41) (N.r 7) (N.r 8) (N.r 9) t (N.t 4) (N.t 13) (N.t 14) (N.t 17) (N.t 18) (N.t 19) (N.t 35) (N.t 41) (N.t 43) (N.t 65) (N.t 68) (N.t 70) (N.t 71) (N.t 72) (N.t 77) (N.t 79) (.ref a) (.ref (N.r 6)) (.int (.ofNat sz) (N.t 15)) (.str (mS x) (N.t 16)) (N.z 32) (N.z 33) (N.z 2) (.ref (N.r 26)) (N.z 34) (N.z 29) (N.z 30) (.int 0 (N.t 69)) (N.z 35) (N.z 36) (.ref (N.r 34)) (N.z 37) (((N.t 73)+1)+1) 0 0 [] 0 0 0)::.i (ub 10 0xd0d0d0d0d0d0a90003a6)::.f [44] (λN=>aU (GN (g+2)) (N.r 44) pN (N.t 84) (N.t 86) (N.t 87))::.i [209]::.f [45,46,47,48,3,7,8,9] (λN=>oE (GN (g+2)) (N.r 45) (N.r 46) (N.r 47) fr (N.r 48) Z8 (N.r 7) (N.r 8) (N.r 9) 1 pN [] 0 0 none 0 r0 s0 r1 s1 (N.t 5) (N.t 6) (N.t 7) (N.t 8) nf [])::.i [198,210,198]::.f [34,46] (λN=>qn (GN (g+2)) (N.r 34) (N.r 46) 0 (N.t 88))::.i (ub 17 0x31b4b3313a3b3bb33a3b3bb33a3b3bb3a8)::.f [15,16,17,18,19,20,21,22,23,24] (λN=>gtS (Pw w Z V) (GN (g+2)) (N.r 15) (N.r 16) (N.r 17) (N.r 18) (N.r 19) (N.r 20) (N.r 21) (N.r 22) (N.r 23) (N.r 24) (N.r 25) (N.t 21) (λk=>N.z (k+5)) x (N.t 16) pz (N.t 48) (N.t 49) lz (N.t 23) (N.t 46) (N.t 25) (N.t 26) (N.t 27) (N.t 28) (N.t 29) (N.t 30) (N.t 31) (N.t 32) (N.t 33) (N.z 23) (N.z 24) (N.z 25) (N.t 47) 5 (N.t 74) [] pe (lz+0))::[]))
 (sE (sg1 (by kernel_rfl)) Z) (λN=>⟨okU (by apply hT),okU (by apply hR),okU (aH hS),okU (by apply hW),okU (mx),okU (by apply hG),okU (by apply hL),okU (qO),okU (aK hC),okU (kNe Zz),okU (by apply hP),okU (aO),okU (by apply hPl),okU (by apply hM),okU (ap),okU (tE),okU (tz),okU (xc0),okU (gZ),okU (du),okU (ap),okU (xQ),okU (aO),okU (by apply hF),okU (tD),okU (by apply hE),trivial⟩)
theorem Bu(hT:dU w Z V xs (t0,t1,t2,t3))(hR:dW w Z V t0 t1 t2 t3 [(.ofNat r0,.ofNat s0),(.ofNat r1,.ofNat s1),(.ofNat r2,.ofNat s2)])(hS:Int.fmod t3 (.ofNat 65537)=.ofNat Zx)(hW:lN w Z V Zx r0 s0 r1 s1 r2 s2 x sz)(hG:bo w Z V x 0 d0 tok p0)(hL:oV w Z V x p0 (1+d0) tok r0 s0 r1 s1 r2 s2 pz lz)(hC:aG x [10]=nc)(Zz:((.ofNat lz:Int) !=1+.ofNat nc)=false)(hP:lU w Z V r0 s0 r1 s1 r2 s2 pN)(hPl:fC w Z V pN l0)(hpN:pN<2^9)(hM:lR w Z V r0 s0 r1 s1 r2 s2 pN l0 nz ls)(hz:ls=c::l)(hn:ls.length=nz)(hb:ls.length<2^9)(hc:∀x∈ls,x<2^9)(hgl:rc w Z V nz ls (c+pN))(hF:lY w Z V r0 s0 r1 s1 r2 s2 pN nf ls)(hE:bo w Z V x pz 0 [] pe):Ok (W2 w Z V) 10 ((jY (Pw w Z V) g (g+3) a fr Z8 Z6 Z7 t xs dd e sl).s):=
 fD (laT (an fr Z7 Z6 Z8)) (eZ (an fr Z7 Z6 Z8)) [] 509 (λN=>[t,(N.t 4),(N.t 15),(N.t 16),(N.t 19),(N.t 20),(N.t 21),(N.t 37),(N.t 43),(N.t 45),(N.t 69),(N.t 72),(N.t 74),(N.t 75),(N.t 76),(N.t 85),(N.t 91),(N.t 95)]) (λN=>[(N.z 26),(N.z 27),(N.z 28),(.ref a),(.ref (N.r 6)),(.int (.ofNat sz) (N.t 17)),(.str (mS x) (N.t 18)),(N.z 32),(N.z 33),(N.z 2),(.ref (N.r 27)),(N.z 34),(N.z 29),(N.z 30),(.int (.ofNat nz) (N.t 73)),(N.z 35),(N.z 36),(N.z 46),(.ref (N.r 36)),(.ref (N.r 43)),(.ref (N.r 7)),(.ref (N.r 16)),(.int (.ofNat pN) (N.t 64))])
 (nD g a xs dd e sl t0 t1 t2 t3 r0 s0 r1 s1 r2 s2 Zx w Z V fr Z7 Z6 Z8 t x sz tok p0 d0 pz lz nc pN l0 (.f [2,33,27,28,29,30,5,4,16,17,25] (λN=>rt (Pw w Z V) g fr Z7 Z6 Z8 (N.r 33) (N.r 27) (N.r 16) (N.r 17) (N.r 18) (N.r 25) lz (N.t 25) (N.t 48) (N.t 27) (N.t 28) (N.t 29) (N.t 30) (N.t 49) t (N.t 4) (N.t 15) (N.t 16) (N.t 19) (N.t 20) (N.t 21) (N.t 37) (N.t 43) (N.t 45) (.ref a) (.ref (N.r 6)) (.int (.ofNat sz) (N.t 17)) (.str (mS x) (N.t 18)) (N.z 0) (N.z 1) (N.z 2) (.str (mS []) (N.t 44)) (N.z 29) (N.r 28) (N.r 29) (N.r 30) r0 s0 r1 s1 r2 s2 (N.t 52) (N.t 53) (N.t 54) (N.t 55) (N.t 56) (N.t 57) (N.t 69) (N.t 72) (N.z 30) pN (N.t 64) (N.t 64) ((N.t 70)+1) (N.t 47) l0 (N.z 31) (N.t 71) nz ls)::.i (ub 9 0xc6c6c6c6c6c6a60003)::.f [34] (λN=>ak (GN (g+3)) (N.r 34) nz (N.t 79) (N.t 73) (N.t 80))::.i [199]::.f [35,36,37,4,16,17,25] (λN=>lcA (Pw w Z V) (GN (g+3)) (N.r 35) (N.r 36) (N.r 37) fr Z6 (N.r 16) (N.r 17) (N.r 18) (N.r 25) lz (N.t 25) (N.t 48) (N.t 27) (N.t 28) (N.t 29) (N.t 30) (N.t 49) 0 nz [] 0 [] 0 (qSL (ls.map fS) (N.z 40)) (N.t 78) nz ls)::.i (ub 10 0xc8c8c8a6a6c9c9c9a6a6)::.f [36,38] (λN=>qh (GN (g+3)) (N.r 36) (N.r 38) c ls (N.z 41) (N.t 81) (N.t 86))::.i (ub 4 0xcccbcbcb)::.f [40,41,42,5,39] (λN=>SegIn.s (eS w false V (GN (g+3)) (N.r 40) (N.r 41) (N.r 42) fr Z7 (N.r 39) c (@List.headD.{0} Nat (au (N.z 41)) 0) pN (N.t 64) 0 0 0))::.i (ub 6 0xc8cdc8cecece)::.f [36,41] (λN=>hD (GN (g+3)) (N.r 36) (N.r 41) (qIL ls (N.z 41)) [(.int (.ofNat (c+pN)) (N.t 87))] (N.t 81) (N.t 88))::.i (ub 7 0xa600030003a6a6)::.f [36] (λN=>lI (GN (g+3)) (N.r 36) ls (N.z 41) (N.t 81) nz)::.i (ub 6 0xd0d0d0d0d0d0)::.f [44] (λN=>ak (GN (g+3)) (N.r 44) nz (N.t 93) (N.t 92) (N.t 94))::.i [209]::.f [2,45,43,3,7] (λN=>j6 (Pw w Z V) (GN (g+3)) fr Z7 Z6 Z8 (N.r 45) (N.r 43) (N.r 7) (N.r 8) (N.r 9) (N.r 10) t (N.t 4) (N.t 15) (N.t 16) (N.t 19) (N.t 20) (N.t 21) (N.t 37) (N.t 43) (N.t 45) (N.t 69) (N.t 72) (N.t 74) (N.t 75) (N.t 76) (N.t 85) (N.t 91) (.ref a) (.ref (N.r 6)) (.int (.ofNat sz) (N.t 17)) (.str (mS x) (N.t 18)) (N.z 32) (N.z 33) (N.z 2) (.ref (N.r 27)) (N.z 34) (N.z 29) (N.z 30) (.int (.ofNat nz) (N.t 73)) (N.z 35) (N.z 36) (.ref (N.r 36)) (N.z 37) (((N.t 77)+1)+1) 0 nz ((qIL ls (N.z 41))++[(.int (.ofNat (c+pN)) (N.t 87))]) 0 0 nz)::.i (ub 10 0xd2d2d2d2d2d2a90003a6)::.f [46] (λN=>aU (GN (g+3)) (N.r 46) pN (N.t 96) (N.t 98) (N.t 99))::.i [211]::.f [47,48,49,50,3,7,8,9,10] (λN=>oD (GN (g+3)) (N.r 47) (N.r 48) (N.r 49) fr (N.r 50) Z8 (N.r 7) (N.r 8) (N.r 9) (N.r 10) 1 pN [] 0 0 none 0 r0 s0 r1 s1 r2 s2 (N.t 5) (N.t 6) (N.t 7) (N.t 8) (N.t 9) (N.t 10) nf ls)::.i [200,212,200]::.f [36,48] (λN=>qm (GN (g+3)) (N.r 36) (N.r 48) ls (N.z 41) (N.z 47) (N.t 81) (N.t 100))::.i (ub 17 0x31b5b4313a3b3bb43a3b3bb43a3b3bb4a8)::.f [16,17,18,19,20,21,22,23,24,25] (λN=>gtS (Pw w Z V) (GN (g+3)) (N.r 16) (N.r 17) (N.r 18) (N.r 19) (N.r 20) (N.r 21) (N.r 22) (N.r 23) (N.r 24) (N.r 25) (N.r 26) (N.t 23) (λk=>N.z (k+5)) x (N.t 18) pz (N.t 50) (N.t 51) lz (N.t 25) (N.t 48) (N.t 27) (N.t 28) (N.t 29) (N.t 30) (N.t 31) (N.t 32) (N.t 33) (N.t 34) (N.t 35) (N.z 23) (N.z 24) (N.z 25) (N.t 49) 5 (N.t 84) [] pe (lz+0))::[]))
 (sE (sg1 (by kernel_rfl)) Z) (λN=>⟨okU (by apply hT),okU (by apply hR),okU (aH hS),okU (by apply hW),okU (mx),okU (by apply hG),okU (by apply hL),okU (qN),okU (aK hC),okU (kNe Zz),okU (by apply hP),okU (aO),okU (by apply hPl),okU (by apply hM),okU (ap),okU (kLc hz hn hb hc),okU (ty hz hb),okU (xc1),okU (n5 hb),okU (nZ hn hb),okU (ap),okU (by apply hgl),okU (aO),okU (by apply hF),okU (pS),okU (by apply hE),trivial⟩)
theorem Bv(hT:dU w Z V xs (t0,t1,t2,t3))(hR:dW w Z V t0 t1 t2 t3 [(.ofNat r0,.ofNat s0),(.ofNat r1,.ofNat s1),(.ofNat r2,.ofNat s2)])(hS:Int.fmod t3 (.ofNat 65537)=.ofNat Zx)(hW:lN w Z V Zx r0 s0 r1 s1 r2 s2 x sz)(hG:bo w Z V x 0 d0 tok p0)(hL:oV w Z V x p0 (1+d0) tok r0 s0 r1 s1 r2 s2 pz lz)(hC:aG x [10]=nc)(Zz:((.ofNat lz:Int) !=1+.ofNat nc)=false)(hP:lU w Z V r0 s0 r1 s1 r2 s2 pN)(hPl:fC w Z V pN l0)(hpN:pN<2^9)(hM:lR w Z V r0 s0 r1 s1 r2 s2 pN l0 0 [])(hF:lY w Z V r0 s0 r1 s1 r2 s2 pN nf [])(hE:bo w Z V x pz 0 [] pe):Ok (W2 w Z V) 10 ((jY (Pw w Z V) g (g+3) a fr Z8 Z6 Z7 t xs dd e sl).s):=
 fD (laT (an fr Z7 Z6 Z8)) (eZ (an fr Z7 Z6 Z8)) [] 501 (λN=>[t,(N.t 4),(N.t 15),(N.t 16),(N.t 19),(N.t 20),(N.t 21),(N.t 37),(N.t 43),(N.t 45),(N.t 69),(N.t 72),(N.t 74),(N.t 75),(N.t 76),(N.t 81),(N.t 83),(N.t 87)]) (λN=>[(N.z 26),(N.z 27),(N.z 28),(.ref a),(.ref (N.r 6)),(.int (.ofNat sz) (N.t 17)),(.str (mS x) (N.t 18)),(N.z 32),(N.z 33),(N.z 2),(.ref (N.r 27)),(N.z 34),(N.z 29),(N.z 30),(.int 0 (N.t 73)),(N.z 35),(N.z 36),(N.z 43),(.ref (N.r 36)),(.ref (N.r 43)),(.ref (N.r 7)),(.ref (N.r 16)),(.int (.ofNat pN) (N.t 64))])
 (nD g a xs dd e sl t0 t1 t2 t3 r0 s0 r1 s1 r2 s2 Zx w Z V fr Z7 Z6 Z8 t x sz tok p0 d0 pz lz nc pN l0 (.f [2,33,27,28,29,30,5,4,16,17,25] (λN=>zf (Pw w Z V) r0 s0 r1 s1 r2 s2 pN l0 g fr Z7 Z6 Z8 (N.r 33) (N.r 27) (N.r 16) (N.r 17) (N.r 18) (N.r 25) lz (N.t 25) (N.t 48) (N.t 27) (N.t 28) (N.t 29) (N.t 30) (N.t 49) t (N.t 4) (N.t 15) (N.t 16) (N.t 19) (N.t 20) (N.t 21) (N.t 37) (N.t 43) (N.t 45) (.ref a) (.ref (N.r 6)) (.int (.ofNat sz) (N.t 17)) (.str (mS x) (N.t 18)) (N.z 0) (N.z 1) (N.z 2) (.str (mS []) (N.t 44)) (N.z 29) (N.r 28) (N.r 29) (N.r 30) (N.t 52) (N.t 53) (N.t 54) (N.t 55) (N.t 56) (N.t 57) (N.t 69) (N.t 72) (N.z 30) (N.t 64) (N.t 64) ((N.t 70)+1) (N.t 47) (N.z 31) (N.t 71))::.i (ub 9 0xc6c6c6c6c6c6a60003)::.f [34] (λN=>ak (GN (g+3)) (N.r 34) 0 (N.t 79) (N.t 73) (N.t 80))::.i [199]::.f [35,36,37,4] (λN=>SegIn.s (dE w false V (GN (g+3)) (N.r 35) (N.r 36) (N.r 37) fr Z6 (N.r 16) 0 0))::.i (ub 8 0xc8c8c8a6a6c9a6a6)::.f [36,38] (λN=>ql (GN (g+3)) (N.r 36) (N.r 38) 0 (N.t 82))::.i (ub 4 0xcccbcbcb)::.f [40,41,42,5,39] (λN=>SegIn.s (eT w false V (GN (g+3)) (N.r 40) (N.r 41) (N.r 42) fr Z7 (N.r 39) pN (N.t 64) 0 0 0))::.i (ub 4 0xc8cdc8ce)::.f [36,41] (λN=>hD (GN (g+3)) (N.r 36) (N.r 41) [] [] 0 0)::.i (ub 7 0xa600030003a6a6)::.f [36] (λN=>cx (GN (g+3)) (N.r 36) [] 0 none (mA []))::.i (ub 6 0xd0d0d0d0d0d0)::.f [44] (λN=>ak (GN (g+3)) (N.r 44) 0 (N.t 85) (N.t 84) (N.t 86))::.i [209]::.f [2,45,43,3,7] (λN=>j6 (Pw w Z V) (GN (g+3)) fr Z7 Z6 Z8 (N.r 45) (N.r 43) (N.r 7) (N.r 8) (N.r 9) (N.r 10) t (N.t 4) (N.t 15) (N.t 16) (N.t 19) (N.t 20) (N.t 21) (N.t 37) (N.t 43) (N.t 45) (N.t 69) (N.t 72) (N.t 74) (N.t 75) (N.t 76) (N.t 81) (N.t 83) (.ref a) (.ref (N.r 6)) (.int (.ofNat sz) (N.t 17)) (.str (mS x) (N.t 18)) (N.z 32) (N.z 33) (N.z 2) (.ref (N.r 27)) (N.z 34) (N.z 29) (N.z 30) (.int 0 (N.t 73)) (N.z 35) (N.z 36) (.ref (N.r 36)) (N.z 37) (((N.t 77)+1)+1) 0 0 [] 0 0 0)::.i (ub 10 0xd2d2d2d2d2d2a90003a6)::.f [46] (λN=>aU (GN (g+3)) (N.r 46) pN (N.t 88) (N.t 90) (N.t 91))::.i [211]::.f [47,48,49,50,3,7,8,9,10] (λN=>oD (GN (g+3)) (N.r 47) (N.r 48) (N.r 49) fr (N.r 50) Z8 (N.r 7) (N.r 8) (N.r 9) (N.r 10) 1 pN [] 0 0 none 0 r0 s0 r1 s1 r2 s2 (N.t 5) (N.t 6) (N.t 7) (N.t 8) (N.t 9) (N.t 10) nf [])::.i [200,212,200]::.f [36,48] (λN=>qn (GN (g+3)) (N.r 36) (N.r 48) 0 (N.t 92))::.i (ub 17 0x31b5b4313a3b3bb43a3b3bb43a3b3bb4a8)::.f [16,17,18,19,20,21,22,23,24,25] (λN=>gtS (Pw w Z V) (GN (g+3)) (N.r 16) (N.r 17) (N.r 18) (N.r 19) (N.r 20) (N.r 21) (N.r 22) (N.r 23) (N.r 24) (N.r 25) (N.r 26) (N.t 23) (λk=>N.z (k+5)) x (N.t 18) pz (N.t 50) (N.t 51) lz (N.t 25) (N.t 48) (N.t 27) (N.t 28) (N.t 29) (N.t 30) (N.t 31) (N.t 32) (N.t 33) (N.t 34) (N.t 35) (N.z 23) (N.z 24) (N.z 25) (N.t 49) 5 (N.t 78) [] pe (lz+0))::[]))
 (sE (sg1 (by kernel_rfl)) Z) (λN=>⟨okU (by apply hT),okU (by apply hR),okU (aH hS),okU (by apply hW),okU (mx),okU (by apply hG),okU (by apply hL),okU (qN),okU (aK hC),okU (kNe Zz),okU (by apply hP),okU (aO),okU (by apply hPl),okU (by apply hM),okU (ap),okU (tE),okU (tz),okU (xc0),okU (gZ),okU (du),okU (ap),okU (xP),okU (aO),okU (by apply hF),okU (tD),okU (by apply hE),trivial⟩)
theorem Bs(hT:dU w Z V xs (t0,t1,t2,t3))(hR:dW w Z V t0 t1 t2 t3 [(.ofNat r0,.ofNat s0),(.ofNat r1,.ofNat s1),(.ofNat r2,.ofNat s2),(.ofNat r3,.ofNat s3)])(hS:Int.fmod t3 (.ofNat 65537)=.ofNat Zx)(hW:lM w Z V Zx r0 s0 r1 s1 r2 s2 r3 s3 x sz)(hG:bo w Z V x 0 d0 tok p0)(hL:oU w Z V x p0 (1+d0) tok r0 s0 r1 s1 r2 s2 r3 s3 pz lz)(hC:aG x [10]=nc)(Zz:((.ofNat lz:Int) !=1+.ofNat nc)=false)(hP:lT w Z V r0 s0 r1 s1 r2 s2 r3 s3 pN)(hPl:fC w Z V pN l0)(hpN:pN<2^9)(hM:lQ w Z V r0 s0 r1 s1 r2 s2 r3 s3 pN l0 nz ls)(hz:ls=c::l)(hn:ls.length=nz)(hb:ls.length<2^9)(hc:∀x∈ls,x<2^9)(hgl:rb w Z V nz ls (c+pN))(hF:lX w Z V r0 s0 r1 s1 r2 s2 r3 s3 pN nf ls)(hE:bo w Z V x pz 0 [] pe):Ok (W2 w Z V) 10 ((jY (Pw w Z V) g (g+4) a fr Z8 Z6 Z7 t xs dd e sl).s):=
 fD (laT (an fr Z7 Z6 Z8)) (eZ (an fr Z7 Z6 Z8)) [] 509 (λN=>[t,(N.t 4),(N.t 17),(N.t 18),(N.t 21),(N.t 22),(N.t 23),(N.t 39),(N.t 45),(N.t 47),(N.t 73),(N.t 76),(N.t 78),(N.t 79),(N.t 80),(N.t 89),(N.t 95),(N.t 99)]) (λN=>[(N.z 26),(N.z 27),(N.z 28),(.ref a),(.ref (N.r 6)),(.int (.ofNat sz) (N.t 19)),(.str (mS x) (N.t 20)),(N.z 32),(N.z 33),(N.z 2),(.ref (N.r 28)),(N.z 34),(N.z 29),(N.z 30),(.int (.ofNat nz) (N.t 77)),(N.z 35),(N.z 36),(N.z 46),(.ref (N.r 38)),(.ref (N.r 45)),(.ref (N.r 7)),(.ref (N.r 17)),(.int (.ofNat pN) (N.t 68))])
 (nE g a xs dd e sl t0 t1 t2 t3 r0 s0 r1 s1 r2 s2 r3 s3 Zx w Z V fr Z7 Z6 Z8 t x sz tok p0 d0 pz lz nc pN l0 (.f [2,35,28,29,30,31,32,5,4,17,18,26] (λN=>rs (Pw w Z V) g fr Z7 Z6 Z8 (N.r 35) (N.r 28) (N.r 17) (N.r 18) (N.r 19) (N.r 26) lz (N.t 27) (N.t 50) (N.t 29) (N.t 30) (N.t 31) (N.t 32) (N.t 51) t (N.t 4) (N.t 17) (N.t 18) (N.t 21) (N.t 22) (N.t 23) (N.t 39) (N.t 45) (N.t 47) (.ref a) (.ref (N.r 6)) (.int (.ofNat sz) (N.t 19)) (.str (mS x) (N.t 20)) (N.z 0) (N.z 1) (N.z 2) (.str (mS []) (N.t 46)) (N.z 29) (N.r 29) (N.r 30) (N.r 31) (N.r 32) r0 s0 r1 s1 r2 s2 r3 s3 (N.t 54) (N.t 55) (N.t 56) (N.t 57) (N.t 58) (N.t 59) (N.t 60) (N.t 61) (N.t 73) (N.t 76) (N.z 30) pN (N.t 68) (N.t 68) ((N.t 74)+1) (N.t 49) l0 (N.z 31) (N.t 75) nz ls)::.i (ub 9 0xc8c8c8c8c8c8a60003)::.f [36] (λN=>ak (GN (g+4)) (N.r 36) nz (N.t 83) (N.t 77) (N.t 84))::.i [201]::.f [37,38,39,4,17,18,26] (λN=>lcA (Pw w Z V) (GN (g+4)) (N.r 37) (N.r 38) (N.r 39) fr Z6 (N.r 17) (N.r 18) (N.r 19) (N.r 26) lz (N.t 27) (N.t 50) (N.t 29) (N.t 30) (N.t 31) (N.t 32) (N.t 51) 0 nz [] 0 [] 0 (qSL (ls.map fS) (N.z 40)) (N.t 82) nz ls)::.i (ub 10 0xcacacaa6a6cbcbcba6a6)::.f [38,40] (λN=>qh (GN (g+4)) (N.r 38) (N.r 40) c ls (N.z 41) (N.t 85) (N.t 90))::.i (ub 4 0xcecdcdcd)::.f [42,43,44,5,41] (λN=>SegIn.s (eS w false V (GN (g+4)) (N.r 42) (N.r 43) (N.r 44) fr Z7 (N.r 41) c (@List.headD.{0} Nat (au (N.z 41)) 0) pN (N.t 68) 0 0 0))::.i (ub 6 0xcacfcad0d0d0)::.f [38,43] (λN=>hD (GN (g+4)) (N.r 38) (N.r 43) (qIL ls (N.z 41)) [(.int (.ofNat (c+pN)) (N.t 91))] (N.t 85) (N.t 92))::.i (ub 7 0xa600030003a6a6)::.f [38] (λN=>lI (GN (g+4)) (N.r 38) ls (N.z 41) (N.t 85) nz)::.i (ub 6 0xd2d2d2d2d2d2)::.f [46] (λN=>ak (GN (g+4)) (N.r 46) nz (N.t 97) (N.t 96) (N.t 98))::.i [211]::.f [2,47,45,3,7] (λN=>j5 (Pw w Z V) (GN (g+4)) fr Z7 Z6 Z8 (N.r 47) (N.r 45) (N.r 7) (N.r 8) (N.r 9) (N.r 10) (N.r 11) t (N.t 4) (N.t 17) (N.t 18) (N.t 21) (N.t 22) (N.t 23) (N.t 39) (N.t 45) (N.t 47) (N.t 73) (N.t 76) (N.t 78) (N.t 79) (N.t 80) (N.t 89) (N.t 95) (.ref a) (.ref (N.r 6)) (.int (.ofNat sz) (N.t 19)) (.str (mS x) (N.t 20)) (N.z 32) (N.z 33) (N.z 2) (.ref (N.r 28)) (N.z 34) (N.z 29) (N.z 30) (.int (.ofNat nz) (N.t 77)) (N.z 35) (N.z 36) (.ref (N.r 38)) (N.z 37) (((N.t 81)+1)+1) 0 nz ((qIL ls (N.z 41))++[(.int (.ofNat (c+pN)) (N.t 91))]) 0 0 nz)::.i (ub 10 0xd4d4d4d4d4d4a90003a6)::.f [48] (λN=>aU (GN (g+4)) (N.r 48) pN (N.t 100) (N.t 102) (N.t 103))::.i [213]::.f [49,50,51,52,3,7,8,9,10,11] (λN=>oC (GN (g+4)) (N.r 49) (N.r 50) (N.r 51) fr (N.r 52) Z8 (N.r 7) (N.r 8) (N.r 9) (N.r 10) (N.r 11) 1 pN [] 0 0 none 0 r0 s0 r1 s1 r2 s2 r3 s3 (N.t 5) (N.t 6) (N.t 7) (N.t 8) (N.t 9) (N.t 10) (N.t 11) (N.t 12) nf ls)::.i [202,214,202]::.f [38,50] (λN=>qm (GN (g+4)) (N.r 38) (N.r 50) ls (N.z 41) (N.z 47) (N.t 85) (N.t 104))::.i (ub 17 0x31b6b5313a3b3bb53a3b3bb53a3b3bb5a8)::.f [17,18,19,20,21,22,23,24,25,26] (λN=>gtS (Pw w Z V) (GN (g+4)) (N.r 17) (N.r 18) (N.r 19) (N.r 20) (N.r 21) (N.r 22) (N.r 23) (N.r 24) (N.r 25) (N.r 26) (N.r 27) (N.t 25) (λk=>N.z (k+5)) x (N.t 20) pz (N.t 52) (N.t 53) lz (N.t 27) (N.t 50) (N.t 29) (N.t 30) (N.t 31) (N.t 32) (N.t 33) (N.t 34) (N.t 35) (N.t 36) (N.t 37) (N.z 23) (N.z 24) (N.z 25) (N.t 51) 5 (N.t 88) [] pe (lz+0))::[]))
 (sE (sg1 (by kernel_rfl)) Z) (λN=>⟨okU (by apply hT),okU (by apply hR),okU (aH hS),okU (by apply hW),okU (mx),okU (by apply hG),okU (by apply hL),okU (qM),okU (aK hC),okU (kNe Zz),okU (by apply hP),okU (aO),okU (by apply hPl),okU (by apply hM),okU (ap),okU (kLc hz hn hb hc),okU (ty hz hb),okU (xc1),okU (n5 hb),okU (nZ hn hb),okU (ap),okU (by apply hgl),okU (aO),okU (by apply hF),okU (pS),okU (by apply hE),trivial⟩)
theorem Bt(hT:dU w Z V xs (t0,t1,t2,t3))(hR:dW w Z V t0 t1 t2 t3 [(.ofNat r0,.ofNat s0),(.ofNat r1,.ofNat s1),(.ofNat r2,.ofNat s2),(.ofNat r3,.ofNat s3)])(hS:Int.fmod t3 (.ofNat 65537)=.ofNat Zx)(hW:lM w Z V Zx r0 s0 r1 s1 r2 s2 r3 s3 x sz)(hG:bo w Z V x 0 d0 tok p0)(hL:oU w Z V x p0 (1+d0) tok r0 s0 r1 s1 r2 s2 r3 s3 pz lz)(hC:aG x [10]=nc)(Zz:((.ofNat lz:Int) !=1+.ofNat nc)=false)(hP:lT w Z V r0 s0 r1 s1 r2 s2 r3 s3 pN)(hPl:fC w Z V pN l0)(hpN:pN<2^9)(hM:lQ w Z V r0 s0 r1 s1 r2 s2 r3 s3 pN l0 0 [])(hF:lX w Z V r0 s0 r1 s1 r2 s2 r3 s3 pN nf [])(hE:bo w Z V x pz 0 [] pe):Ok (W2 w Z V) 10 ((jY (Pw w Z V) g (g+4) a fr Z8 Z6 Z7 t xs dd e sl).s):=
 fD (laT (an fr Z7 Z6 Z8)) (eZ (an fr Z7 Z6 Z8)) [] 501 (λN=>[t,(N.t 4),(N.t 17),(N.t 18),(N.t 21),(N.t 22),(N.t 23),(N.t 39),(N.t 45),(N.t 47),(N.t 73),(N.t 76),(N.t 78),(N.t 79),(N.t 80),(N.t 85),(N.t 87),(N.t 91)]) (λN=>[(N.z 26),(N.z 27),(N.z 28),(.ref a),(.ref (N.r 6)),(.int (.ofNat sz) (N.t 19)),(.str (mS x) (N.t 20)),(N.z 32),(N.z 33),(N.z 2),(.ref (N.r 28)),(N.z 34),(N.z 29),(N.z 30),(.int 0 (N.t 77)),(N.z 35),(N.z 36),(N.z 43),(.ref (N.r 38)),(.ref (N.r 45)),(.ref (N.r 7)),(.ref (N.r 17)),(.int (.ofNat pN) (N.t 68))])
 (nE g a xs dd e sl t0 t1 t2 t3 r0 s0 r1 s1 r2 s2 r3 s3 Zx w Z V fr Z7 Z6 Z8 t x sz tok p0 d0 pz lz nc pN l0 (.f [2,35,28,29,30,31,32,5,4,17,18,26] (λN=>ze (Pw w Z V) r0 s0 r1 s1 r2 s2 r3 s3 pN l0 g fr Z7 Z6 Z8 (N.r 35) (N.r 28) (N.r 17) (N.r 18) (N.r 19) (N.r 26) lz (N.t 27) (N.t 50) (N.t 29) (N.t 30) (N.t 31) (N.t 32) (N.t 51) t (N.t 4) (N.t 17) (N.t 18) (N.t 21) (N.t 22) (N.t 23) (N.t 39) (N.t 45) (N.t 47) (.ref a) (.ref (N.r 6)) (.int (.ofNat sz) (N.t 19)) (.str (mS x) (N.t 20)) (N.z 0) (N.z 1) (N.z 2) (.str (mS []) (N.t 46)) (N.z 29) (N.r 29) (N.r 30) (N.r 31) (N.r 32) (N.t 54) (N.t 55) (N.t 56) (N.t 57) (N.t 58) (N.t 59) (N.t 60) (N.t 61) (N.t 73) (N.t 76) (N.z 30) (N.t 68) (N.t 68) ((N.t 74)+1) (N.t 49) (N.z 31) (N.t 75))::.i (ub 9 0xc8c8c8c8c8c8a60003)::.f [36] (λN=>ak (GN (g+4)) (N.r 36) 0 (N.t 83) (N.t 77) (N.t 84))::.i [201]::.f [37,38,39,4] (λN=>SegIn.s (dE w false V (GN (g+4)) (N.r 37) (N.r 38) (N.r 39) fr Z6 (N.r 17) 0 0))::.i (ub 8 0xcacacaa6a6cba6a6)::.f [38,40] (λN=>ql (GN (g+4)) (N.r 38) (N.r 40) 0 (N.t 86))::.i (ub 4 0xcecdcdcd)::.f [42,43,44,5,41] (λN=>SegIn.s (eT w false V (GN (g+4)) (N.r 42) (N.r 43) (N.r 44) fr Z7 (N.r 41) pN (N.t 68) 0 0 0))::.i (ub 4 0xcacfcad0)::.f [38,43] (λN=>hD (GN (g+4)) (N.r 38) (N.r 43) [] [] 0 0)::.i (ub 7 0xa600030003a6a6)::.f [38] (λN=>cx (GN (g+4)) (N.r 38) [] 0 none (mA []))::.i (ub 6 0xd2d2d2d2d2d2)::.f [46] (λN=>ak (GN (g+4)) (N.r 46) 0 (N.t 89) (N.t 88) (N.t 90))::.i [211]::.f [2,47,45,3,7] (λN=>j5 (Pw w Z V) (GN (g+4)) fr Z7 Z6 Z8 (N.r 47) (N.r 45) (N.r 7) (N.r 8) (N.r 9) (N.r 10) (N.r 11) t (N.t 4) (N.t 17) (N.t 18) (N.t 21) (N.t 22) (N.t 23) (N.t 39) (N.t 45) (N.t 47) (N.t 73) (N.t 76) (N.t 78) (N.t 79) (N.t 80) (N.t 85) (N.t 87) (.ref a) (.ref (N.r 6)) (.int (.ofNat sz) (N.t 19)) (.str (mS x) (N.t 20)) (N.z 32) (N.z 33) (N.z 2) (.ref (N.r 28)) (N.z 34) (N.z 29) (N.z 30) (.int 0 (N.t 77)) (N.z 35) (N.z 36) (.ref (N.r 38)) (N.z 37) (((N.t 81)+1)+1) 0 0 [] 0 0 0)::.i (ub 10 0xd4d4d4d4d4d4a90003a6)::.f [48] (λN=>aU (GN (g+4)) (N.r 48) pN (N.t 92) (N.t 94) (N.t 95))::.i [213]::.f [49,50,51,52,3,7,8,9,10,11] (λN=>oC (GN (g+4)) (N.r 49) (N.r 50) (N.r 51) fr (N.r 52) Z8 (N.r 7) (N.r 8) (N.r 9) (N.r 10) (N.r 11) 1 pN [] 0 0 none 0 r0 s0 r1 s1 r2 s2 r3 s3 (N.t 5) (N.t 6) (N.t 7) (N.t 8) (N.t 9) (N.t 10) (N.t 11) (N.t 12) nf [])::.i [202,214,202]::.f [38,50] (λN=>qn (GN (g+4)) (N.r 38) (N.r 50) 0 (N.t 96))::.i (ub 17 0x31b6b5313a3b3bb53a3b3bb53a3b3bb5a8)::.f [17,18,19,20,21,22,23,24,25,26] (λN=>gtS (Pw w Z V) (GN (g+4)) (N.r 17) (N.r 18) (N.r 19) (N.r 20) (N.r 21) (N.r 22) (N.r 23) (N.r 24) (N.r 25) (N.r 26) (N.r 27) (N.t 25) (λk=>N.z (k+5)) x (N.t 20) pz (N.t 52) (N.t 53) lz (N.t 27) (N.t 50) (N.t 29) (N.t 30) (N.t 31) (N.t 32) (N.t 33) (N.t 34) (N.t 35) (N.t 36) (N.t 37) (N.z 23) (N.z 24) (N.z 25) (N.t 51) 5 (N.t 82) [] pe (lz+0))::[]))
 (sE (sg1 (by kernel_rfl)) Z) (λN=>⟨okU (by apply hT),okU (by apply hR),okU (aH hS),okU (by apply hW),okU (mx),okU (by apply hG),okU (by apply hL),okU (qM),okU (aK hC),okU (kNe Zz),okU (by apply hP),okU (aO),okU (by apply hPl),okU (by apply hM),okU (ap),okU (tE),okU (tz),okU (xc0),okU (gZ),okU (du),okU (ap),okU (xO),okU (aO),okU (by apply hF),okU (tD),okU (by apply hE),trivial⟩)
end
end
section
open PySem PySem.W PySem.W.X PySem.Calls PyProof.Rows
theorem ff{lim:Nat}{over:Nat→Option Obj}:∀(t:KT) (a b i:Nat) (o:Obj),t.get i=some o→(∀i o,t.get i=some o→over (b+a*i)=none∧b+a*i<lim)→(gQ lim over t a b).get i=some o
 | .nil,a,b,i,o,h,_=>by cases h
 | .node v l r,a,b,i,o,h,H=>by
  have hb:∀o,v=some o→over b=none∧b<lim:=λo e=>by
   have:=H 0 o (by rw[KT.get_node,if_pos rfl];exact e)
   rwa[Nat.mul_zero,Nat.add_zero]at this
  have hl:∀i o,l.get i=some o→over (a+b+2*a*i)=none∧a+b+2*a*i<lim:=λi o e=>by
   have:=H (2*i+1) o (by rw[KT.get_node,if_neg (by lia),if_pos (by lia),show(2*i+1) / 2=i by lia];exact e)
   rwa[show b+a*(2*i+1)=a+b+2*a*i by rw[Nat.mul_add,Nat.mul_one,←Nat.mul_assoc,Nat.mul_comm a 2];lia]at this
  have hr:∀i o,r.get i=some o→over (2*a+b+2*a*i)=none∧2*a+b+2*a*i<lim:=λi o e=>by
   have:=H (2*i+2) o (by rw[KT.get_node,if_neg (by lia),if_neg (by lia),show(2*i+2) / 2-1=i by lia];exact e)
   rwa[show b+a*(2*i+2)=2*a+b+2*a*i by rw[Nat.mul_add,←Nat.mul_assoc,Nat.mul_comm a 2];lia]at this
  have Zy:b<lim:=by
   have:=H i o h
   have:=this.2
   have:b≤b+a*i:=Nat.le_add_right _ _
   lia
  unfold gQ
  rw[show Nat.blt b lim=true from Nat.ble_eq_true_of_le Zy]
  dsimp only
  rw[BT.get_node]
  rw[KT.get_node]at h
  by_cases h0:i=0
  ·rw[if_pos h0]at h ⊢
   rw[(hb o h).1,h]
  ·rw[if_neg h0]at h ⊢
   by_cases h1:i%2=1
   ·rw[if_pos h1]at h ⊢
    exact ff l _ _ _ o h hl
   ·rw[if_neg h1]at h ⊢
    exact ff r _ _ _ o h hr
noncomputable def kOk(over:Nat→Option Obj):KT→Nat→Nat→Bool
 | .nil,_,_=>true
 | .node v l r,a,b=>(match v with
  | some o=>(match o.data with
   | .freed=>false
   | _=>true)&&((over b).isNone&&Nat.blt b 164)
  | none=>true)&&(kOk over l (2*a) (a+b)&&kOk over r (2*a) (2*a+b))
theorem fT{over:Nat→Option Obj}:∀{t:KT} {a b:Nat},kOk over t a b=true→∀i o,t.get i=some o→alive o=some o∧over (b+a*i)=none∧b+a*i<164
 | .nil,a,b,_,i,o,h=>by cases h
 | .node v l r,a,b,k,i,o,h=>by
  unfold kOk at k
  simp only[Bool.and_eq_true]at k
  obtain⟨k1,k2,k3⟩:=k
  rw[KT.get_node]at h
  by_cases h0:i=0
  ·subst h0
   rw[if_pos rfl]at h
   subst h
   simp only[Bool.and_eq_true]at k1
   refine⟨?_,?_,?_⟩
   ·obtain⟨c,d,dt,s⟩:=o
    cases dt<;>first | rfl | exact absurd k1.1 (by simp)
   ·simpa using k1.2.1
   ·have h:=Nat.le_of_ble_eq_true k1.2.2
    rw[Nat.mul_zero,Nat.add_zero]
    exact h
  ·rw[if_neg h0]at h
   by_cases h1:i%2=1
   ·rw[if_pos h1]at h
    have:=fT k2 _ _ h
    rwa[show a+b+2*a*(i / 2)=b+a*i by
     have e:i=2*(i / 2)+1:=by lia
     generalize i / 2=q at e
     subst e
     rw[Nat.mul_add,Nat.mul_one,←Nat.mul_assoc,Nat.mul_comm a 2]
     lia]at this
   ·rw[if_neg h1]at h
    have:=fT k3 _ _ h
    rwa[show 2*a+b+2*a*(i / 2-1)=b+a*i by
     have e:i=2*(i / 2-1)+2:=by lia
     generalize i / 2-1=q at e
     subst e
     rw[Nat.mul_add,←Nat.mul_assoc,Nat.mul_comm a 2]
     lia]at this
theorem qB(P:Params):kOk (lkO (ld P)) (Tb P) 1 0=true:=by kernel_rfl
theorem oQ(P:Params):be (Tb P) (da P):=λj o h=>by
 have k:=fT (qB P) j o h
 rw[Nat.one_mul,Nat.zero_add]at k
 have g:=ff (lim:=164) (over:=lkO (ld P)) (Tb P) 1 0 j o h (λi o e=>(fT (qB P) i o e).2)
 exact(abs_get k.2.2 g).trans k.1
theorem tY(P:Params):(da P).get? 146=some gD:=by
 have g:(mY P).get 146=some gD:=by kernel_rfl
 exact(abs_get (by decide) g).trans rfl
theorem qp{gs:Array GenState}(h:leftWithCleanup gs=false):AllBare gs:=λy hy=>by
 unfold leftWithCleanup at h
 rw[Array.any_eq_false]at h
 obtain⟨i,hi,rfl⟩:=Array.mem_iff_getElem.mp hy
 have:=h i hi
 revert this
 generalize gs[i]=z
 intro this
 cases z with
 | suspended a b c d e f=>
  show(!f)=true
  cases f with
  | false=>rfl
  | true=>exact absurd rfl this
 | _=>rfl
theorem rG(P:Params){h:Heap}(hb:be (Tb P) h)(h1:h.get? 146=some gD):isCodeTable h 146:=by
 have e1:(Tb P).get 150=some (lj P):=by kernel_rfl
 exact(table_at (h:=h) (c:=150) (P:=146) (o:=lj P) (o':=gD) (vs:=match(lj P).data with | .fields vs=>vs | _=>⟨[]⟩) (ps:=⟨[]⟩) (hb _ _ e1) (by kernel_rfl) (by kernel_rfl) h1 (by kernel_rfl)).isCodeTable
theorem k8(P:Params):(Tb P).get 164=none∧(Tb P).get 146=none:=⟨by kernel_rfl,by kernel_rfl⟩
theorem pJ{w:World}{Z V:Bool}{g':Nat}{s₁:Shared}{xs:List Value}{c:ClaimW}{cl:Str→Option Addr}{mean:ExcName→Option Value}{args:List WData}
  (hW:W2 w Z V=w) (hb:be (Tb w.params) s₁.heap) (h146:s₁.heap.get? 146=some gD) (ha:s₁.heap.get? 164=some ⟨.type "list",none,.seq ⟨xs⟩ 0,⟨[]⟩⟩) (hg:s₁.gens=#[])
  (hOk:Ok (W2 w Z V) 10 (jf 0 g' 164 xs none 0 ⟨[]⟩)) (hr:∀cls,c.raises args cls=false) (hp:c.post args (.bool true) args=true):
  wpAny (model pw w) callerA (PySem.call (.ref 163) [.ref 164]) (λv s'=>GoodWG c cl mean args s₁ (.ok (.ret v)) s') (λe s'=>GoodWG c cl mean args s₁ (.error e) s') s₁:=by
 rw[hW]at hOk
 obtain⟨h,gs,d,U,os⟩:=s₁
 dsimp only at hb h146 ha hg
 subst hg
 refine y_start _ pw w callerA _ _ _ (Code.call (.ref 163) ⟨[.ref 164],[]⟩) none false [] _ (λh=>by cases h) ?_
 refine hOk (callerA.mark none) _ h #[] d U os ⟨rfl,by decide+kernel,by decide+kernel⟩ ⟨rfl,by simp[leftWithCleanup]⟩ hb ⟨λp hp o ho=>?_,λq q' p p' o o' hq Zp ho ho' e=>?_⟩ λh' Zt ZM C ZB O hG P=>?_
 ·have Zo:p=(164,some ⟨.type "list",none,.seq ⟨xs⟩ 0,⟨[]⟩⟩)∨p=(146,some gD):=by simpa[jf,sd,pK,av,aa]using hp
  rcases Zo with rfl | rfl
  ·cases ho
   exact⟨ha,(k8 _).1⟩
  ·cases ho
   exact⟨h146,(k8 _).2⟩
 ·have key:∀(q:Nat) (p:Addr × Option Obj),(jf 0 g' 164 xs none 0 ⟨[]⟩).pre[q]? =some p→(q=0∧p.1=164)∨(q=1∧p.1=146):=λq p h=>by
   match q,h with
   | 0,h=>cases h;exact .inl ⟨rfl,rfl⟩
   | 1,h=>cases h;exact .inr ⟨rfl,rfl⟩
   | q+2,h=>cases h
  rcases key q p hq with⟨rfl,e1⟩ | ⟨rfl,e1⟩<;>rcases key q' p' Zp with⟨rfl,e2⟩ | ⟨rfl,e2⟩
  ·rfl
  ·rw[e1,e2]at e;cases e
  ·rw[e1,e2]at e;cases e
  ·rfl
 ·show wpAny (model pw w) callerA (Sem.pure (Value.bool true)) _ _ _
  refine wpAny_pure ?_
  have keep:∀b o,h.get? b=some o→b≠146→h'.get? b=some o:=λb o e Zz=>P.keep b o e λp hp x hx=>by
   have:p=(1,⟨.none,none,.fields ⟨[aq 23 O 0,aq 23 O 1,aq 23 O 2]⟩,⟨[]⟩⟩):=by simpa[jf,sd,nV]using hp
   subst this
   cases hx
   exact λe=>Zz e.symm
  have new146:=P.ups _ (List.mem_singleton.mpr rfl) (146,some gD) rfl
  refine⟨.inl ⟨_,.bool true,[],rfl,hr,ReadsW.bool true,hp,λ_=>⟨List.nodup_nil,λ_ hm=>(nomatch hm)⟩⟩,⟨λb o e=>?_,λb o e=>?_⟩,rfl,qp hG.2⟩
  ·by_cases Zz:b=146
   ·subst Zz
    have:o=gD:=Option.some.inj (e.symm.trans h146)
    subst this
    exact .inr (.inl ⟨rG _ hb h146,rfl,⟨[]⟩,⟨[_,_,_]⟩,rfl,new146⟩)
   ·exact .inl (keep b o e Zz)
  ·by_cases Zz:b=146
   ·subst Zz
    exact⟨_,new146⟩
   ·exact⟨o,keep b o e Zz⟩
end
section
open PySem PySem.W PySem.W.X PySem.Builtin
noncomputable abbrev jI:List Nat:=[108,97,115,116,95,105,110,116,101,114,118,97,108]
noncomputable abbrev kC:List Nat:=[105,110,116,101,114,118,97,108]
noncomputable def gY:Option GO→GO
 | some o=>o
 | none=>⟨.none,λ_=>.unsupported "",.builtin "" ⟨[],[]⟩,.base,.nil,0,GN 0,[],[]⟩
noncomputable def bj(o:GO):GenState→Prop:=vA o.k o.c o.κ
noncomputable def gf2(P:Params)(row:Addr)(tg ta:Tok)(a:Value)(tb:Tok)(b:Value)(ef:Nat):Obj:=frO [en P cF tg (.ref row),en P jI ta a,en P kC tb b] ef
noncomputable def pq(r s:Nat)(u1 u2 u3:Tok)(e:Nat):Obj:=lO [.int (.ofNat r) u1,.int (.ofNat s) u2,.int (.ofNat 0) u3] e
noncomputable def x9(P:Params)(n:Nat)(t1 t2:Tok)(row:Addr)(tg:Tok)(r s:Nat)(u1 u2 u3:Tok)(e:Nat):List (Option Obj):=[some (gnO n t1 t2),some (gfO P row tg),some (pq r s u1 u2 u3 e)]
noncomputable def tR(P:Params)(n:Nat)(t1 t2:Tok)(row:Addr)(tg ta:Tok)(a:Value)(tb:Tok)(b:Value)(ef:Nat)(r s:Nat)(u1 u2 u3:Tok)(e:Nat)(i:Nat):List (Option Obj):=[some (gnO n t1 t2),some (gf2 P row tg ta a tb b ef),some (pq r s u1 u2 u3 e),some (liO row i)]
noncomputable def BX(P:Params)(n:Nat)(t1 t2:Tok)(row:Addr)(tg ta:Tok)(a:Value)(tb:Tok)(b:Value)(ef:Nat):List (Option Obj):=[some (gnO n t1 t2),some (gf2 P row tg ta a tb b ef)]
noncomputable def xT(G:GP)(r:Nat)(u1:Tok):List It:=(.i [165,165,165,166,166,166,167,167,167,167,167,166,167,167,165,165,165,3]::.f [] (λN=>(cEq G (Int.ofNat r) (127:Int) u1 189 Bool.false))::.i [165]::.f [] (λN=>(cEq G (Int.ofNat r) (0:Int) u1 (N.t 2) Bool.false))::.i [165]::[])
noncomputable def gA(W:World)(fr row it:Addr)(r:Nat):GO:=gY (m9 (Tb W.params) ⟨pw,W.params⟩ (aa [0,fr,row,it]) (λ_=>0) (λ_=>.none) 64 (.func (bdS (stA 2)) (gS fr)) .base (D (.func (bdS (stA 2)) (gS fr))) (aJ (x9 W.params 0 0 0 row 0 r 0 0 0 0 0) 0 .nil) 3 0 0 (itO (xT (GN 0) r 0) []) (GN 0))
noncomputable def ya(W:World)(n:Nat)(ga fr row:Addr)(t1 t2 tg:Tok)(r s:Nat)(u1 u2 u3:Tok)(e:Nat):ac:=sdq (.call (.builtin "generator.__next__") ⟨[.ref ga],[]⟩) (aa [ga,fr,row]) (x9 W.params n t1 t2 row tg r s u1 u2 u3 e) (GS n (rI (.func (bdS (stA 2)) (gS fr)))) (λC=>GS n (bj (gA W fr row (C 0) r))) 1 2 0 (λC U O=>⟨.ok (.ret (.int (.ofNat r) u1)),[(1,gf2 W.params row tg (U 0) .none (U 1) (.int (.ofNat r) u1) 3)],[some (liO row 1)]⟩)
variable{w:World}{Z V:Bool}{n r s e ef:Nat}{ga fr row it:Addr}{t1 t2 tg u1 u2 u3 ta tb:Tok}{v1:Value}
theorem BC(h1:((.ofNat r:Int)==127)=false)(h2:((.ofNat r:Int)==0)=false):Ok (W2 w Z V) 3 (ya (W2 w Z V) n ga fr row t1 t2 tg r s u1 u2 u3 e):=
 i5 rfl (λx h=>.inl ⟨h,rfl,rfl⟩) [3] 64 (λN=>[(N.t 0),(N.t 1)]) (λN=>[]) (λG=>xT G r u1) (λN=>.int (.ofNat r) u1) (λN=>(gA (W2 w Z V) fr row (N.r 3) r).k) (λN=>(gA (W2 w Z V) fr row (N.r 3) r).c) (λN=>(gA (W2 w Z V) fr row (N.r 3) r).κ)
  (λρ τ ζ G=>by cases Z<;>kernel_rfl) (λN G=>⟨okU (kEq h1),⟨okU (kEq h2),trivial⟩⟩) (λN=>by cases Z<;>kernel_rfl)
noncomputable def tU(W:World)(n:Nat)(ga fr row:Addr)(t1 t2 tg:Tok)(r s:Nat)(u1 u2 u3:Tok)(e:Nat)(it:Addr)(ta tb:Tok)(ef:Nat):ac:=sdq (.call (.builtin "generator.__next__") ⟨[.ref ga],[]⟩) (aa [ga,fr,row,it]) (tR W.params n t1 t2 row tg ta .none tb (.int (.ofNat r) u1) ef r s u1 u2 u3 e 1) (GS n (bj (gA W fr row it r))) (λC=>GS n (bj (gA W fr row it r))) 0 1 0 (λC U O=>⟨.ok (.ret (.int (.ofNat s) u2)),[(1,gf2 W.params row tg ta (.int (.ofNat r) u1) tb (.int (.ofNat s) u2) (U 0)),(3,liO row 2)],[]⟩)
theorem xN(h1:((.ofNat s:Int)==127)=false)(h2:((.ofNat s:Int)==0)=false):Ok (W2 w Z V) 3 (tU (W2 w Z V) n ga fr row t1 t2 tg r s u1 u2 u3 e it ta tb ef):=
 i5 rfl (λx h=>by obtain⟨l,p,fs,h1,h2⟩:=h;exact .inr ⟨_,l,p,fs,h1,rfl,h2⟩) [] 52 (λN=>[ef]) (λN=>[]) (λG=>(.i [165,165,165,167,167,167,167,166,167,167,165,165,165,3]::.f [] (λN=>(cEq G (Int.ofNat s) (127:Int) u2 189 Bool.false))::.i [165]::.f [] (λN=>(cEq G (Int.ofNat s) (0:Int) u2 (N.t 2) Bool.false))::.i [165]::[])) (λN=>.int (.ofNat s) u2) (λN=>(gA (W2 w Z V) fr row it r).k) (λN=>(gA (W2 w Z V) fr row it r).c) (λN=>(gA (W2 w Z V) fr row it r).κ)
  (λρ τ ζ G=>by cases Z<;>kernel_rfl) (λN G=>⟨okU (kEq h1),⟨okU (kEq h2),trivial⟩⟩) (λN=>by cases Z<;>kernel_rfl)
noncomputable def xS(G:GP)(s:Nat)(u2 u3:Tok)(ef:Nat):List It:=(.i [165,165,165,167,167,167,167,166,167,167,165,165,165,3,165,165,165]::[])
noncomputable def gB(W:World)(fr row it:Addr)(r s:Nat):GO:=gY (m9 (Tb W.params) ⟨pw,W.params⟩ (aa [0,fr,row,it]) (λ_=>0) (λ_=>.none) 63 (gA W fr row it r).c (gA W fr row it r).κ ((gA W fr row it r).k (.send .none)) (aJ (tR W.params 0 0 0 row 0 0 .none 0 (.int (.ofNat s) 0) 0 r s 0 0 0 0 2) 0 .nil) 4 0 0 (itO (xS (GN 0) s 0 0 0) []) (GN 0))
noncomputable def tT(W:World)(n:Nat)(ga fr row:Addr)(t1 t2 tg:Tok)(r s:Nat)(u1 u2 u3:Tok)(e:Nat)(it:Addr)(ta tb:Tok)(ef:Nat)(v1:Value):ac:=sdq (.call (.builtin "generator.__next__") ⟨[.ref ga],[]⟩) (aa [ga,fr,row,it]) (tR W.params n t1 t2 row tg ta v1 tb (.int (.ofNat s) u2) ef r s u1 u2 u3 e 2) (GS n (bj (gA W fr row it r))) (λC=>GS n (bj (gB W fr row it r s))) 0 1 0 (λC U O=>⟨.ok (.ret (.int (.ofNat s) u2)),[(1,gf2 W.params row tg ta (.int (.ofNat s) u2) tb (.int (.ofNat 0) u3) (U 0)),(3,liO row 3)],[]⟩)
theorem xM:Ok (W2 w Z V) 3 (tT (W2 w Z V) n ga fr row t1 t2 tg r s u1 u2 u3 e it ta tb ef v1):=
 i5 rfl (λx h=>by obtain⟨l,p,fs,h1,h2⟩:=h;exact .inr ⟨_,l,p,fs,h1,rfl,h2⟩) [] 63 (λN=>[ef]) (λN=>[]) (λG=>xS G s u2 u3 ef) (λN=>.int (.ofNat s) u2) (λN=>(gB (W2 w Z V) fr row it r s).k) (λN=>(gB (W2 w Z V) fr row it r s).c) (λN=>(gB (W2 w Z V) fr row it r s).κ)
  (λρ τ ζ G=>by cases Z<;>kernel_rfl) (λN G=>trivial) (λN=>by cases Z<;>kernel_rfl)
noncomputable def tS(W:World)(n:Nat)(ga fr row:Addr)(t1 t2 tg:Tok)(r s:Nat)(u2:Tok)(it:Addr)(ta tb:Tok)(ef:Nat)(v1:Value):ac:=sdq (.call (.builtin "generator.__next__") ⟨[.ref ga],[]⟩) (aa [ga,fr]) (BX W.params n t1 t2 row tg ta (.int (.ofNat s) u2) tb v1 ef) (GS n (bj (gB W fr row it r s))) (λC=>GS n (bj (gB W fr row it r s))) 0 0 0 (λC U O=>⟨.ok (.ret (.int (.ofNat s) u2)),[],[]⟩)
theorem xL:Ok (W2 w Z V) 3 (tS (W2 w Z V) n ga fr row t1 t2 tg r s u2 it ta tb ef v1):=
 i5 rfl (λx h=>by obtain⟨l,p,fs,h1,h2⟩:=h;exact .inr ⟨_,l,p,fs,h1,rfl,h2⟩) [] 10 (λN=>[]) (λN=>[]) (λG=>(.i [165]::[])) (λN=>.int (.ofNat s) u2) (λN=>(gB (W2 w Z V) fr row it r s).k) (λN=>(gB (W2 w Z V) fr row it r s).c) (λN=>(gB (W2 w Z V) fr row it r s).κ)
  (λρ τ ζ G=>by cases Z<;>kernel_rfl) (λN G=>trivial) (λN=>by cases Z<;>kernel_rfl)
end
section
open PySem PySem.W PySem.W.X PySem.Builtin
noncomputable abbrev vM:List Nat:=[114,111,119]
noncomputable def qG(mf:Addr):Env:=kX (stA 15) 158 157 mf
noncomputable def xl:Stmt:=b4 (bdS (stA 15)) 2
noncomputable def s9(P:Params)(row M:Addr)(z1 z2 z3 z4:Tok)(pN:Nat)(tn:Tok)(vp:Value)(kv:List DictEntry)(ef:Nat):Obj:=frO ([en P vM z1 (.ref row),en P eC z2 (.int (.ofNat pN) tn),en P bR z3 (.ref M),en P aM z4 vp]++kv) ef
noncomputable def xn:(Nat→Addr)→(Nat→Tok)→(Nat→Value)→List (Nat × Obj):=λ_ _ O=>[(5,⟨.type "list_iterator",none,.fields ⟨[O 5,O 6]⟩,⟨[]⟩⟩)]
noncomputable def mlF(P:Params)(row M:Addr)(z1 z2 z3 z4:Tok)(pN:Nat)(tn tg:Tok)(ms:List Nat):FT:=λ_ U O=>⟨.ok .next,[(0,s9 P row M z1 z2 z3 z4 pN tn (O 0) [en P kB (U 0) (O 1)] (U 1)),(2,gf2 P row tg (U 2) (O 2) (U 3) (O 3) (U 4)),(4,lO (qIL ms (O 4)) (U 5))],[]⟩
noncomputable def Bi(P:Params)(row M:Addr)(z1 z2 z3 z4:Tok)(pN:Nat)(tn tg:Tok)(ms:List Nat):FT:=λC U O=>⟨(mlF P row M z1 z2 z3 z4 pN tn tg ms C U O).r,(mlF P row M z1 z2 z3 z4 pN tn tg ms C U O).ups++xn C U O,(mlF P row M z1 z2 z3 z4 pN tn tg ms C U O).news⟩
noncomputable def xm(P:Params)(n:Nat)(row M:Addr)(z1 z2 z3 z4:Tok)(pN:Nat)(tn tp:Tok)(ef:Nat)(t1 t2 tg:Tok)(r s:Nat)(u1 u2 u3:Tok)(e em:Nat):List (Option Obj):=
 [some (s9 P row M z1 z2 z3 z4 pN tn (.int (.ofNat 0) tp) [] ef),some (gnO n t1 t2),some (gfO P row tg),some (pq r s u1 u2 u3 e),some (lO [] em)]
noncomputable def pF(P:Params)(n:Nat)(mf ga fr row M:Addr)(z1 z2 z3 z4:Tok)(pN:Nat)(tn tp:Tok)(ef:Nat)(t1 t2 tg:Tok)(r s:Nat)(u1 u2 u3:Tok)(e em:Nat)(ms:List Nat):ac:=
 sd (cM xl (.ref ga) (qG mf)) (aa [mf,ga,fr,row,M]) (xm P n row M z1 z2 z3 z4 pN tn tp ef t1 t2 tg r s u1 u2 u3 e em) (GS n (rI (.func (bdS (stA 2)) (gS fr)))) (GN (n+1)) 0 6 7 (mlF P row M z1 z2 z3 z4 pN tn tg ms)
noncomputable def pG(P:Params)(n:Nat)(row M:Addr)(z1 z2 z3 z4:Tok)(pN:Nat)(tn tp:Tok)(p:Nat)(z5:Tok)(v5:Value)(ef:Nat)(t1 t2 tg ta:Tok)(a:Value)(tb:Tok)(b:Value)(eg:Nat)(r s:Nat)(u1 u2 u3:Tok)(e:Nat)(vs:List Value)(em:Nat)(x0 x1:Value):List (Option Obj):=
 [some (s9 P row M z1 z2 z3 z4 pN tn (.int (.ofNat p) tp) [en P kB z5 v5] ef),some (gnO n t1 t2),some (gf2 P row tg ta a tb b eg),some (pq r s u1 u2 u3 e),some (lO vs em),some ⟨.type "list_iterator",none,.fields ⟨[x0,x1]⟩,⟨[]⟩⟩]
noncomputable def eX(P:Params)(G:GP)(n:Nat)(mf ga fr row M it:Addr)(z1 z2 z3 z4:Tok)(pN:Nat)(tn tp:Tok)(p:Nat)(z5:Tok)(v5:Value)(ef:Nat)(t1 t2 tg ta:Tok)(a:Value)(tb:Tok)(b:Value)(eg:Nat)(r s:Nat)(u1 u2 u3:Tok)(e:Nat)(vs:List Value)(em:Nat)(x0 x1:Value)(ms:List Nat)(G':GP):ac:=
 sd (cM xl (.ref ga) (qG mf)) (aa [mf,ga,fr,row,M,it]) (pG P n row M z1 z2 z3 z4 pN tn tp p z5 v5 ef t1 t2 tg ta a tb b eg r s u1 u2 u3 e vs em x0 x1) G G' 0 6 7 (Bi P row M z1 z2 z3 z4 pN tn tg ms)
noncomputable def iI(w:World)(Z V:Bool)(n:Nat)(mf ga fr row M:Addr)(z1 z2 z3 z4:Tok)(pN:Nat)(tn tp:Tok)(ef:Nat)(t1 t2 tg:Tok)(r s:Nat)(u1 u2 u3:Tok)(e em:Nat)(ms:List Nat)(h1:((.ofNat r:Int)==127)=false)(h2:((.ofNat r:Int)==0)=false)(hg:decide ((.ofNat (0+r):Int)> .ofNat pN)=false):SegIn × ((Nat→Addr)→(Nat→Tok)→(Nat→Value)→Nxt):=
 (⟨pF (Pw w Z V) n mf ga fr row M z1 z2 z3 z4 pN tn tp ef t1 t2 tg r s u1 u2 u3 e em ms,aa [mf,ga,fr,row,M],xm (Pw w Z V) n row M z1 z2 z3 z4 pN tn tp ef t1 t2 tg r s u1 u2 u3 e em⟩,
  λC U O=>⟨eX (Pw w Z V) (GS n (bj (gA (W2 w Z V) fr row (C 0) r))) n mf ga fr row M (C 0) z1 z2 z3 z4 pN tn (U 0) (0+r) (U 1) (.int (.ofNat r) u1) (U 2) t1 t2 tg (U 3) .none (U 4) (.int (.ofNat r) u1) 3 r s u1 u2 u3 e [.int (.ofNat (0+r)) (U 0)] (U 5) (.ref row) (.int (.ofNat 1) 0) ms (GN (n+1)),
   pG (Pw w Z V) n row M z1 z2 z3 z4 pN tn (U 0) (0+r) (U 1) (.int (.ofNat r) u1) (U 2) t1 t2 tg (U 3) .none (U 4) (.int (.ofNat r) u1) 3 r s u1 u2 u3 e [.int (.ofNat (0+r)) (U 0)] (U 5) (.ref row) (.int (.ofNat 1) 0)⟩)
noncomputable def iH(w:World)(Z V:Bool)(n:Nat)(mf ga fr row M it:Addr)(z1 z2 z3 z4:Tok)(pN:Nat)(tn tp:Tok)(p:Nat)(z5:Tok)(v5:Value)(ef:Nat)(t1 t2 tg ta tb:Tok)(eg:Nat)(r s:Nat)(u1 u2 u3:Tok)(e:Nat)(vs:List Value)(em:Nat)(v1:Value)(ms:List Nat)(hg:decide ((.ofNat (p+s):Int)> .ofNat pN)=false)(hv:vs.length<2^20):SegIn × ((Nat→Addr)→(Nat→Tok)→(Nat→Value)→Nxt):=
 (⟨eX (Pw w Z V) (GS n (bj (gA (W2 w Z V) fr row it r))) n mf ga fr row M it z1 z2 z3 z4 pN tn tp p z5 v5 ef t1 t2 tg ta v1 tb (.int (.ofNat s) u2) eg r s u1 u2 u3 e vs em (.ref row) (.int (.ofNat 2) 0) ms (GN (n+1)),aa [mf,ga,fr,row,M,it],pG (Pw w Z V) n row M z1 z2 z3 z4 pN tn tp p z5 v5 ef t1 t2 tg ta v1 tb (.int (.ofNat s) u2) eg r s u1 u2 u3 e vs em (.ref row) (.int (.ofNat 2) 0)⟩,
  λC U O=>⟨eX (Pw w Z V) (GS n (bj (gB (W2 w Z V) fr row it r s))) n mf ga fr row M it z1 z2 z3 z4 pN tn (U 0) (p+s) (U 1) (.int (.ofNat s) u2) (U 2) t1 t2 tg (U 3) (.int (.ofNat s) u2) (U 4) (.int (.ofNat 0) u3) (U 5) r s u1 u2 u3 e (vs++[.int (.ofNat (p+s)) (U 0)]) (U 6) (.ref row) (.int (.ofNat 3) 0) ms (GN (n+1)),
   pG (Pw w Z V) n row M z1 z2 z3 z4 pN tn (U 0) (p+s) (U 1) (.int (.ofNat s) u2) (U 2) t1 t2 tg (U 3) (.int (.ofNat s) u2) (U 4) (.int (.ofNat 0) u3) (U 5) r s u1 u2 u3 e (vs++[.int (.ofNat (p+s)) (U 0)]) (U 6) (.ref row) (.int (.ofNat 3) 0)⟩)
end
section
open PySem PySem.W PySem.W.X PySem.Builtin
variable{w:World}{Z V:Bool}{n pN ef r s e em p eg a b:Nat}{mf ga fr row M it:Addr}{z1 z2 z3 z4 tn tp t1 t2 tg u1 u2 u3 z5 ta tb:Tok}{ms:List Nat}{v5 v1:Value}
theorem ml0(h1:((.ofNat r:Int)==127)=false)(h2:((.ofNat r:Int)==0)=false)(hg:decide ((.ofNat (0+r):Int)> .ofNat pN)=false)(nx:∀C U O,Ok (W2 w Z V) 5 ((iI w Z V n mf ga fr row M z1 z2 z3 z4 pN tn tp ef t1 t2 tg r s u1 u2 u3 e em ms h1 h2 hg).2 C U O).s):Ok (W2 w Z V) 5 (iI w Z V n mf ga fr row M z1 z2 z3 z4 pN tn tp ef t1 t2 tg r s u1 u2 u3 e em ms h1 h2 hg).1.s:=
 qy (iI w Z V n mf ga fr row M z1 z2 z3 z4 pN tn tp ef t1 t2 tg r s u1 u2 u3 e em ms h1 h2 hg).1 (iI w Z V n mf ga fr row M z1 z2 z3 z4 pN tn tp ef t1 t2 tg r s u1 u2 u3 e em ms h1 h2 hg).2 [5] (λN=>[(N.t 3),(N.t 2),(ef+1),(N.t 0),(N.t 1),(N.t 5)]) (λN=>[]) 52
  (.i [165]::.f [1,2,3] (λN=>ya (W2 w Z V) n ga fr row t1 t2 tg r s u1 u2 u3 e)::.i (ub 8 0xa4a4a4a4a4a4a4a4)::.f [] (λN=>cGt (GS n (bj (gA (W2 w Z V) fr row (cut 1 (λ(q:Nat)=>(N.r (5+q))) 0) r))) (0+(.ofNat r)) (.ofNat pN) (N.t 3) tn false)::.i (ub 6 0xa4a8a8a8a8a4)::.f [4] (λN=>am (GS n (bj (gA (W2 w Z V) fr row (cut 1 (λ(q:Nat)=>(N.r (5+q))) 0) r))) M [] em (.int (0+(.ofNat r)) (N.t 3)))::[])
  (sE (sg1 (by kernel_rfl)) Z)
  (λN=>⟨okU (BC h1 h2),⟨okU (kGt hg),⟨okU (ao),trivial⟩⟩⟩) nx (λN C U O=>by refine⟨?_,?_,?_,?_,?_,trivial⟩<;>first | exact Or.inl rfl | exact Or.inr rfl) (ex:=xn)
section
variable{w:World}{Z V:Bool}{n:Nat}{mf ga fr row M it:Addr}{z1 z2 z3 z4:Tok}{pN:Nat}{tn tp:Tok}{p:Nat}{z5:Tok}{v5:Value}{ef:Nat}{t1 t2 tg ta tb:Tok}{eg r s:Nat}{u1 u2 u3:Tok}{e:Nat}{vs:List Value}{em:Nat}{ms:List Nat}{v v1 x0 x1:Value}
theorem ml1(h1:((.ofNat s:Int)==127)=false)(h2:((.ofNat s:Int)==0)=false)(hg:decide ((.ofNat (p+s):Int)> .ofNat pN)=false)(hv:vs.length<2^20)(nx:NX λC U O=>Ok (W2 w Z V) 5 (eX (Pw w Z V) (GS n (bj (gA (W2 w Z V) fr row it r))) n mf ga fr row M it z1 z2 z3 z4 pN tn (U 0) (p+s) (U 1) (.int (.ofNat s) u2) (U 2) t1 t2 tg (U 3) (.int (.ofNat r) u1) (U 4) (.int (.ofNat s) u2) (U 5) r s u1 u2 u3 e (vs++[.int (.ofNat (p+s)) (U 0)]) (U 6) (.ref row) (.int (.ofNat 2) 0) ms (GN (n+1)))):Ok (W2 w Z V) 5 (eX (Pw w Z V) (GS n (bj (gA (W2 w Z V) fr row it r))) n mf ga fr row M it z1 z2 z3 z4 pN tn tp p z5 v5 ef t1 t2 tg ta .none tb (.int (.ofNat r) u1) eg r s u1 u2 u3 e vs em (.ref row) (.int (.ofNat 1) 0) ms (GN (n+1))):=
 aj nx (λN=>List.map N.r []) (λN=>[(N.t 2),z5,ef,ta,tb,(N.t 0),(N.t 4)]) (λN=>[]) 52
 (.i [165]::.f [1,2,3,5] (λN=>tU (W2 w Z V) n ga fr row t1 t2 tg r s u1 u2 u3 e it ta tb eg)::.i (ub 8 0xa4a4a4a4a4a4a4a4)::.f [] (λN=>cGt (GS n (bj (gA (W2 w Z V) fr row it r))) ((.ofNat p)+(.ofNat s)) (.ofNat pN) (N.t 2) tn false)::.i (ub 6 0xa4a8a8a8a8a4)::.f [4] (λN=>am (GS n (bj (gA (W2 w Z V) fr row it r))) M vs em (.int ((.ofNat p)+(.ofNat s)) (N.t 2)))::[])
 (sE (sg1 (by kernel_rfl)) Z) (λN=>⟨okU (xN h1 h2),okU (kGt hg),okU (ao hv),trivial⟩)
theorem Bk(h1:((.ofNat s:Int)==127)=false)(h2:((.ofNat s:Int)==0)=false)(hg:decide ((.ofNat (p+s):Int)> .ofNat pN)=true):Ok (W2 w Z V) 5 (eX (Pw w Z V) (GS n (bj (gA (W2 w Z V) fr row it r))) n mf ga fr row M it z1 z2 z3 z4 pN tn tp p z5 v5 ef t1 t2 tg ta .none tb (.int (.ofNat r) u1) eg r s u1 u2 u3 e (qIL ms v) em (.ref row) (.int (.ofNat 1) 0) ms (GS n (bj (gA (W2 w Z V) fr row it r)))):=
 okC [] 39 (λN=>[z5,ef,ta,tb,(N.t 0),em]) (λN=>[(.int ((.ofNat p)+(.ofNat s)) (N.t 2)),(.int (.ofNat s) u2),(.int (.ofNat r) u1),(.int (.ofNat s) u2),v,(.ref row),(.int 2 0)])
 (.i [165]::.f [1,2,3,5] (λN=>tU (W2 w Z V) n ga fr row t1 t2 tg r s u1 u2 u3 e it ta tb eg)::.i (ub 8 0xa4a4a4a4a4a4a4a4)::.f [] (λN=>cGt (GS n (bj (gA (W2 w Z V) fr row it r))) ((.ofNat p)+(.ofNat s)) (.ofNat pN) (N.t 2) tn true)::[])
 (sE (sg1 (by kernel_rfl)) Z) (λN=>⟨okU (xN h1 h2),okU (kGt hg),trivial⟩)
end
theorem ml2{vs:List Value}(hg:decide ((.ofNat (p+s):Int)> .ofNat pN)=false)(hv:vs.length<2^20)(nx:∀C U O,Ok (W2 w Z V) 5 ((iH w Z V n mf ga fr row M it z1 z2 z3 z4 pN tn tp p z5 v5 ef t1 t2 tg ta tb eg r s u1 u2 u3 e vs em v1 ms hg hv).2 C U O).s):Ok (W2 w Z V) 5 (iH w Z V n mf ga fr row M it z1 z2 z3 z4 pN tn tp p z5 v5 ef t1 t2 tg ta tb eg r s u1 u2 u3 e vs em v1 ms hg hv).1.s:=
 qz (iH w Z V n mf ga fr row M it z1 z2 z3 z4 pN tn tp p z5 v5 ef t1 t2 tg ta tb eg r s u1 u2 u3 e vs em v1 ms hg hv).1 (iH w Z V n mf ga fr row M it z1 z2 z3 z4 pN tn tp p z5 v5 ef t1 t2 tg ta tb eg r s u1 u2 u3 e vs em v1 ms hg hv).2 (λN=>List.map N.r []) (λN=>[(N.t 2),z5,ef,ta,tb,(N.t 0),(N.t 4)]) (λN=>[]) 52
  (.i [165]::.f [1,2,3,5] (λN=>(tT (W2 w Z V) n ga fr row t1 t2 tg r s u1 u2 u3 e it ta tb eg v1))::.i (ub 8 0xa4a4a4a4a4a4a4a4)::.f [] (λN=>(cGt (GS n (bj (gB (W2 w Z V) fr row it r s))) ((Int.ofNat p)+(Int.ofNat s)) (Int.ofNat pN) (N.t 2) tn Bool.false))::.i (ub 6 0xa4a8a8a8a8a4)::.f [4] (λN=>(am (GS n (bj (gB (W2 w Z V) fr row it r s))) M vs em (Value.int ((Int.ofNat p)+(Int.ofNat s)) (N.t 2))))::[])
  (sE (sg1 (by kernel_rfl)) Z) (λN C U O=>by refine⟨?_,?_,?_,?_,?_,?_,trivial⟩<;>first | exact Or.inl rfl | exact Or.inr rfl)
  (λN=>⟨okU (xM),⟨okU (kGt hg),⟨okU (ao hv),trivial⟩⟩⟩) nx (hF:=λ_ _ _=>⟨by kernel_rfl,by kernel_rfl,by kernel_rfl,by kernel_rfl,by kernel_rfl⟩)
section
variable{w:World}{Z V:Bool}{n:Nat}{mf ga fr row M it:Addr}{z1 z2 z3 z4:Tok}{pN:Nat}{tn tp:Tok}{p:Nat}{z5:Tok}{v5:Value}{ef:Nat}{t1 t2 tg ta tb:Tok}{eg r s:Nat}{u1 u2 u3:Tok}{e:Nat}{vs:List Value}{em:Nat}{ms:List Nat}{v v1 x0 x1:Value}
theorem Bj(hg:decide ((.ofNat (p+s):Int)> .ofNat pN)=true):Ok (W2 w Z V) 5 (eX (Pw w Z V) (GS n (bj (gA (W2 w Z V) fr row it r))) n mf ga fr row M it z1 z2 z3 z4 pN tn tp p z5 v5 ef t1 t2 tg ta v1 tb (.int (.ofNat s) u2) eg r s u1 u2 u3 e (qIL ms v) em (.ref row) (.int (.ofNat 2) 0) ms (GS n (bj (gB (W2 w Z V) fr row it r s)))):=
 okC [] 39 (λN=>[z5,ef,ta,tb,(N.t 0),em]) (λN=>[(.int ((.ofNat p)+(.ofNat s)) (N.t 2)),(.int (.ofNat s) u2),(.int (.ofNat s) u2),(.int 0 u3),v,(.ref row),(.int 3 0)])
 (.i [165]::.f [1,2,3,5] (λN=>tT (W2 w Z V) n ga fr row t1 t2 tg r s u1 u2 u3 e it ta tb eg v1)::.i (ub 8 0xa4a4a4a4a4a4a4a4)::.f [] (λN=>cGt (GS n (bj (gB (W2 w Z V) fr row it r s))) ((.ofNat p)+(.ofNat s)) (.ofNat pN) (N.t 2) tn true)::[])
 (sE (sg1 (by kernel_rfl)) Z) (λN=>⟨okU (xM),okU (kGt hg),trivial⟩)
theorem ml3(hg:decide ((.ofNat (p+s):Int)> .ofNat pN)=false)(hv:vs.length<2^20)(nx:NX λC U O=>Ok (W2 w Z V) 5 (eX (Pw w Z V) (GS n (bj (gB (W2 w Z V) fr row it r s))) n mf ga fr row M it z1 z2 z3 z4 pN tn (U 0) (p+s) (U 1) (.int (.ofNat s) u2) (U 2) t1 t2 tg (U 3) (.int (.ofNat s) u2) (U 4) v1 (U 5) r s u1 u2 u3 e (vs++[.int (.ofNat (p+s)) (U 0)]) (U 6) x0 x1 ms (GN (n+1)))):Ok (W2 w Z V) 5 (eX (Pw w Z V) (GS n (bj (gB (W2 w Z V) fr row it r s))) n mf ga fr row M it z1 z2 z3 z4 pN tn tp p z5 v5 ef t1 t2 tg ta (.int (.ofNat s) u2) tb v1 eg r s u1 u2 u3 e vs em x0 x1 ms (GN (n+1))):=
 aj nx (λN=>List.map N.r []) (λN=>[(N.t 1),z5,ef,ta,tb,eg,(N.t 3)]) (λN=>[]) 52
 (.i [165]::.f [1,2] (λN=>tS (W2 w Z V) n ga fr row t1 t2 tg r s u2 it ta tb eg v1)::.i (ub 8 0xa4a4a4a4a4a4a4a4)::.f [] (λN=>cGt (GS n (bj (gB (W2 w Z V) fr row it r s))) ((.ofNat p)+(.ofNat s)) (.ofNat pN) (N.t 1) tn false)::.i (ub 6 0xa4a8a8a8a8a4)::.f [4] (λN=>am (GS n (bj (gB (W2 w Z V) fr row it r s))) M vs em (.int ((.ofNat p)+(.ofNat s)) (N.t 1)))::[])
 (sE (sg1 (by kernel_rfl)) Z) (λN=>⟨okU (xL),okU (kGt hg),okU (ao hv),trivial⟩)
theorem xp(hg:decide ((.ofNat (p+s):Int)> .ofNat pN)=true):Ok (W2 w Z V) 5 (eX (Pw w Z V) (GS n (bj (gB (W2 w Z V) fr row it r s))) n mf ga fr row M it z1 z2 z3 z4 pN tn tp p z5 v5 ef t1 t2 tg ta (.int (.ofNat s) u2) tb v1 eg r s u1 u2 u3 e (qIL ms v) em x0 x1 ms (GS n (bj (gB (W2 w Z V) fr row it r s)))):=
 okC [] 39 (λN=>[z5,ef,ta,tb,eg,em]) (λN=>[(.int ((.ofNat p)+(.ofNat s)) (N.t 1)),(.int (.ofNat s) u2),(.int (.ofNat s) u2),v1,v,x0,x1])
 (.i [165]::.f [1,2] (λN=>tS (W2 w Z V) n ga fr row t1 t2 tg r s u2 it ta tb eg v1)::.i (ub 8 0xa4a4a4a4a4a4a4a4)::.f [] (λN=>cGt (GS n (bj (gB (W2 w Z V) fr row it r s))) ((.ofNat p)+(.ofNat s)) (.ofNat pN) (N.t 1) tn true)::[])
 (sE (sg1 (by kernel_rfl)) Z) (λN=>⟨okU (xL),okU (kGt hg),trivial⟩)
end
theorem Ok.gw{lv:Nat}{c:Code}{pre:List (Addr × Option Obj)}{G:GP}{G' G'':GQ}{nn nt nz:Nat}{F:FT}(h:Ok w lv ⟨c,pre,G,G',nn,nt,nz,F⟩)(hg:∀C gs,G' C gs→G'' C gs):Ok w lv ⟨c,pre,G,G'',nn,nt,nz,F⟩:=
 λA R hp gs d U os hA hG hB hP K=>h A R hp gs d U os hA hG hB hP λh' Zt ZM C ZB O Zq P=>K h' Zt ZM C ZB O (hg _ _ Zq) P
noncomputable def mk3(s pN:Nat):Nat→Nat→List Nat
 | 0,_=>[]
 | d+1,p=>if p+s>pN then[]else(p+s)::mk3 s pN d (p+s)
theorem jd{d:Nat}(h:p+s>pN):mk3 s pN d p=[]:=by
 cases d with
 | zero=>rfl
 | succ d=>exact if_pos h
theorem jn(h:b<a):decide ((.ofNat a:Int)> .ofNat b)=true:=decide_eq_true (by show(b:Int)<(a:Int);lia)
theorem je(h:a≤b):decide ((.ofNat a:Int)> .ofNat b)=false:=decide_eq_false (by show ¬(b:Int)<(a:Int);lia)
theorem nL{w:World}{Z V:Bool}{n:Nat}{mf ga fr row M it:Addr}{z1 z2 z3 z4:Tok}{pN:Nat}{tn:Tok}{t1 t2 tg:Tok}{r s:Nat}{u1 u2 u3:Tok}{e:Nat}(hs:0<s):∀(d p:Nat) (ds:List Nat) (tp z5:Tok) (v5:Value) (ef:Nat) (ta tb:Tok) (eg em:Nat) (v v1 x0 x1:Value),pN<p+d→ds.length+d<2^20→
  Ok (W2 w Z V) 5 (eX (Pw w Z V) (GS n (bj (gB (W2 w Z V) fr row it r s))) n mf ga fr row M it z1 z2 z3 z4 pN tn tp p z5 v5 ef t1 t2 tg ta (.int (.ofNat s) u2) tb v1 eg r s u1 u2 u3 e (qIL ds v) em x0 x1 (ds++mk3 s pN d p) (GN (n+1)))
 | 0,p,ds,tp,z5,v5,ef,ta,tb,eg,em,v,v1,x0,x1,h,hl=>by
  rw[jd (by lia),List.append_nil]
  exact(xp (jn (by lia))).gw λ_ _ h=>h.gn
 | d+1,p,ds,tp,z5,v5,ef,ta,tb,eg,em,v,v1,x0,x1,h,hl=>by
  by_cases hg:p+s>pN
  ·rw[jd hg,List.append_nil]
   exact(xp (jn hg)).gw λ_ _ h=>h.gn
  ·refine ml3 (je (by lia)) (by rw[az];lia) λC U O=>?_
   obtain⟨v',hv⟩:=aI ds v (p+s) (U 0)
   have:=nL (w:=w) (Z:=Z) (V:=V) (n:=n) (mf:=mf) (ga:=ga) (fr:=fr) (row:=row) (M:=M) (it:=it) (z1:=z1) (z2:=z2) (z3:=z3) (z4:=z4) (pN:=pN) (tn:=tn) (t1:=t1) (t2:=t2) (tg:=tg) (r:=r) (s:=s) (u1:=u1) (u2:=u2) (u3:=u3) (e:=e) hs d (p+s) (ds++[p+s]) (U 0) (U 1) (.int (.ofNat s) u2) (U 2) (U 3) (U 4) (U 5) (U 6) v' v1 x0 x1 (by lia) (by rw[List.length_append];simp only[List.length_cons,List.length_nil];lia)
   have e:mk3 s pN (d+1) p=(p+s)::mk3 s pN d (p+s):=if_neg hg
   rw[hv,List.append_assoc]at this
   rw[e]
   exact this
noncomputable def ab(r s pN:Nat):List Nat:=(0+r)::mk3 s pN (pN+2) (0+r)
theorem td{ds:List Nat}{v:Value}(hs:0<s)(d:Nat)(h:pN<p+d)(hl:ds.length+d<2^19):
  Ok (W2 w Z V) 5 (eX (Pw w Z V) (GS n (bj (gA (W2 w Z V) fr row it r))) n mf ga fr row M it z1 z2 z3 z4 pN tn tp p z5 v5 ef t1 t2 tg ta v1 tb (.int (.ofNat s) u2) eg r s u1 u2 u3 e (qIL ds v) em (.ref row) (.int (.ofNat 2) 0) (ds++mk3 s pN (d+1) p) (GN (n+1))):=by
 by_cases hg:p+s>pN
 ·rw[jd hg,List.append_nil]
  exact(Bj (jn hg)).gw λ_ _ h=>h.gn
 ·refine ml2 (je (by lia)) (by rw[az];lia) λC U O=>?_
  obtain⟨v',hv⟩:=aI ds v (p+s) (U 0)
  have:=nL (w:=w) (Z:=Z) (V:=V) (n:=n) (mf:=mf) (ga:=ga) (fr:=fr) (row:=row) (M:=M) (it:=it) (z1:=z1) (z2:=z2) (z3:=z3) (z4:=z4) (pN:=pN) (tn:=tn) (t1:=t1) (t2:=t2) (tg:=tg) (r:=r) (s:=s) (u1:=u1) (u2:=u2) (u3:=u3) (e:=e) hs d (p+s) (ds++[p+s]) (U 0) (U 1) (.int (.ofNat s) u2) (U 2) (U 3) (U 4) (U 5) (U 6) v' (.int (.ofNat 0) u3) (.ref row) (.int (.ofNat 3) 0) (by lia) (by rw[List.length_append];simp only[List.length_cons,List.length_nil];lia)
  have e:mk3 s pN (d+1) p=(p+s)::mk3 s pN d (p+s):=if_neg hg
  rw[hv,List.append_assoc]at this
  rw[e]
  exact this
theorem eW(h:a≠b):((.ofNat a:Int)==.ofNat b)=false:=by
 rw[beq_eq_false_iff_ne]
 intro e
 exact h (Int.ofNat.inj e)
noncomputable def uJ(w:World)(Z V:Bool)(r s pN:Nat)(ms:List Nat):Prop:=∀(n:Nat) (mf ga fr row M:Addr) (z1 z2 z3 z4 tn tp:Tok) (ef:Nat) (t1 t2 tg u1 u2 u3:Tok) (e em:Nat),Ok (W2 w Z V) 5 (pF (Pw w Z V) n mf ga fr row M z1 z2 z3 z4 pN tn tp ef t1 t2 tg r s u1 u2 u3 e em ms)
theorem xo(hr:0<r)(hs:0<s)(hrN:r≤pN)(hN:pN<2^10)(h127:r≠127)(hs127:s≠127):uJ w Z V r s pN (ab r s pN):=by
 intro n mf ga fr row M z1 z2 z3 z4 tn tp ef t1 t2 tg u1 u2 u3 e em
 refine ml0 (eW h127) (eW (b:=0) (by lia)) (je (by lia)) λC U O=>?_
 show Ok (W2 w Z V) 5 (eX (Pw w Z V) (GS n (bj (gA (W2 w Z V) fr row (C 0) r))) n mf ga fr row M (C 0) z1 z2 z3 z4 pN tn (U 0) (0+r) (U 1) (.int (.ofNat r) u1) (U 2) t1 t2 tg (U 3) .none (U 4) (.int (.ofNat r) u1) 3 r s u1 u2 u3 e (qIL [0+r] (.str (mS [U 0]) 0)) (U 5) (.ref row) (.int (.ofNat 1) 0) (ab r s pN) (GN (n+1)))
 by_cases hg:0+r+s>pN
 ·have e:ab r s pN=[0+r]:=by
   unfold ab
   rw[jd hg]
  rw[e]
  exact(Bk (eW hs127) (eW (b:=0) (by lia)) (jn hg)).gw λ_ _ h=>h.gn
 ·refine ml1 (eW hs127) (eW (b:=0) (by lia)) (je (by lia)) (by rw[az];show 1<2^20;decide) λas' ZM zs'=>?_
  obtain⟨v',hv⟩:=aI [0+r] (.str (mS [U 0]) 0) (0+r+s) (ZM 0)
  have:=td (w:=w) (Z:=Z) (V:=V) (n:=n) (mf:=mf) (ga:=ga) (fr:=fr) (row:=row) (M:=M) (it:=C 0) (z1:=z1) (z2:=z2) (z3:=z3) (z4:=z4) (pN:=pN) (tn:=tn) (t1:=t1) (t2:=t2) (tg:=tg) (r:=r) (s:=s) (u1:=u1) (u2:=u2) (u3:=u3) (e:=e) (p:=0+r+s) (ds:=[0+r]++[0+r+s]) (tp:=ZM 0) (z5:=ZM 1) (v5:=(.int (.ofNat s) u2)) (ef:=ZM 2) (ta:=ZM 3) (tb:=ZM 4) (eg:=ZM 5) (em:=ZM 6) (v:=v') (v1:=(.int (.ofNat r) u1)) hs pN (by lia) (by simp only[List.length_append,List.length_cons,List.length_nil];lia)
  have e:ab r s pN=[0+r]++[0+r+s]++mk3 s pN (pN+1) (0+r+s):=by
   unfold ab
   have e2:mk3 s pN (pN+2) (0+r)=(0+r+s)::mk3 s pN (pN+1) (0+r+s):=if_neg hg
   rw[e2];rfl
  rw[hv]at this
  rw[e]
  exact this
end
section
open PySem PySem.W PySem.W.X PySem.Builtin
noncomputable def ups(n:Nat):List Nat:=(List.range n).map λi=>i+1
theorem o6(n:Nat):(ups n).map fS=upS n:=by
 unfold ups upS
 rw[List.map_map];rfl
theorem cC(n:Nat):(ups n).length=n:=by simp[ups]
theorem rg{n c:Nat}(h:c∈ups n):c≤n:=by
 unfold ups at h
 obtain⟨i,hi,rfl⟩:=List.mem_map.mp h
 have:=List.mem_range.mp hi
 lia
theorem mv(ms l:List Nat):(ae ms l).length≤l.length:=List.length_filter_le _ _
theorem mu{ms l:List Nat}{c:Nat}(h:c∈ae ms l):c∈l:=(List.mem_filter.mp h).1
noncomputable def mH(g e:Nat):Nat→List Nat→Bool
 | c,[]=>Nat.ble e (c+g)
 | c,d::l=>Nat.ble d (c+g)&&mH g e d l
noncomputable def ul:List Nat→List Nat→Bool
 | [],[]=>true
 | a::l,b::k=>Nat.beq a b&&ul l k
 | _,_=>false
theorem lG:∀{l k:List Nat},ul l k=true→l=k
 | [],[],_=>rfl
 | [],_::_,h=>by cases h
 | _::_,[],h=>by cases h
 | a::l,b::k,h=>by
  have h':=(Bool.and_eq_true _ _).mp h
  rw[Nat.eq_of_beq_eq_true h'.1,lG h'.2]
noncomputable def gy(pN r s:Nat):Bool:=Nat.blt 0 r&&Nat.ble r s&&Nat.ble s 12&&Nat.ble s pN
theorem bT{pN r s:Nat}(h:gy pN r s=true):0<r∧r≤s∧s≤12∧s≤pN:=by
 unfold gy at h
 simp only[Bool.and_eq_true]at h
 exact⟨Nat.le_of_ble_eq_true h.1.1.1,Nat.le_of_ble_eq_true h.1.1.2,Nat.le_of_ble_eq_true h.1.2,Nat.le_of_ble_eq_true h.2⟩
noncomputable def ti(f:Nat→List Nat):Nat→Bool
 | 0=>true
 | q+1=>(match q with
  | 0=>true
  | _=>match f q with
   | []=>false
   | _=>true)&&ti f q
theorem jW{f:Nat→List Nat}:∀{n:Nat},ti f n=true→∀q,1≤q→q<n→f q≠[]
 | 0,_,q,_,h=>by lia
 | n+1,h,q,h1,h2=>by
  have h':=(Bool.and_eq_true _ _).mp h
  by_cases e:q=n
  ·subst e
   intro hz
   have:=h'.1
   cases q with
   | zero=>lia
   | succ q=>
    rw[hz]at this
    cases this
  ·exact jW h'.2 q h1 (by lia)
noncomputable def tlB(g pN:Nat):List Nat→Bool
 | []=>true
 | c::l=>mH g (c+pN) c l&&Nat.ble c g
noncomputable def nlB:List Nat→Bool
 | []=>true
 | _=>false
theorem sZ:∀{l:List Nat},nlB l=true→l=[]
 | [],_=>rfl
 | _::_,h=>by cases h
noncomputable def oB(pN:Nat)(f nd:Nat→List Nat)(g:Nat)(q:List Nat):Bool:=
 Nat.blt 0 pN&&(Nat.blt pN 500&&(nlB (nd pN)&&(ti nd pN&&(ul (aP f 1 pN) q&&tlB g pN q))))
theorem jp{pN:Nat}{f nd:Nat→List Nat}{g:Nat}{q:List Nat}(h:oB pN f nd g q=true):0<pN∧pN<500∧nd pN=[]∧(∀q,1≤q→q<pN→nd q≠[])∧aP f 1 pN=q∧tlB g pN q=true:=by
 unfold oB at h
 simp only[Bool.and_eq_true]at h
 exact⟨Nat.le_of_ble_eq_true h.1,Nat.le_of_ble_eq_true h.2.1,sZ h.2.2.1,jW h.2.2.2.1,lG h.2.2.2.2.1,h.2.2.2.2.2⟩
noncomputable def q2(pN r0 s0 r1 s1:Nat):List Nat:=ae (ab r1 s1 pN) (ae (ab r0 s0 pN) (ups pN))
noncomputable def q3(pN r0 s0 r1 s1 r2 s2:Nat):List Nat:=ae (ab r2 s2 pN) (q2 pN r0 s0 r1 s1)
noncomputable def q4(pN r0 s0 r1 s1 r2 s2 r3 s3:Nat):List Nat:=ae (ab r3 s3 pN) (q3 pN r0 s0 r1 s1 r2 s2)
noncomputable def km(pN:Nat):List (Nat × Nat)→Bool
 | [(r0,s0),(r1,s1)]=>gy pN r0 s0&&(gy pN r1 s1&&oB pN (λx=>oc2 x r0 s0 r1 s1) (λp=>nd2 p s0 s1) 4 (q2 pN r0 s0 r1 s1))
 | [(r0,s0),(r1,s1),(r2,s2)]=>gy pN r0 s0&&(gy pN r1 s1&&(gy pN r2 s2&&oB pN (λx=>oc3 x r0 s0 r1 s1 r2 s2) (λp=>nd3 p s0 s1 s2) 8 (q3 pN r0 s0 r1 s1 r2 s2)))
 | [(r0,s0),(r1,s1),(r2,s2),(r3,s3)]=>gy pN r0 s0&&(gy pN r1 s1&&(gy pN r2 s2&&(gy pN r3 s3&&oB pN (λx=>oc4 x r0 s0 r1 s1 r2 s2 r3 s3) (λp=>nd4 p s0 s1 s2 s3) 16 (q4 pN r0 s0 r1 s1 r2 s2 r3 s3))))
 | _=>false
noncomputable def tr:List (Nat × Nat)→Nat
 | []=>1
 | p::l=>Nat.lcm p.2 (tr l)
noncomputable def chk(l:List (Nat × Nat)):Bool:=km (tr l) l
theorem qg:RS.all chk=true:=by decide+kernel
theorem qf{l:List (Nat × Nat)}(h:l∈RS):km (tr l) l=true:=List.all_eq_true.mp qg l h
end
section
open PySem PySem.W PySem.W.X PySem.Builtin
structure Tok1 (tok:List Nat) (r q s:Nat):Prop where
 al:∀c∈tok,c∈bs
 h0:0<tok.length
 hl:tok.length<2^20
 hj:(a8 tok).flatten=fi r q
 hcf:aG (fi r q) [102]=r
 hci:aG (fi r q) [105]=q
 hr:r<2^10
 hq:q<2^10
 hs:r+q=s
variable{tok x ZN:List Nat}{r q s p ln p' p2 d ln2 r0 s0 r1 s1 r2 s2:Nat}{w:World}{Z V:Bool}{l:List (Nat × Nat)}
theorem Tok1.hw(h:Tok1 tok r q s):(tok !=[])=true:=by
 have:=h.h0
 cases tok with
 | nil=>exact absurd this (Nat.lt_irrefl _)
 | cons a l=>rfl
theorem Tok1.hz(h:Tok1 tok r q s):(fi r q).length<2^20:=by
 have:=bP r q
 have:=h.hr
 have:=h.hq
 lia
theorem Tok1.hle(h:Tok1 tok r q s):(fi r q).length=s:=(bP r q).trans h.hs
theorem Tok1.hss(h:Tok1 tok r q s):s<2^20:=by
 have:=h.hr
 have:=h.hq
 have:=h.hs
 lia
theorem b6(x:List Nat):(x !=x)=false:=by simp
noncomputable def yI(w:World)(Z V:Bool)(x:List Nat)(p ln:Nat)(tok:List Nat)(p' Zr:Nat)(l:List (Nat × Nat)):Prop:=∀(G:GP) (fr Z7 Z6 Z8 a b TO L DL S DS R RC KP KT PL PB CT:Addr) (t:Tok) (J:Nat→Value) (u y:Tok) (e:Nat) (y1 y2 y3 y4 y5 y6 y7 y8 y9 Z3 Z4:Tok) (v1 v2 v3:Value) (el es ep:Nat) (z1 z2 z3 z4 z5 z6 z7 z8 z9:Tok) (w3 w4 w5 w6 w7:Value) (ut:Tok) (ef et:Nat),Ok (W2 w Z V) 8 (iE (Pw w Z V) G fr Z7 Z6 Z8 a b TO L DL S DS R RC KP KT PL PB CT t J x u p y e ln y1 y2 y3 y4 y5 y6 y7 y8 y9 Z3 Z4 v1 v2 v3 el es ep z1 z2 z3 z4 z5 z6 z7 z8 z9 w3 w4 w5 w6 w7 tok ut ef et p' Zr l)
noncomputable def uH(w:World)(Z V:Bool)(x:List Nat)(p ln:Nat)(tok:List Nat)(p' Zr:Nat)(l:List (Nat × Nat))(r0 s0:Nat):Prop:=∀(G:GP) (fr Z7 Z6 Z8 a b TO L DL S DS R RC KP KT PL PB CT:Addr) (t:Tok) (J:Nat→Value) (u y:Tok) (e:Nat) (y1 y2 y3 y4 y5 y6 y7 y8 y9 Z3 Z4:Tok) (v1 v2 v3:Value) (el es ep:Nat) (z1 z2 z3 z4 z5 z6 z7 z8 z9:Tok) (w3 w4 w5 w6 w7:Value) (ut zp:Tok) (vp:Value) (ef et:Nat) (g0:Addr) (k0 l0:Tok),Ok (W2 w Z V) 8 (mZ (Pw w Z V) G fr Z7 Z6 Z8 a b TO L DL S DS R RC KP KT PL PB CT t J x u p y e ln y1 y2 y3 y4 y5 y6 y7 y8 y9 Z3 Z4 v1 v2 v3 el es ep z1 z2 z3 z4 z5 z6 z7 z8 z9 w3 w4 w5 w6 w7 tok ut zp vp ef et g0 r0 s0 k0 l0 p' Zr l)
noncomputable def oT(w:World)(Z V:Bool)(x:List Nat)(p ln:Nat)(tok:List Nat)(p' Zr:Nat)(l:List (Nat × Nat))(r0 s0 r1 s1:Nat):Prop:=∀(G:GP) (fr Z7 Z6 Z8 a b TO L DL S DS R RC KP KT PL PB CT:Addr) (t:Tok) (J:Nat→Value) (u y:Tok) (e:Nat) (y1 y2 y3 y4 y5 y6 y7 y8 y9 Z3 Z4:Tok) (v1 v2 v3:Value) (el es ep:Nat) (z1 z2 z3 z4 z5 z6 z7 z8 z9:Tok) (w3 w4 w5 w6 w7:Value) (ut zp:Tok) (vp:Value) (ef et:Nat) (g0 g1:Addr) (k0 l0 k1 l1:Tok),Ok (W2 w Z V) 8 (l6 (Pw w Z V) G fr Z7 Z6 Z8 a b TO L DL S DS R RC KP KT PL PB CT t J x u p y e ln y1 y2 y3 y4 y5 y6 y7 y8 y9 Z3 Z4 v1 v2 v3 el es ep z1 z2 z3 z4 z5 z6 z7 z8 z9 w3 w4 w5 w6 w7 tok ut zp vp ef et g0 g1 r0 s0 r1 s1 k0 l0 k1 l1 p' Zr l)
noncomputable def oS(w:World)(Z V:Bool)(x:List Nat)(p ln:Nat)(tok:List Nat)(p' Zr:Nat)(l:List (Nat × Nat))(r0 s0 r1 s1 r2 s2:Nat):Prop:=∀(G:GP) (fr Z7 Z6 Z8 a b TO L DL S DS R RC KP KT PL PB CT:Addr) (t:Tok) (J:Nat→Value) (u y:Tok) (e:Nat) (y1 y2 y3 y4 y5 y6 y7 y8 y9 Z3 Z4:Tok) (v1 v2 v3:Value) (el es ep:Nat) (z1 z2 z3 z4 z5 z6 z7 z8 z9:Tok) (w3 w4 w5 w6 w7:Value) (ut zp:Tok) (vp:Value) (ef et:Nat) (g0 g1 g2:Addr) (k0 l0 k1 l1 k2 l2:Tok),Ok (W2 w Z V) 8 (l5 (Pw w Z V) G fr Z7 Z6 Z8 a b TO L DL S DS R RC KP KT PL PB CT t J x u p y e ln y1 y2 y3 y4 y5 y6 y7 y8 y9 Z3 Z4 v1 v2 v3 el es ep z1 z2 z3 z4 z5 z6 z7 z8 z9 w3 w4 w5 w6 w7 tok ut zp vp ef et g0 g1 g2 r0 s0 r1 s1 r2 s2 k0 l0 k1 l1 k2 l2 p' Zr l)
noncomputable def uG(w:World)(Z V:Bool)(x:List Nat)(p ln:Nat)(tok:List Nat)(p' Zr:Nat)(l:List (Nat × Nat))(r0 s0 r1 s1 r2 s2 r3 s3:Nat):Prop:=∀(G:GP) (fr Z7 Z6 Z8 a b TO L DL S DS R RC KP KT PL PB CT:Addr) (t:Tok) (J:Nat→Value) (u y:Tok) (e:Nat) (y1 y2 y3 y4 y5 y6 y7 y8 y9 Z3 Z4:Tok) (v1 v2 v3:Value) (el es ep:Nat) (z1 z2 z3 z4 z5 z6 z7 z8 z9:Tok) (w3 w4 w5 w6 w7:Value) (ut zp:Tok) (vp:Value) (ef et:Nat) (g0 g1 g2 g3:Addr) (k0 l0 k1 l1 k2 l2 k3 l3:Tok),Ok (W2 w Z V) 8 (pd (Pw w Z V) G fr Z7 Z6 Z8 a b TO L DL S DS R RC KP KT PL PB CT t J x u p y e ln y1 y2 y3 y4 y5 y6 y7 y8 y9 Z3 Z4 v1 v2 v3 el es ep z1 z2 z3 z4 z5 z6 z7 z8 z9 w3 w4 w5 w6 w7 tok ut zp vp ef et g0 g1 g2 g3 r0 s0 r1 s1 r2 s2 r3 s3 k0 l0 k1 l1 k2 l2 k3 l3 p' Zr l)
theorem rx(h:Tok1 tok r q s)(hG:bo w Z V x p d ZN p')(nx:uH w Z V x p' (ln+d) ZN p2 ln2 l r s):yI w Z V x p ln tok p2 ln2 ((r,s)::l):=by
 unfold yI
 intros
 cases hT:tok.all (λc=>Nat.blt c 128)with
 | true=>exact zC h.hw hT h.al h.h0 h.hl h.hj h.hz h.hcf h.hci h.hr h.hq (b6 _) h.hle h.hss hG λ_ _ _=>by apply nx
 | false=>exact zB h.hw hT h.al h.h0 h.hl h.hj h.hz h.hcf h.hci h.hr h.hq (b6 _) h.hle h.hss hG λ_ _ _=>by apply nx
theorem rv(h:Tok1 tok r q s)(hG:bo w Z V x p d ZN p')(nx:oT w Z V x p' (ln+d) ZN p2 ln2 l r0 s0 r s):uH w Z V x p ln tok p2 ln2 ((r,s)::l) r0 s0:=by
 unfold uH
 intros
 cases hT:tok.all (λc=>Nat.blt c 128)with
 | true=>exact zA h.hw hT h.al h.h0 h.hl h.hj h.hz h.hcf h.hci h.hr h.hq (b6 _) h.hle h.hss hG λ_ _ _=>by apply nx
 | false=>exact zy h.hw hT h.al h.h0 h.hl h.hj h.hz h.hcf h.hci h.hr h.hq (b6 _) h.hle h.hss hG λ_ _ _=>by apply nx
theorem vg(h:Tok1 tok r q s)(hG:bo w Z V x p d ZN p')(nx:oS w Z V x p' (ln+d) ZN p2 ln2 l r0 s0 r1 s1 r s):oT w Z V x p ln tok p2 ln2 ((r,s)::l) r0 s0 r1 s1:=by
 unfold oT
 intros
 cases hT:tok.all (λc=>Nat.blt c 128)with
 | true=>exact zx h.hw hT h.al h.h0 h.hl h.hj h.hz h.hcf h.hci h.hr h.hq (b6 _) h.hle h.hss hG λ_ _ _=>by apply nx
 | false=>exact zw h.hw hT h.al h.h0 h.hl h.hj h.hz h.hcf h.hci h.hr h.hq (b6 _) h.hle h.hss hG λ_ _ _=>by apply nx
theorem zh(h:Tok1 tok r q s)(hG:bo w Z V x p d ZN p')(nx:uG w Z V x p' (ln+d) ZN p2 ln2 l r0 s0 r1 s1 r2 s2 r s):oS w Z V x p ln tok p2 ln2 ((r,s)::l) r0 s0 r1 s1 r2 s2:=by
 unfold oS
 intros
 cases hT:tok.all (λc=>Nat.blt c 128)with
 | true=>exact zv h.hw hT h.al h.h0 h.hl h.hj h.hz h.hcf h.hci h.hr h.hq (b6 _) h.hle h.hss hG λ_ _ _=>by apply nx
 | false=>exact zu h.hw hT h.al h.h0 h.hl h.hj h.hz h.hcf h.hci h.hr h.hq (b6 _) h.hle h.hss hG λ_ _ _=>by apply nx
theorem zt:oT w Z V x p ln [] p ln [] r0 s0 r1 s1:=by
 unfold oT
 intros
 exact rA
theorem zr:oS w Z V x p ln [] p ln [] r0 s0 r1 s1 r2 s2:=by
 unfold oS
 intros
 exact rz
theorem zq{r3 s3:Nat}:uG w Z V x p ln [] p ln [] r0 s0 r1 s1 r2 s2 r3 s3:=by
 unfold uG
 intros
 exact ry
end
section
open PySem PySem.W PySem.W.X PySem.Builtin PySem.Builtin.Str PySem.StrLaws
theorem eV(xs:List Nat)(c:Nat):∀(k a:Nat) (found:Array Nat) (free:Nat),a+k=xs.length→free≤a→found.size≤a→
  (forIn (List.range' a (k+1)) (found,free) (occBody (mS xs) (mS [c]) xs.length (xs.length+1))).run.fst.size=found.size+(xs.drop a).countP (· ==c)
 | 0,a,found,free,h,hf,hs=>by
  rw[List.range'_succ,List.range'_zero,List.forIn_cons]
  unfold occBody
  have hn:¬(((((found,free):Array Nat × Nat).fst.size<xs.length+1∧((found,free):Array Nat × Nat).snd≤a)∧a+(mS [c]).length≤xs.length)∧subAt (mS xs) (mS [c]) a=true):=λh'=>by
   have:(mS [c]).length=1:=rfl
   have:=h'.1.2
   lia
  rw[if_neg hn]
  rw[List.drop_eq_nil_of_le (by lia)]
  rfl
 | k+1,a,found,free,h,hf,hs=>by
  rw[List.range'_succ,List.forIn_cons]
  have ha:a<xs.length:=by lia
  have hd:xs.drop a=xs[a]::xs.drop (a+1):=List.drop_eq_getElem_cons ha
  unfold occBody
  have one:=subAt_one (mS xs) c a
  by_cases hc:xs[a]=c
  ·have h1:a+(mS [c]).length≤(mS xs).length∧subAt (mS xs) (mS [c]) a=true:=one.mpr (by show xs[a]? =_;rw[List.getElem?_eq_getElem ha,hc])
   have hy:(((((found,free):Array Nat × Nat).fst.size<xs.length+1∧((found,free):Array Nat × Nat).snd≤a)∧a+(mS [c]).length≤xs.length)∧subAt (mS xs) (mS [c]) a=true):=⟨⟨⟨by show found.size<_;lia,hf⟩,h1.1⟩,h1.2⟩
   rw[if_pos hy]
   have ih:=eV xs c k (a+1) (found.push a) (a+(mS [c]).length) (by lia) (Nat.le_refl _) (by rw[Array.size_push];lia)
   unfold occBody at ih
   refine ih.trans ?_
   rw[hd,List.countP_cons,Array.size_push,hc]
   simp
   lia
  ·have hn:¬(((((found,free):Array Nat × Nat).fst.size<xs.length+1∧((found,free):Array Nat × Nat).snd≤a)∧a+(mS [c]).length≤xs.length)∧subAt (mS xs) (mS [c]) a=true):=λh'=>by
    have:=one.mp ⟨h'.1.2,h'.2⟩
    have:xs[a]? =some c:=this
    rw[List.getElem?_eq_getElem ha]at this
    exact hc (Option.some.inj this)
   rw[if_neg hn]
   have ih:=eV xs c k (a+1) found free (by lia) (by lia) (by lia)
   unfold occBody at ih
   refine ih.trans ?_
   rw[hd,List.countP_cons]
   simp[hc]
theorem fj(x:List Nat):aG x [10]=nlS x:=by
 unfold aG nlS
 rw[occ_eq,Array.length_toList]
 have:=eV x 10 x.length 0 #[] 0 (Nat.zero_add _) (Nat.le_refl _) (Nat.le_refl _)
 rw[List.drop_zero]at this
 exact this.trans (Nat.zero_add _)
theorem i8(x y:List Nat):nlS (x++y)=nlS x+nlS y:=by unfold nlS;rw[List.countP_append]
theorem uq:∀r,r<13→∀q,q<13→aG (fi r q) [102]=r∧aG (fi r q) [105]=q:=by decide+kernel
structure Wd (w:World) (Z V:Bool) (r s sd:Nat) (ws y:List Nat) (ZL:Nat):Prop where
 seed:ZL<65537
 al:∀c∈ws,c∈bs
 h0:0<ws.length
 enc:Enc ws y
 ok:bQ w Z V (fi r (s-r)) sd y ZL
 yl:y.length<2^9
 wl:ws.length<2^9
 tok:Tok1 ws r (s-r) s
theorem ja{w:World}{Z V:Bool}{r s sd:Nat}(h0:0<r)(hrs:r≤s)(hs:s≤12)(hsd:sd<65537):∃ws y ZL,Wd w Z V r s sd ws y ZL:=by
 obtain⟨ws,y,ZL,h1,h2,h3,h4⟩:=re (w:=w) (Z:=Z) (V:=V) (r:=r) (q:=s-r) (sd:=sd) (by lia) (by lia) hsd
 have hl:ws.length≤24:=by have:=h2.len;lia
 have hy:y.length≤50:=by
  have:=jH ws
  cases h3 with
  | quoted=>simp only[List.length_append,List.length_cons,List.length_nil];lia
  | blank q hq=>simp only[List.length_append,List.length_cons,List.length_nil];lia
 have hpos:0<ws.length:=by
  cases ws with
  | nil=>
   have:=congrArg List.length h2.dec
   rw[bP]at this
   simp at this
   lia
  | cons a l=>exact Nat.succ_pos _
 have cf:=uq r (by lia) (s-r) (by lia)
 exact⟨ws,y,ZL,h1,h2.al,hpos,h3,h4,by lia,by lia,h2.al,hpos,by lia,(hO ws h2.al).trans h2.dec,cf.1,cf.2,by lia,by lia,by lia⟩
theorem gtW{w:World}{Z V:Bool}{x pre y Z5 ws:List Nat}{p:Nat}(hx:x=pre++(y++Z5))(hp:pre.length=p)(hl:x.length<2^20)(Zl:∀c∈ws,c∈bs)(h0:0<ws.length)(hw:ws.length<2^9)(he:Enc ws y):bo w Z V x p (nlS y) ws (p+y.length):=
 tO (Z5:=Z5) hl Zl h0 (by lia) he (by rw[hx,←hp,List.drop_left])
end
section
open PySem PySem.W PySem.W.X PySem.Builtin
theorem kMl{w:World}{Z V:Bool}{r s pN:Nat}{ms:List Nat}{n:Nat}{mf ga fr row M:Addr}{z1 z2 z3 z4 tn tp:Tok}{ef:Nat}{t1 t2 tg u1 u2 u3:Tok}{e em:Nat}(h:uJ w Z V r s pN ms):Ok (W2 w Z V) 5 (pF (Pw w Z V) n mf ga fr row M z1 z2 z3 z4 pN tn tp ef t1 t2 tg r s u1 u2 u3 e em ms):=by apply h
end
section
open PySem PySem.W PySem.W.X PySem.Builtin
theorem te{w:World}{Z V:Bool}{k:Nat}{row:Addr}{r s pN:Nat}{t1 t2 t3 t4:Tok}{e:Nat}{ms:List Nat}(hM:uJ w Z V r s pN ms):Ok (W2 w Z V) 6 (mkS k row r s pN t1 t2 t3 t4 e ms):=
 okC [2] 57 (λN=>[(N.t 13)]) (λN=>[(N.z 4)])
 (.i (ub 14 0x15a503a5a5a5a502a5a5a5a59d9e)::.f [] (λN=>gnS (Pw w Z V) k row)::.i (ub 4 0xa7a7a7a7)::.f [1,3,4,0,2] (λN=>pF (Pw w Z V) k (N.r 1) (N.r 3) (cut 2 (λ(q:Nat)=>(N.r (3+q))) 1) row (N.r 2) (N.t 0) (N.t 1) (N.t 2) (N.t 4) pN t4 (N.t 3) 4 (N.t 5) (N.t 6) (N.t 7) r s t1 t2 t3 e 0 ms)::.i [165]::[])
 (sE (sg1 (by kernel_rfl)) Z) (λN=>⟨okU (pV),okU (kMl hM),trivial⟩)
theorem jb{w:World}{Z V:Bool}{r s pN:Nat}(hr:0<r)(hs:0<s)(hrN:r≤pN)(hN:pN<2^10)(h127:r≠127)(hs127:s≠127):cz w Z V r s pN (ab r s pN):=
 λk row t1 t2 t3 t4 e=>te (xo hr hs hrN hN h127 hs127)
end
section
open PySem PySem.W PySem.W.X PySem.Builtin
variable{l:List Nat}{i d c pN M Zx r0 s0 r1 s1 e r2 s2:Nat}{w:World}{Z V:Bool}{xs:List Value}{t0 t1 t2 t3:Int}{a:Addr}{dd:Option Addr}{sl:Array (Option Value)}
theorem gJ{l:List (Nat × Nat)}{n ch:Nat}{L:List (List (Nat × Nat))}(hl:l∈L)(hi:i<n)(hc:ch<12):cG l i ch∈L.flatMap λl=>(List.range n).flatMap λi=>(List.range 12).map λch=>cG l i ch:=
 List.mem_flatMap.mpr ⟨l,hl,List.mem_flatMap.mpr ⟨i,List.mem_range.mpr hi,List.mem_map.mpr ⟨ch,List.mem_range.mpr hc,rfl⟩⟩⟩
theorem rU(t0 t1 t2 t3:Int):∃l,l∈RS∧dW w Z V t0 t1 t2 t3 (cs l):=by
 rcases jT t0 with h0 | h0 | h0
 ·obtain⟨l,hm,hl⟩:=vR (w:=w) (Z:=Z) (V:=V) t1
  obtain⟨ch,Zy,Zu⟩:=nK (Int.fdiv t2 (.ofNat 2))
  have mem:∀i,i<2→cG l i ch∈RS:=λi hi=>List.mem_append_left _ (List.mem_append_left _ (gJ hm hi Zy))
  obtain⟨f0,s0,f1,s1,rfl⟩:=qu l hm
  rcases ll t2 with hi | hi
  ·exact⟨_,mem 0 (by decide),λ_ _ _ _ _ _ _=>r8 h0 hl hi Zu⟩
  ·exact⟨_,mem 1 (by decide),λ_ _ _ _ _ _ _=>r7 h0 hl hi Zu⟩
 ·obtain⟨l,hm,hl⟩:=vQ (w:=w) (Z:=Z) (V:=V) t1
  obtain⟨ch,Zy,Zu⟩:=nK (Int.fdiv t2 (.ofNat 3))
  have mem:∀i,i<3→cG l i ch∈RS:=λi hi=>List.mem_append_left _ (List.mem_append_right _ (gJ hm hi Zy))
  obtain⟨f0,s0,f1,s1,f2,s2,rfl⟩:=qt l hm
  rcases jT t2 with hi | hi | hi
  ·exact⟨_,mem 0 (by decide),λ_ _ _ _ _ _ _=>r6 h0 hl hi Zu⟩
  ·exact⟨_,mem 1 (by decide),λ_ _ _ _ _ _ _=>r5 h0 hl hi Zu⟩
  ·exact⟨_,mem 2 (by decide),λ_ _ _ _ _ _ _=>r4 h0 hl hi Zu⟩
 ·obtain⟨l,hm,hl⟩:=vP (w:=w) (Z:=Z) (V:=V) t1
  obtain⟨ch,Zy,Zu⟩:=nK (Int.fdiv t2 (.ofNat 4))
  have mem:∀i,i<4→cG l i ch∈RS:=λi hi=>List.mem_append_right _ (gJ hm hi Zy)
  obtain⟨f0,s0,f1,s1,f2,s2,f3,s3,rfl⟩:=qr l hm
  rcases xk t2 with hi | hi | hi | hi
  ·exact⟨_,mem 0 (by decide),λ_ _ _ _ _ _ _=>rZ h0 hl hi Zu⟩
  ·exact⟨_,mem 1 (by decide),λ_ _ _ _ _ _ _=>rY h0 hl hi Zu⟩
  ·exact⟨_,mem 2 (by decide),λ_ _ _ _ _ _ _=>rX h0 hl hi Zu⟩
  ·exact⟨_,mem 3 (by decide),λ_ _ _ _ _ _ _=>rW h0 hl hi Zu⟩
theorem nh:∀{l:List Nat} {v:Value} {i c:Nat},l[i]? =some c→∃t,(qIL l v)[i]? =some (.int (.ofNat c) t)
 | [],_,_,_,h=>by cases h
 | a::l,v,0,c,h=>by
  cases h
  exact⟨_,rfl⟩
 | a::l,v,i+1,c,h=>by
  have h':l[i]? =some c:=by simpa using h
  obtain⟨t,e⟩:=nh (v:=a9 v) h'
  exact⟨t,by show(_::qIL l (a9 v))[i+1]? =_;simpa using e⟩
theorem dD{v:Value}{tc:Nat}(h:(l++[d])[i]? =some c):∃t,((qIL l v).append [.int (.ofNat d) tc])[i]? =some (.int (.ofNat c) t):=by
 show ∃t,(qIL l v++[.int (.ofNat d) tc])[i]? =_
 by_cases hi:i<l.length
 ·rw[List.getElem?_append_left hi]at h
  obtain⟨t,e⟩:=nh (v:=v) h
  exact⟨t,by rw[List.getElem?_append_left (by rw[az];exact hi)];exact e⟩
 ·rw[List.getElem?_append_right (Nat.not_lt.mp hi)]at h
  have:i=l.length:=by
   by_cases e:i-l.length=0
   ·lia
   ·rw[List.getElem?_eq_none (by simp only[List.length_cons,List.length_nil];lia)]at h
    cases h
  subst this
  rw[Nat.sub_self]at h
  cases h
  exact⟨tc,by rw[List.getElem?_append_right (by rw[az];exact Nat.le_refl _),az,Nat.sub_self];rfl⟩
theorem jo{g e:Nat}:∀{l:List Nat} {c:Nat},mH g e c l=true→∀{i a b:Nat},((c::l)++[e])[i]? =some a→((c::l)++[e])[i+1]? =some b→b≤a+g
 | [],c,h,i,a,b,ha,hb=>by
  have h':=Nat.le_of_ble_eq_true h
  match i,ha,hb with
  | 0,ha,hb=>
   cases ha
   cases hb
   exact h'
  | i+1,ha,hb=>simp at hb
 | d::l,c,h,i,a,b,ha,hb=>by
  have h':=(Bool.and_eq_true _ _).mp h
  match i,ha,hb with
  | 0,ha,hb=>
   cases ha
   cases hb
   exact Nat.le_of_ble_eq_true h'.1
  | i+1,ha,hb=>exact jo h'.2 (i:=i) (by simpa using ha) (by simpa using hb)
theorem eY(h:i<l.length):∃c,l[i]? =some c:=⟨_,List.getElem?_eq_getElem h⟩
structure Qu (pN:Nat) (l:List Nat):Prop where
 len:l.length<2^9
 le:∀c∈l,c<2^9
theorem Qu.ups(h:pN<500):Qu pN (ups pN):=⟨by rw[cC];lia,λc hc=>by have:=rg hc;lia⟩
theorem Qu.keep{ms:List Nat}(h:Qu pN l):Qu pN (ae ms l):=⟨Nat.lt_of_le_of_lt (mv _ _) h.len,λc hc=>h.le c (mu hc)⟩
theorem mj(h0:0<pN)(h:pN<500):fC w Z V pN (ups pN):=by
 obtain⟨n,rfl⟩:∃n,pN=n+1:=⟨pN-1,by lia⟩
 unfold fC nq
 rw[o6]
 intros
 exact sM (by lia)
theorem tX(hg:mH 4 d c l=true)(hl:(c::l).length=M)(hM:M<2^9):rd w Z V M (c::l) d:=by
 intro G fr Z7 Z6 Z8 it TL RL g0 g1 z1 z2 z3 z4 z5 z6 z7 z8 z9 Z2 Z0 ZZ ZY ZX ZW ZV ZU w1 w2 w3 w4 w5 w6 w7 w8 w9 Z1 ZT ZS ZR ZQ ZO wk ef v tc et e2
 suffices H:∀(m i:Nat) (wk:Value) (ef:Nat),i+m=M→Ok (W2 w Z V) 4 (j7 (Pw w Z V) G fr Z7 Z6 Z8 it TL RL g0 g1 z1 z2 z3 z4 z5 z6 z7 z8 z9 Z2 Z0 ZZ ZY ZX ZW ZV ZU w1 w2 w3 w4 w5 w6 w7 w8 w9 Z1 ZT ZS ZR ZQ ZO wk ef i m ((qIL (c::l) v).append [.int (.ofNat d) tc]) et e2 M)from H M 0 wk ef (Nat.zero_add _)
 intro m
 induction m with
 | zero=>
  intro i wk ef h
  rw[Nat.add_zero]at h
  subst h
  exact ox
 | succ m ih=>
  intro i wk ef h
  obtain⟨a,ha⟩:=eY (l:=(c::l)++[d]) (i:=i) (by rw[List.length_append,hl];simp only[List.length_cons,List.length_nil];lia)
  obtain⟨b,hb⟩:=eY (l:=(c::l)++[d]) (i:=i+1) (by rw[List.length_append,hl];simp only[List.length_cons,List.length_nil];lia)
  obtain⟨ta,ea⟩:=dD (v:=v) (tc:=tc) ha
  obtain⟨tb,eb⟩:=dD (v:=v) (tc:=tc) hb
  have hab:=jo hg ha hb
  exact gl2 ea eb (by lia) (by lia) rfl (decide_eq_false (by show ¬((b:Int)-(a:Int)>(4:Int));lia)) λC U O=>ih (i+1) _ _ (by lia)
theorem Br(hT:dU w Z V xs (t0,t1,t2,t3))(hR:dW w Z V t0 t1 t2 t3 (cs [(r0,s0),(r1,s1)]))(hS:Int.fmod t3 (.ofNat 65537)=.ofNat Zx)(hsd:Zx<65537)(hk:km pN [(r0,s0),(r1,s1)]=true):Ok (W2 w Z V) 10 (jf 0 (0+2) a xs dd e sl):=by
 unfold km at hk
 simp only[Bool.and_eq_true]at hk
 obtain⟨k0,k1,kf⟩:=hk
 obtain⟨p0,u0,v0,w0⟩:=bT k0
 obtain⟨p1,u1,v1,w1⟩:=bT k1
 obtain⟨h0,h5,hN,hlow,hfr,htl⟩:=jp kf
 obtain⟨ws0,y0,Zw,X0⟩:=ja (w:=w) (Z:=Z) (V:=V) p0 u0 v0 hsd
 have l0:=X0.yl
 obtain⟨ws1,y1,Zv,X1⟩:=ja (w:=w) (Z:=Z) (V:=V) p1 u1 v1 X0.seed
 have l1:=X1.yl
 have hW:lP w Z V Zx r0 s0 r1 s1 (y0++y1) Zv:=by
  unfold lP
  intros
  exact zb (by show(s0:Int)-(r0:Int)=((s0-r0:Nat):Int);lia) (by lia) (by lia) X0.ok (by lia) (by show(s1:Int)-(r1:Int)=((s1-r1:Nat):Int);lia) (by lia) (by lia) X1.ok (by lia) (by decide) (by first | lia | (simp only[List.length_append];lia))
 have hxl:((y0++y1):List Nat).length<2^20:=by simp only[List.length_append];lia
 have G0:=gtW (w:=w) (Z:=Z) (V:=V) (x:=(y0++y1)) (pre:=[]) (y:=y0) (Z5:=y1) (p:=0) (by simp[List.append_assoc]) (by simp[Nat.add_assoc]) hxl X0.al X0.h0 X0.wl X0.enc
 have G1:=gtW (w:=w) (Z:=Z) (V:=V) (x:=(y0++y1)) (pre:=y0) (y:=y1) (Z5:=[]) (p:=(0+y0.length)) (by simp[List.append_assoc]) (by simp[Nat.add_assoc]) hxl X1.al X1.h0 X1.wl X1.enc
 have GE:bo w Z V (y0++y1) ((0+y0.length)+y1.length) 0 [] (((0+y0.length)+y1.length)+1):=ia hxl (by simp only[List.length_append];lia)
 have GE2:bo w Z V (y0++y1) (((0+y0.length)+y1.length)+1) 0 [] (((0+y0.length)+y1.length)+1+1):=ia hxl (by simp only[List.length_append];lia)
 have hL:oW w Z V (y0++y1) (0+y0.length) (1+nlS y0) ws0 r0 s0 r1 s1 (((0+y0.length)+y1.length)+1) (((1+nlS y0)+nlS y1)+0):=(rx X0.tok G1 (rv X1.tok GE zt))
 have hP:lV w Z V r0 s0 r1 s1 pN:=by
  unfold lV
  intros
  exact nk (by lia) (by lia) pN hN (pN-1) 1 _ (by lia) hlow
 have Q0:Qu pN (ups pN):=Qu.ups h5
 have Q1:Qu pN (ae (ab r0 s0 pN) (ups pN)):=Q0.keep
 have M0:cz w Z V r0 s0 pN (ab r0 s0 pN):=jb p0 (by lia) (by lia) (by lia) (by lia) (by lia)
 have Q2:Qu pN (ae (ab r1 s1 pN) (ae (ab r0 s0 pN) (ups pN))):=Q1.keep
 have M1:cz w Z V r1 s1 pN (ab r1 s1 pN):=jb p1 (by lia) (by lia) (by lia) (by lia) (by lia)
 have hM:lS w Z V r0 s0 r1 s1 pN (ups pN) (ae (ab r1 s1 pN) (ae (ab r0 s0 pN) (ups pN))).length (ae (ab r1 s1 pN) (ae (ab r0 s0 pN) (ups pN))):=by
  unfold lS
  intros
  exact tm2 (by lia) M0 rfl (cC pN) rfl Q0.len Q0.le (by rw[cC];exact h0) (Nat.lt_trans Q1.len (by decide)) M1 rfl rfl rfl Q1.len Q1.le (Nat.lt_trans Q2.len (by decide))
 have hF:lZ w Z V r0 s0 r1 s1 pN (1+pN) (ae (ab r1 s1 pN) (ae (ab r0 s0 pN) (ups pN))):=by
  obtain⟨m,rfl⟩:∃m,pN=m+1:=⟨pN-1,by lia⟩
  have hfr':aP (λx=>oc2 x r0 s0 r1 s1) 1 (m+1)=(ae (ab r1 s1 (m+1)) (ae (ab r0 s0 (m+1)) (ups (m+1)))):=hfr
  rw[←hfr']
  unfold lZ
  intros
  exact uk (by lia) (by lia) (by lia)
 have hC:aG (y0++y1) [10]=nlS (y0++y1):=fj _
 have Zz:((.ofNat (((1+nlS y0)+nlS y1)+0):Int) !=1+.ofNat (nlS (y0++y1)))=false:=by
  rw[bne_eq_false_iff_eq]
  simp only[i8]
  show(((_:Nat):Int))=1+((_:Nat):Int)
  lia
 refine tv λC U O=>?_
 have htl':tlB 4 pN (ae (ab r1 s1 pN) (ae (ab r0 s0 pN) (ups pN)))=true:=htl
 cases hq:(ae (ab r1 s1 pN) (ae (ab r0 s0 pN) (ups pN)))with
 | nil=>
  rw[hq]at hM hF
  exact Bx hT hR hS hW G0 hL hC Zz hP (mj h0 h5) (by lia) hM hF GE2
 | cons c l=>
  have hlen:(c::l).length=(ae (ab r1 s1 pN) (ae (ab r0 s0 pN) (ups pN))).length:=by rw[hq]
  have Qz:=Q2
  rw[hq]at hM hF htl' Qz
  have h':=(Bool.and_eq_true _ _).mp htl'
  exact Bw hT hR hS hW G0 hL hC Zz hP (mj h0 h5) (by lia) hM rfl rfl Qz.len Qz.le (tX h'.1 rfl Qz.len) hF GE2
theorem tW(hg:mH 8 d c l=true)(hl:(c::l).length=M)(hM:M<2^9):rc w Z V M (c::l) d:=by
 intro G fr Z7 Z6 Z8 it TL RL g0 g1 g2 z1 z2 z3 z4 z5 z6 z7 z8 z9 Z2 Z0 ZZ ZY ZX ZW ZV ZU w1 w2 w3 w4 w5 w6 w7 w8 w9 Z1 ZT ZS ZR ZQ ZO wk ef v tc et e2
 suffices H:∀(m i:Nat) (wk:Value) (ef:Nat),i+m=M→Ok (W2 w Z V) 4 (j6 (Pw w Z V) G fr Z7 Z6 Z8 it TL RL g0 g1 g2 z1 z2 z3 z4 z5 z6 z7 z8 z9 Z2 Z0 ZZ ZY ZX ZW ZV ZU w1 w2 w3 w4 w5 w6 w7 w8 w9 Z1 ZT ZS ZR ZQ ZO wk ef i m ((qIL (c::l) v).append [.int (.ofNat d) tc]) et e2 M)from H M 0 wk ef (Nat.zero_add _)
 intro m
 induction m with
 | zero=>
  intro i wk ef h
  rw[Nat.add_zero]at h
  subst h
  exact ow
 | succ m ih=>
  intro i wk ef h
  obtain⟨a,ha⟩:=eY (l:=(c::l)++[d]) (i:=i) (by rw[List.length_append,hl];simp only[List.length_cons,List.length_nil];lia)
  obtain⟨b,hb⟩:=eY (l:=(c::l)++[d]) (i:=i+1) (by rw[List.length_append,hl];simp only[List.length_cons,List.length_nil];lia)
  obtain⟨ta,ea⟩:=dD (v:=v) (tc:=tc) ha
  obtain⟨tb,eb⟩:=dD (v:=v) (tc:=tc) hb
  have hab:=jo hg ha hb
  exact gl3 ea eb (by lia) (by lia) rfl (decide_eq_false (by show ¬((b:Int)-(a:Int)>(8:Int));lia)) λC U O=>ih (i+1) _ _ (by lia)
theorem Bq(hT:dU w Z V xs (t0,t1,t2,t3))(hR:dW w Z V t0 t1 t2 t3 (cs [(r0,s0),(r1,s1),(r2,s2)]))(hS:Int.fmod t3 (.ofNat 65537)=.ofNat Zx)(hsd:Zx<65537)(hk:km pN [(r0,s0),(r1,s1),(r2,s2)]=true):Ok (W2 w Z V) 10 (jf 0 (0+3) a xs dd e sl):=by
 unfold km at hk
 simp only[Bool.and_eq_true]at hk
 obtain⟨k0,k1,k2,kf⟩:=hk
 obtain⟨p0,u0,v0,w0⟩:=bT k0
 obtain⟨p1,u1,v1,w1⟩:=bT k1
 obtain⟨p2,u2,v2,w2⟩:=bT k2
 obtain⟨h0,h5,hN,hlow,hfr,htl⟩:=jp kf
 obtain⟨ws0,y0,Zw,X0⟩:=ja (w:=w) (Z:=Z) (V:=V) p0 u0 v0 hsd
 have l0:=X0.yl
 obtain⟨ws1,y1,Zv,X1⟩:=ja (w:=w) (Z:=Z) (V:=V) p1 u1 v1 X0.seed
 have l1:=X1.yl
 obtain⟨ws2,y2,sd3,X2⟩:=ja (w:=w) (Z:=Z) (V:=V) p2 u2 v2 X1.seed
 have l2:=X2.yl
 have hW:lN w Z V Zx r0 s0 r1 s1 r2 s2 ((y0++y1)++y2) sd3:=by
  unfold lN
  intros
  exact za (by show(s0:Int)-(r0:Int)=((s0-r0:Nat):Int);lia) (by lia) (by lia) X0.ok (by lia) (by show(s1:Int)-(r1:Int)=((s1-r1:Nat):Int);lia) (by lia) (by lia) X1.ok (by lia) (by show(s2:Int)-(r2:Int)=((s2-r2:Nat):Int);lia) (by lia) (by lia) X2.ok (by lia) (by decide) (by first | lia | (simp only[List.length_append];lia)) (by first | lia | (simp only[List.length_append];lia))
 have hxl:(((y0++y1)++y2):List Nat).length<2^20:=by simp only[List.length_append];lia
 have G0:=gtW (w:=w) (Z:=Z) (V:=V) (x:=((y0++y1)++y2)) (pre:=[]) (y:=y0) (Z5:=(y1++y2)) (p:=0) (by simp[List.append_assoc]) (by simp[Nat.add_assoc]) hxl X0.al X0.h0 X0.wl X0.enc
 have G1:=gtW (w:=w) (Z:=Z) (V:=V) (x:=((y0++y1)++y2)) (pre:=y0) (y:=y1) (Z5:=y2) (p:=(0+y0.length)) (by simp[List.append_assoc]) (by simp[Nat.add_assoc]) hxl X1.al X1.h0 X1.wl X1.enc
 have G2:=gtW (w:=w) (Z:=Z) (V:=V) (x:=((y0++y1)++y2)) (pre:=(y0++y1)) (y:=y2) (Z5:=[]) (p:=((0+y0.length)+y1.length)) (by simp[List.append_assoc]) (by simp[Nat.add_assoc]) hxl X2.al X2.h0 X2.wl X2.enc
 have GE:bo w Z V ((y0++y1)++y2) (((0+y0.length)+y1.length)+y2.length) 0 [] ((((0+y0.length)+y1.length)+y2.length)+1):=ia hxl (by simp only[List.length_append];lia)
 have GE2:bo w Z V ((y0++y1)++y2) ((((0+y0.length)+y1.length)+y2.length)+1) 0 [] ((((0+y0.length)+y1.length)+y2.length)+1+1):=ia hxl (by simp only[List.length_append];lia)
 have hL:oV w Z V ((y0++y1)++y2) (0+y0.length) (1+nlS y0) ws0 r0 s0 r1 s1 r2 s2 ((((0+y0.length)+y1.length)+y2.length)+1) ((((1+nlS y0)+nlS y1)+nlS y2)+0):=(rx X0.tok G1 (rv X1.tok G2 (vg X2.tok GE zr)))
 have hP:lU w Z V r0 s0 r1 s1 r2 s2 pN:=by
  unfold lU
  intros
  exact nj (by lia) (by lia) (by lia) pN hN (pN-1) 1 _ (by lia) hlow
 have Q0:Qu pN (ups pN):=Qu.ups h5
 have Q1:Qu pN (ae (ab r0 s0 pN) (ups pN)):=Q0.keep
 have M0:cz w Z V r0 s0 pN (ab r0 s0 pN):=jb p0 (by lia) (by lia) (by lia) (by lia) (by lia)
 have Q2:Qu pN (ae (ab r1 s1 pN) (ae (ab r0 s0 pN) (ups pN))):=Q1.keep
 have M1:cz w Z V r1 s1 pN (ab r1 s1 pN):=jb p1 (by lia) (by lia) (by lia) (by lia) (by lia)
 have Q3:Qu pN (ae (ab r2 s2 pN) (ae (ab r1 s1 pN) (ae (ab r0 s0 pN) (ups pN)))):=Q2.keep
 have M2:cz w Z V r2 s2 pN (ab r2 s2 pN):=jb p2 (by lia) (by lia) (by lia) (by lia) (by lia)
 have hM:lR w Z V r0 s0 r1 s1 r2 s2 pN (ups pN) (ae (ab r2 s2 pN) (ae (ab r1 s1 pN) (ae (ab r0 s0 pN) (ups pN)))).length (ae (ab r2 s2 pN) (ae (ab r1 s1 pN) (ae (ab r0 s0 pN) (ups pN)))):=by
  unfold lR
  intros
  exact tm3 (by lia) M0 rfl (cC pN) rfl Q0.len Q0.le (by rw[cC];exact h0) (Nat.lt_trans Q1.len (by decide)) M1 rfl rfl rfl Q1.len Q1.le (Nat.lt_trans Q2.len (by decide)) M2 rfl rfl rfl Q2.len Q2.le (Nat.lt_trans Q3.len (by decide))
 have hF:lY w Z V r0 s0 r1 s1 r2 s2 pN (1+pN) (ae (ab r2 s2 pN) (ae (ab r1 s1 pN) (ae (ab r0 s0 pN) (ups pN)))):=by
  obtain⟨m,rfl⟩:∃m,pN=m+1:=⟨pN-1,by lia⟩
  have hfr':aP (λx=>oc3 x r0 s0 r1 s1 r2 s2) 1 (m+1)=(ae (ab r2 s2 (m+1)) (ae (ab r1 s1 (m+1)) (ae (ab r0 s0 (m+1)) (ups (m+1))))):=hfr
  rw[←hfr']
  unfold lY
  intros
  exact uj (by lia) (by lia) (by lia) (by lia)
 have hC:aG ((y0++y1)++y2) [10]=nlS ((y0++y1)++y2):=fj _
 have Zz:((.ofNat ((((1+nlS y0)+nlS y1)+nlS y2)+0):Int) !=1+.ofNat (nlS ((y0++y1)++y2)))=false:=by
  rw[bne_eq_false_iff_eq]
  simp only[i8]
  show(((_:Nat):Int))=1+((_:Nat):Int)
  lia
 refine tv λC U O=>?_
 have htl':tlB 8 pN (ae (ab r2 s2 pN) (ae (ab r1 s1 pN) (ae (ab r0 s0 pN) (ups pN))))=true:=htl
 cases hq:(ae (ab r2 s2 pN) (ae (ab r1 s1 pN) (ae (ab r0 s0 pN) (ups pN))))with
 | nil=>
  rw[hq]at hM hF
  exact Bv hT hR hS hW G0 hL hC Zz hP (mj h0 h5) (by lia) hM hF GE2
 | cons c l=>
  have hlen:(c::l).length=(ae (ab r2 s2 pN) (ae (ab r1 s1 pN) (ae (ab r0 s0 pN) (ups pN)))).length:=by rw[hq]
  have Qz:=Q3
  rw[hq]at hM hF htl' Qz
  have h':=(Bool.and_eq_true _ _).mp htl'
  exact Bu hT hR hS hW G0 hL hC Zz hP (mj h0 h5) (by lia) hM rfl rfl Qz.len Qz.le (tW h'.1 rfl Qz.len) hF GE2
theorem tV(hg:mH 16 d c l=true)(hl:(c::l).length=M)(hM:M<2^9):rb w Z V M (c::l) d:=by
 intro G fr Z7 Z6 Z8 it TL RL g0 g1 g2 g3 z1 z2 z3 z4 z5 z6 z7 z8 z9 Z2 Z0 ZZ ZY ZX ZW ZV ZU w1 w2 w3 w4 w5 w6 w7 w8 w9 Z1 ZT ZS ZR ZQ ZO wk ef v tc et e2
 suffices H:∀(m i:Nat) (wk:Value) (ef:Nat),i+m=M→Ok (W2 w Z V) 4 (j5 (Pw w Z V) G fr Z7 Z6 Z8 it TL RL g0 g1 g2 g3 z1 z2 z3 z4 z5 z6 z7 z8 z9 Z2 Z0 ZZ ZY ZX ZW ZV ZU w1 w2 w3 w4 w5 w6 w7 w8 w9 Z1 ZT ZS ZR ZQ ZO wk ef i m ((qIL (c::l) v).append [.int (.ofNat d) tc]) et e2 M)from H M 0 wk ef (Nat.zero_add _)
 intro m
 induction m with
 | zero=>
  intro i wk ef h
  rw[Nat.add_zero]at h
  subst h
  exact ou
 | succ m ih=>
  intro i wk ef h
  obtain⟨a,ha⟩:=eY (l:=(c::l)++[d]) (i:=i) (by rw[List.length_append,hl];simp only[List.length_cons,List.length_nil];lia)
  obtain⟨b,hb⟩:=eY (l:=(c::l)++[d]) (i:=i+1) (by rw[List.length_append,hl];simp only[List.length_cons,List.length_nil];lia)
  obtain⟨ta,ea⟩:=dD (v:=v) (tc:=tc) ha
  obtain⟨tb,eb⟩:=dD (v:=v) (tc:=tc) hb
  have hab:=jo hg ha hb
  exact gl4 ea eb (by lia) (by lia) rfl (decide_eq_false (by show ¬((b:Int)-(a:Int)>(16:Int));lia)) λC U O=>ih (i+1) _ _ (by lia)
theorem Bp{r3 s3:Nat}(hT:dU w Z V xs (t0,t1,t2,t3))(hR:dW w Z V t0 t1 t2 t3 (cs [(r0,s0),(r1,s1),(r2,s2),(r3,s3)]))(hS:Int.fmod t3 (.ofNat 65537)=.ofNat Zx)(hsd:Zx<65537)(hk:km pN [(r0,s0),(r1,s1),(r2,s2),(r3,s3)]=true):Ok (W2 w Z V) 10 (jf 0 (0+4) a xs dd e sl):=by
 unfold km at hk
 simp only[Bool.and_eq_true]at hk
 obtain⟨k0,k1,k2,k3,kf⟩:=hk
 obtain⟨p0,u0,v0,w0⟩:=bT k0
 obtain⟨p1,u1,v1,w1⟩:=bT k1
 obtain⟨p2,u2,v2,w2⟩:=bT k2
 obtain⟨p3,u3,v3,w3⟩:=bT k3
 obtain⟨h0,h5,hN,hlow,hfr,htl⟩:=jp kf
 obtain⟨ws0,y0,Zw,X0⟩:=ja (w:=w) (Z:=Z) (V:=V) p0 u0 v0 hsd
 have l0:=X0.yl
 obtain⟨ws1,y1,Zv,X1⟩:=ja (w:=w) (Z:=Z) (V:=V) p1 u1 v1 X0.seed
 have l1:=X1.yl
 obtain⟨ws2,y2,sd3,X2⟩:=ja (w:=w) (Z:=Z) (V:=V) p2 u2 v2 X1.seed
 have l2:=X2.yl
 obtain⟨ws3,y3,sd4,X3⟩:=ja (w:=w) (Z:=Z) (V:=V) p3 u3 v3 X2.seed
 have l3:=X3.yl
 have hW:lM w Z V Zx r0 s0 r1 s1 r2 s2 r3 s3 (((y0++y1)++y2)++y3) sd4:=by
  unfold lM
  intros
  exact yZ (by show(s0:Int)-(r0:Int)=((s0-r0:Nat):Int);lia) (by lia) (by lia) X0.ok (by lia) (by show(s1:Int)-(r1:Int)=((s1-r1:Nat):Int);lia) (by lia) (by lia) X1.ok (by lia) (by show(s2:Int)-(r2:Int)=((s2-r2:Nat):Int);lia) (by lia) (by lia) X2.ok (by lia) (by show(s3:Int)-(r3:Int)=((s3-r3:Nat):Int);lia) (by lia) (by lia) X3.ok (by lia) (by decide) (by first | lia | (simp only[List.length_append];lia)) (by first | lia | (simp only[List.length_append];lia)) (by first | lia | (simp only[List.length_append];lia))
 have hxl:((((y0++y1)++y2)++y3):List Nat).length<2^20:=by simp only[List.length_append];lia
 have G0:=gtW (w:=w) (Z:=Z) (V:=V) (x:=(((y0++y1)++y2)++y3)) (pre:=[]) (y:=y0) (Z5:=((y1++y2)++y3)) (p:=0) (by simp[List.append_assoc]) (by simp[Nat.add_assoc]) hxl X0.al X0.h0 X0.wl X0.enc
 have G1:=gtW (w:=w) (Z:=Z) (V:=V) (x:=(((y0++y1)++y2)++y3)) (pre:=y0) (y:=y1) (Z5:=(y2++y3)) (p:=(0+y0.length)) (by simp[List.append_assoc]) (by simp[Nat.add_assoc]) hxl X1.al X1.h0 X1.wl X1.enc
 have G2:=gtW (w:=w) (Z:=Z) (V:=V) (x:=(((y0++y1)++y2)++y3)) (pre:=(y0++y1)) (y:=y2) (Z5:=y3) (p:=((0+y0.length)+y1.length)) (by simp[List.append_assoc]) (by simp[Nat.add_assoc]) hxl X2.al X2.h0 X2.wl X2.enc
 have G3:=gtW (w:=w) (Z:=Z) (V:=V) (x:=(((y0++y1)++y2)++y3)) (pre:=((y0++y1)++y2)) (y:=y3) (Z5:=[]) (p:=(((0+y0.length)+y1.length)+y2.length)) (by simp[List.append_assoc]) (by simp[Nat.add_assoc]) hxl X3.al X3.h0 X3.wl X3.enc
 have GE:bo w Z V (((y0++y1)++y2)++y3) ((((0+y0.length)+y1.length)+y2.length)+y3.length) 0 [] (((((0+y0.length)+y1.length)+y2.length)+y3.length)+1):=ia hxl (by simp only[List.length_append];lia)
 have GE2:bo w Z V (((y0++y1)++y2)++y3) (((((0+y0.length)+y1.length)+y2.length)+y3.length)+1) 0 [] (((((0+y0.length)+y1.length)+y2.length)+y3.length)+1+1):=ia hxl (by simp only[List.length_append];lia)
 have hL:oU w Z V (((y0++y1)++y2)++y3) (0+y0.length) (1+nlS y0) ws0 r0 s0 r1 s1 r2 s2 r3 s3 (((((0+y0.length)+y1.length)+y2.length)+y3.length)+1) (((((1+nlS y0)+nlS y1)+nlS y2)+nlS y3)+0):=(rx X0.tok G1 (rv X1.tok G2 (vg X2.tok G3 (zh X3.tok GE zq))))
 have hP:lT w Z V r0 s0 r1 s1 r2 s2 r3 s3 pN:=by
  unfold lT
  intros
  exact ni (by lia) (by lia) (by lia) (by lia) pN hN (pN-1) 1 _ (by lia) hlow
 have Q0:Qu pN (ups pN):=Qu.ups h5
 have Q1:Qu pN (ae (ab r0 s0 pN) (ups pN)):=Q0.keep
 have M0:cz w Z V r0 s0 pN (ab r0 s0 pN):=jb p0 (by lia) (by lia) (by lia) (by lia) (by lia)
 have Q2:Qu pN (ae (ab r1 s1 pN) (ae (ab r0 s0 pN) (ups pN))):=Q1.keep
 have M1:cz w Z V r1 s1 pN (ab r1 s1 pN):=jb p1 (by lia) (by lia) (by lia) (by lia) (by lia)
 have Q3:Qu pN (ae (ab r2 s2 pN) (ae (ab r1 s1 pN) (ae (ab r0 s0 pN) (ups pN)))):=Q2.keep
 have M2:cz w Z V r2 s2 pN (ab r2 s2 pN):=jb p2 (by lia) (by lia) (by lia) (by lia) (by lia)
 have Q4:Qu pN (ae (ab r3 s3 pN) (ae (ab r2 s2 pN) (ae (ab r1 s1 pN) (ae (ab r0 s0 pN) (ups pN))))):=Q3.keep
 have M3:cz w Z V r3 s3 pN (ab r3 s3 pN):=jb p3 (by lia) (by lia) (by lia) (by lia) (by lia)
 have hM:lQ w Z V r0 s0 r1 s1 r2 s2 r3 s3 pN (ups pN) (ae (ab r3 s3 pN) (ae (ab r2 s2 pN) (ae (ab r1 s1 pN) (ae (ab r0 s0 pN) (ups pN))))).length (ae (ab r3 s3 pN) (ae (ab r2 s2 pN) (ae (ab r1 s1 pN) (ae (ab r0 s0 pN) (ups pN))))):=by
  unfold lQ
  intros
  exact tm4 (by lia) M0 rfl (cC pN) rfl Q0.len Q0.le (by rw[cC];exact h0) (Nat.lt_trans Q1.len (by decide)) M1 rfl rfl rfl Q1.len Q1.le (Nat.lt_trans Q2.len (by decide)) M2 rfl rfl rfl Q2.len Q2.le (Nat.lt_trans Q3.len (by decide)) M3 rfl rfl rfl Q3.len Q3.le (Nat.lt_trans Q4.len (by decide))
 have hF:lX w Z V r0 s0 r1 s1 r2 s2 r3 s3 pN (1+pN) (ae (ab r3 s3 pN) (ae (ab r2 s2 pN) (ae (ab r1 s1 pN) (ae (ab r0 s0 pN) (ups pN))))):=by
  obtain⟨m,rfl⟩:∃m,pN=m+1:=⟨pN-1,by lia⟩
  have hfr':aP (λx=>oc4 x r0 s0 r1 s1 r2 s2 r3 s3) 1 (m+1)=(ae (ab r3 s3 (m+1)) (ae (ab r2 s2 (m+1)) (ae (ab r1 s1 (m+1)) (ae (ab r0 s0 (m+1)) (ups (m+1)))))):=hfr
  rw[←hfr']
  unfold lX
  intros
  exact ui (by lia) (by lia) (by lia) (by lia) (by lia)
 have hC:aG (((y0++y1)++y2)++y3) [10]=nlS (((y0++y1)++y2)++y3):=fj _
 have Zz:((.ofNat (((((1+nlS y0)+nlS y1)+nlS y2)+nlS y3)+0):Int) !=1+.ofNat (nlS (((y0++y1)++y2)++y3)))=false:=by
  rw[bne_eq_false_iff_eq]
  simp only[i8]
  show(((_:Nat):Int))=1+((_:Nat):Int)
  lia
 refine tv λC U O=>?_
 have htl':tlB 16 pN (ae (ab r3 s3 pN) (ae (ab r2 s2 pN) (ae (ab r1 s1 pN) (ae (ab r0 s0 pN) (ups pN)))))=true:=htl
 cases hq:(ae (ab r3 s3 pN) (ae (ab r2 s2 pN) (ae (ab r1 s1 pN) (ae (ab r0 s0 pN) (ups pN)))))with
 | nil=>
  rw[hq]at hM hF
  exact Bt hT hR hS hW G0 hL hC Zz hP (mj h0 h5) (by lia) hM hF GE2
 | cons c l=>
  have hlen:(c::l).length=(ae (ab r3 s3 pN) (ae (ab r2 s2 pN) (ae (ab r1 s1 pN) (ae (ab r0 s0 pN) (ups pN))))).length:=by rw[hq]
  have Qz:=Q4
  rw[hq]at hM hF htl' Qz
  have h':=(Bool.and_eq_true _ _).mp htl'
  exact Bs hT hR hS hW G0 hL hC Zz hP (mj h0 h5) (by lia) hM rfl rfl Qz.len Qz.le (tV h'.1 rfl Qz.len) hF GE2
theorem pL(hx:∀v∈xs,∃i t,v=.int i t)(hl:xs.length≤63):∃g',Ok (W2 w Z V) 10 (jf 0 g' 164 xs none 0 ⟨[]⟩):=by
 obtain⟨t0,t1,t2,t3,ht⟩:∃t0 t1 t2 t3,kx xs=(t0,t1,t2,t3):=⟨_,_,_,_,rfl⟩
 have hT:dU w Z V xs (t0,t1,t2,t3):=λ_ _ _ _ _=>ht▸uY hx hl
 have Zn:0≤Int.fmod t3 65537:=Int.fmod_nonneg_of_pos _ (by decide)
 have Zm:Int.fmod t3 65537<65537:=Int.fmod_lt_of_pos _ (by decide)
 obtain⟨Zx,hS⟩:∃n:Nat,Int.fmod t3 65537=.ofNat n:=⟨_,(Int.toNat_of_nonneg Zn).symm⟩
 have hsd:Zx<65537:=by
  rw[hS]at Zm
  have:((Zx:Nat):Int)<65537:=Zm
  lia
 obtain⟨l,hm,hR⟩:=rU (w:=w) (Z:=Z) (V:=V) t0 t1 t2 t3
 have hk:=qf hm
 match l,hk,hR with
 | [(r0,s0),(r1,s1)],hk,hR=>exact⟨_,Br hT hR hS hsd hk⟩
 | [(r0,s0),(r1,s1),(r2,s2)],hk,hR=>exact⟨_,Bq hT hR hS hsd hk⟩
 | [(r0,s0),(r1,s1),(r2,s2),(r3,s3)],hk,hR=>exact⟨_,Bp hT hR hS hsd hk⟩
 | [],hk,_=>cases hk
 | [_],hk,_=>cases hk
 | _::_::_::_::_::_,hk,_=>cases hk
end
section
open PySem PySem.W PySem.W.X PyProof.Rows
theorem j0:∀{xs:List Value} {ns:List Int},IntsAre xs ns→(∀v∈xs,∃i t,v=.int i t)∧xs.length=ns.length
 | _,_,.nil=>⟨λ_ h=>(nomatch h),rfl⟩
 | _,_,.cons _ _ h=>by
  obtain⟨a,b⟩:=j0 h
  refine⟨λv hv=>?_,by rw[List.length_cons,List.length_cons,b]⟩
  rcases List.mem_cons.mp hv with rfl | hv
  ·exact⟨_,_,rfl⟩
  ·exact a v hv
theorem tu(P:Params){h:Heap}{mg:Str→Option Value}{a:Addr}(hb:be (Tb P) h)(hN:h.Ns mainGlobals mg)(hm:mg "law"=some (.ref a)):a=163:=by
 obtain⟨o,es,ep,ho,hd,_,hf⟩:=hN
 have e1:(Tb P).get 3=some (ob3 P):=by kernel_rfl
 have:o=ob3 P:=Option.some.inj (ho.symm.trans (hb _ _ e1))
 subst this
 have e2:(ob3 P).data=.dict (match(ob3 P).data with | .dict es _=>es | _=>⟨[]⟩) (match(ob3 P).data with | .dict _ m=>m | _=>0):=by kernel_rfl
 rw[e2]at hd
 cases hd
 have e3:nsFind (match(ob3 P).data with | .dict es _=>es | _=>⟨[]⟩) "law"=some (.ref 163):=by kernel_rfl
 rw[hf,hm]at e3
 cases e3
 rfl
end
theorem ws:PySem.Challenge.rw_sw0059_01.wellSaid=true:=by
 rw[PySem.W.Fast.te9446332074065402090]
 kernel_rfl
end
end Mine
open PySem PySem.W PySem.W.X Mine
set_option maxHeartbeats 4000000 in
theorem PySem.Challenge.cw_sw0059_01_holds : PySem.Challenge.rw_sw0059_01.Holds := by
 w_on
 refine holds_law Mine.ws λsaid=>?_
 refine holds_openX (q:=qv) (loose:=iP) (Xt:=qX) (XP:=λ_ _=>True) (Yf:=λs=>s.heap) (Ya:=λw=>da w.params) (N:=20000) mD (λ_ _=>trivial) (λ_ _ _ _ _=>trivial) (by rfl) (by rfl) (by rfl) (λs e=>recFacts_of e) (by rfl) (by first | assumption | decide+kernel) (by decide+kernel) ⟨rfl,rfl,rfl,rfl,rfl,by decide+kernel⟩ ?hw ?hc
 case hw=>w_witness2
 case hc=>
  intro w s₀ s₁ mg mb G Y a o pm cd doc dV kV ho hd hcd hdf hmg hgens args vals as L hpre hlay hrd hwell has
  clear hd hcd hdf ho
  have hNs:=G.T.g
  have hmg2:mg (Str.ofString "law")=some (Value.ref a):=hmg
  clear hmg
  wrow_args hpre hlay hrd hwell has
  rename_i ns _ _ _ _ _ _ _ a0 xs _ hL _ _ _ hI _ hlen _
  have Y':s₀.heap=da w.params:=Y
  have hsz:s₀.heap.objs.size=164:=by rw[Y'];exact absHeap_size _ _ _
  obtain⟨hat,_⟩:=script_at L
  rw[hsz]at hat
  subst hat
  have hol:=script_obj L hL
  have hb:be (Tb w.params) s₁.heap:=λj o e=>L.keeps _ _ (by rw[Y'];exact oQ _ j o e)
  have h146:s₁.heap.get? 146=some gD:=L.keeps _ _ (by rw[Y'];exact tY _)
  have ea:=tu w.params hb hNs hmg2
  subst ea
  obtain⟨hx,hl⟩:=j0 hI
  have h63:xs.length≤63:=by rw[hl];lia
  obtain⟨g',hOk⟩:=pL (w:=w) (Z:=w.params.followText "special-get-raises") (V:=w.params.followText "comprehension-iter-twice") hx h63
  exact pJ (qq w) hb h146 hol hgens hOk (λ_=>rfl) (by first | rfl | wrow_post)
