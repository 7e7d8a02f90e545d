import PyProof.Rows.All
import Wide.All
import OpenK.AllK
import Wide.FinOn
import Open.Tops
import PyProof.Rows.RowBridgeG
import KE.KEqSeq
import KE.KBytesCut
import KE.KSlice
import KE.KIsAll
import KE.KIsBytes
import KE.KDictList
import KE.BytesMake
import KE.KxBytes
import KE.KToBytes
import PyProof.Rows.CallKwBuiltin
import KE.KFromBytes
import KE.KxDecode
import OpenK.KWalk
import PyProof.Rows.Chain
import KE.KUnpack
import KE.KTurns
import KE.KTurnsDict
import KE.LcTurns
import PyProof.RangeFor
import PyProof.WalksMore
import PyProof.StrWalks
import PyProof.EnumMake
import PyProof.Rows.Range3
import PyProof.Rows.GenSrcRange
import PyProof.Rows.DictUnroll
import PyProof.Rows.LoopUnroll
import PyProof.DictItemsLoops
import PyProof.WalksEnum
import KE.KPairComp
import PyProof.DictRoads
import PyProof.DefCall
import KE.KPar
import PyProof.GenQ
import Lean
import PySem.Challenge.RW_ag0004_03
set_option Elab.async false
set_option linter.all false
set_option bootstrap.genMatcherCode false
set_option tactic.hygienic false
namespace Mine
noncomputable section
open PySem PySem.W PyProof.Rows
section
variable {α β:Type}{p:Prop}
theorem nS {a:α}(e:none=some a):p:=Option.noConfusion (rfl) (heq_of_eq e)
theorem nS' {a:α}(e:some a=none):p:=nS e.symm
theorem nT (e:true=false):p:=absurd e Bool.noConfusion
theorem nT' (e:false=true):p:=nT e.symm
theorem sI {a b:α}(e:some a=some b):a=b:=Option.some.inj e
theorem pI {a c:α}{b d:β}(e:(a,b)=(c,d)):a=c∧b=d:=Prod.mk.inj e
noncomputable def ob (o:Option α) (f:α→Option β):Option β:=match o with
 | some a=>f a
 | none=>none
noncomputable def gd (c:Bool) (a:Option β):Option β:=match c with
 | true=>a
 | false=>none
theorem gdT {c:Bool}{a:Option β}(h:c=true):gd c a=a:=by rw[h]; rfl
theorem obS {o:Option α}{f:α→Option β}{a:α}(h:o=some a):ob o f=f a:=by rw[h]; rfl
inductive OE (o:Option α) (f:α→Option β) (r:β):Prop where
 | mk (a:α) (e:o=some a) (q:f a=some r)
theorem obE {o:Option α}{f:α→Option β}{r:β}(h:ob o f=some r):OE o f r:=by
 cases o with
 | none=>exact nS h
 | some a=>exact ⟨a,rfl,h⟩
theorem gdE {c:Bool}{a:Option β}{r:β}(h:gd c a=some r):c=true∧a=some r:=by
 cases c with
 | false=>exact nS h
 | true=>exact ⟨rfl,h⟩
noncomputable def one:List α→Option α
 | []=>none
 | a::r=>match r with
  | []=>some a
  | _::_=>none
noncomputable def isNil:List α→Bool
 | []=>true
 | _::_=>false
theorem nilE {l:List α}(h:isNil l=true):l=[]:=by
 cases l with
 | nil=>rfl
 | cons=>exact nT' h
theorem oneE {l:List α}{a:α}(h:one l=some a):l=[a]:=by
 rcases l with _|⟨b,_|⟨c,r⟩⟩
 ·exact nS h
 ·rw[sI h]
 ·exact nS h
noncomputable def two (l:List α):Option (α × α):=match l with
 | []=>none
 | a::r=>ob (one r) fun b=>some (a,b)
theorem twoE {l:List α}{a b:α}(h:two l=some (a,b)):l=[a,b]:=by
 cases l with
 | nil=>exact nS h
 | cons x r =>
  obtain ⟨y,h1,h⟩:=obE h
  obtain ⟨rfl,rfl⟩:=pI (sI h)
  rw[oneE h1]
theorem cI {a b:α}{r s:List α}(e:a::r=b::s):a=b∧r=s:=List.cons.inj e
end
structure PS where
 objs:List (Nat × Obj)
 n0:Nat
 n:Nat
 upd:List Nat
 gens:Array GenState
 drawn:Drawn
 toks:Nat
 os:OsState
noncomputable def pget:List (Nat × Obj)→Nat→Option Obj
 | [],_=>none
 | x::r,a=>match Nat.beq x.1 a with
  | true=>some x.2
  | false=>pget r a
noncomputable def pset:List (Nat × Obj)→Nat→Obj→List (Nat × Obj)
 | [],_,_=>[]
 | x::r,a,o=>match Nat.beq x.1 a with
  | true=>(a,o)::r
  | false=>x::pset r a o
noncomputable def padd (n0:Nat) (u:List Nat) (a:Nat):List Nat:=match Nat.blt a n0 with
 | false=>u
 | true=>match u.any (Nat.beq a) with
  | true=>u
  | false=>a::u
noncomputable def stepP (stp:Shared→Thread→Step):PS→Thread→Option (PS × Thread)
 | ⟨objs,n0,n,upd,gens,drawn,toks,os⟩,⟨cur,code,pos,stack⟩=>match cur with
  | .load a _ k=>match pget objs a with
   | some o=>some (⟨objs,n0,n,upd,gens,drawn,toks,os⟩,⟨k o,code,pos,stack⟩)
   | none=>none
  | .loadIfAlive a k=>match pget objs a with
   | some o=>some (⟨objs,n0,n,upd,gens,drawn,toks,os⟩,⟨k (some o),code,pos,stack⟩)
   | none=>none
  | .update a _ f k=>match pget objs a with
   | some o=>match alive (f o) with
    | some o'=>some (⟨pset objs a o',n0,n,padd n0 upd a,gens,drawn,toks,os⟩,⟨k (),code,pos,stack⟩)
    | none=>none
   | none=>none
  | .alloc o k=>match alive o with
   | some o'=>some (⟨(n,o')::objs,n0,n+1,upd,gens,drawn,toks,os⟩,⟨k n,code,pos,stack⟩)
   | none=>none
  | c=>match stp ⟨{},gens,drawn,toks,os⟩ ⟨c,code,pos,stack⟩ with
   | .go s' t'=>some (⟨objs,n0,n,upd,s'.gens,s'.drawn,s'.toks,s'.os⟩,t')
   | .halt _ _=>none
structure Rep (σ:PS) (s:Shared):Prop where
 gens:s.gens=σ.gens
 drawn:s.drawn=σ.drawn
 toks:s.toks=σ.toks
 os:s.os=σ.os
 size:s.heap.objs.size=σ.n
 le:σ.n0≤σ.n
 objs:∀x∈σ.objs,s.heap.get? x.1=some x.2
 nodup:(σ.objs.map (fun x=>x.1)).Nodup
theorem alive_some {o o':Obj}(h:alive o=some o'):o'=o∧o.isFreed=false:=by
 obtain ⟨c,d,dt,sl⟩:=o
 cases dt <;> first|(cases h; exact ⟨rfl,rfl⟩)|cases h
theorem beq_dec (a b:Nat):Nat.beq a b=decide (a=b):=BT.beq_eq a b
theorem pget_mem:∀{l:List (Nat × Obj)} {a:Nat} {o:Obj},pget l a=some o→(a,o)∈l
 | [],_,_,h=>by exact nS h
 | x::r,a,o,h=>by
  unfold pget at h
  rw[beq_dec] at h
  by_cases e:x.1=a
  ·rw[decide_eq_true e] at h
   obtain rfl:=sI h
   subst e
   exact .head _
  ·rw[decide_eq_false e] at h
   exact .tail _ (pget_mem h)
theorem pset_keys:∀(l:List (Nat × Obj)) (a:Nat) (o:Obj),(pset l a o).map (fun x=>x.1)=l.map (fun x=>x.1)
 | [],_,_=>rfl
 | x::r,a,o=>by
  unfold pset
  rw[beq_dec]
  by_cases e:x.1=a
  ·rw[decide_eq_true e]; simp[e]
  ·rw[decide_eq_false e]; simp[pset_keys r a o]
theorem pset_mem:∀{l:List (Nat × Obj)} {a:Nat} {o:Obj},(l.map (fun x=>x.1)).Nodup→∀x∈pset l a o,x=(a,o)∨(x∈l∧x.1≠a)
 | [],_,_,_,x,h=>by cases h
 | y::r,a,o,nd,x,h=>by
  unfold pset at h
  rw[beq_dec] at h
  rw[List.map_cons,List.nodup_cons] at nd
  by_cases e:y.1=a
  ·rw[decide_eq_true e] at h
   rcases List.mem_cons.mp h with h|h
   ·exact .inl h
   ·refine .inr ⟨.tail _ h,fun q=>nd.1 ?_⟩
    rw[e,←q]
    exact List.mem_map_of_mem h
  ·rw[decide_eq_false e] at h
   rcases List.mem_cons.mp h with h|h
   ·subst h; exact .inr ⟨.head _,e⟩
   ·rcases pset_mem nd.2 x h with q|q
    ·exact .inl q
    ·exact .inr ⟨.tail _ q.1,q.2⟩
theorem padd_sub (n0:Nat)(u:List Nat)(a:Nat):∀b∈u,b∈padd n0 u a:=by
 intro b hb
 unfold padd
 split
 ·exact hb
 ·split
  ·exact hb
  ·exact .tail _ hb
set_option tactic.hygienic true in
theorem padd_has {n0:Nat}{u:List Nat}{a:Nat}(h:a<n0):a∈padd n0 u a:=by
 unfold padd
 rw[show Nat.blt a n0=true from Nat.ble_eq_true_of_le h]
 dsimp only
 split
 ·rename_i q
  obtain ⟨b,hb,e⟩:=List.any_eq_true.mp q
  rw[beq_dec,decide_eq_true_eq] at e
  exact e▸hb
 ·exact .head _
section
variable {p:Program}{w:World}{stp:Shared→Thread→Step}
def Kp (n0:Nat)(u:List Nat)(h h':Heap):Prop:=∀b o,b<n0→h.get? b=some o→b∉u→h'.get? b=some o
theorem Kp.refl {n0:Nat}{u:List Nat}{h:Heap}:Kp n0 u h h:=fun J J J e J=>e
inductive Nx (σ σ':PS) (s:Shared) (Q:Shared→Prop):Prop where
 | mk (s':Shared) (q:Q s') (r:Rep σ' s') (e:σ'.n0=σ.n0) (u:∀b∈σ.upd,b∈σ'.upd) (k:Kp σ.n0 σ'.upd s.heap s'.heap)
theorem Nx.then {σ σ₂ σ':PS}{s:Shared}{Q Q₂:Shared→Prop}{Q':Shared→Shared→Prop}(x:Nx σ σ₂ s Q)(y:∀s₂,Rep σ₂ s₂→Nx σ₂ σ' s₂ (Q' s₂))(f:∀s₂ s',Q s₂→Q' s₂ s'→Q₂ s'):Nx σ σ' s Q₂ :=
 x.rec fun s₂ e₂ R₂ n₂ u₂ k₂=>(y s₂ R₂).rec fun s' e' R' n' u' k'=>⟨s',f _ _ e₂ e',R',n'.trans n₂,fun b hb=>u' b (u₂ b hb),fun b o hb hg hn=>k' b o (n₂▸hb) (k₂ b o hb hg fun q=>hn (u' b q)) hn⟩
theorem Nx.same {σ:PS}{s:Shared}{Q:Shared→Prop}(R:Rep σ s)(q:Q s):Nx σ σ s Q:=⟨s,q,R,rfl,fun J x=>x,Kp.refl⟩
theorem stepP_other {objs:List (Nat × Obj)}{n0 n:Nat}{upd:List Nat}{gens:Array GenState}{drawn:Drawn}{toks:Nat}{os:OsState}{cur:Sem Fin}{code:Code}{pos:Pos}{stack:List Frame}{σ':PS}{t':Thread}{s:Shared}
  (h1:∀a q k,cur≠.load a q k) (h2:∀a q f k,cur≠.update a q f k) (h3:∀o k,cur≠.alloc o k) (h4:∀a k,cur≠.loadIfAlive a k)
  (R:Rep ⟨objs,n0,n,upd,gens,drawn,toks,os⟩ s)
  (h:(match step (denote treeTable) p w ⟨{},gens,drawn,toks,os⟩ ⟨cur,code,pos,stack⟩ with
   | .go s' t'=>some ((⟨objs,n0,n,upd,s'.gens,s'.drawn,s'.toks,s'.os⟩:PS),t')
   | .halt _ _=>none)=some (σ',t')) :
  Nx ⟨objs,n0,n,upd,gens,drawn,toks,os⟩ σ' s fun s'=>step (denote treeTable) p w s ⟨cur,code,pos,stack⟩=.go s' t':=by
 obtain ⟨H,gs,d,tk,o⟩:=s
 obtain ⟨r1,r2,r3,r4,r5,r6,r7,r8⟩:=R
 dsimp only at r1 r2 r3 r4
 subst r1 r2 r3 r4
 cases q:step (denote treeTable) p w ⟨{},gs,d,tk,o⟩ ⟨cur,code,pos,stack⟩ with
 | halt o s=>rw[q] at h; exact nS h
 | go s₀ t₀ =>
  rw[q] at h
  cases h
  exact ⟨_,step_heap h1 h2 h3 h4 q,⟨rfl,rfl,rfl,rfl,r5,r6,r7,r8⟩,rfl,fun J x=>x,Kp.refl⟩
theorem stepP_spec (hstp:stp=step (denote treeTable) p w){σ σ':PS}{s:Shared}{t t':Thread}(R:Rep σ s)(h:stepP stp σ t=some (σ',t')) :
  Nx σ σ' s fun s'=>step (denote treeTable) p w s t=.go s' t':=by
 subst hstp
 obtain ⟨objs,n0,n,upd,gens,drawn,toks,os⟩:=σ
 obtain ⟨cur,code,pos,stack⟩:=t
 cases cur with
 | load a q k =>
  cases g:pget objs a with
  | none=>unfold stepP at h; dsimp only at h; rw[g] at h; exact nS h
  | some o =>
   unfold stepP at h
   dsimp only at h
   rw[g] at h
   obtain ⟨rfl,rfl⟩:=pI (sI h)
   have e:=R.objs _ (pget_mem g)
   refine .same R ?_
   unfold step
   dsimp only
   rw[e]
 | loadIfAlive a k =>
  cases g:pget objs a with
  | none=>unfold stepP at h; dsimp only at h; rw[g] at h; exact nS h
  | some o =>
   unfold stepP at h
   dsimp only at h
   rw[g] at h
   obtain ⟨rfl,rfl⟩:=pI (sI h)
   have e:=R.objs _ (pget_mem g)
   refine .same R ?_
   unfold step
   dsimp only
   rw[e]
 | update a q f k =>
  cases g:pget objs a with
  | none=>unfold stepP at h; dsimp only at h; rw[g] at h; exact nS h
  | some o =>
   cases al:alive (f o) with
   | none=>unfold stepP at h; dsimp only at h; rw[g] at h; dsimp only at h; rw[al] at h; exact nS h
   | some o' =>
    unfold stepP at h
    dsimp only at h
    rw[g] at h
    dsimp only at h
    rw[al] at h
    obtain ⟨rfl,rfl⟩:=pI (sI h)
    obtain ⟨rfl,hf⟩:=alive_some al
    have e:=R.objs _ (pget_mem g)
    obtain ⟨H,gs,d,tk,os'⟩:=s
    obtain ⟨r1,r2,r3,r4,r5,r6,r7,r8⟩:=R
    have hs:Heap.SameBut a H (H.update a f):=Heap.SameBut.update ..
    have ge:(H.update a f).get? a=some (f o):=by first|exact Heap.get?_update_self f e hf|exact Heap.get?_update_self _ e hf|(rw[Heap.get?_update_self _ e]; exact hf)
    refine ⟨⟨H.update a f,gs,d,tk,os'⟩,?_,⟨r1,r2,r3,r4,hs.1.trans r5,r6,?_,?_⟩,rfl,padd_sub _ _ _,?_⟩
    ·unfold step
     dsimp only
     rw[e]
     exact if_pos rfl
    ·intro x hx
     rcases pset_mem r8 x hx with q|⟨q1,q2⟩
     ·subst q; exact ge
     ·exact (hs.2 _ q2).trans (r7 x q1)
    ·rw[pset_keys]; exact r8
    ·intro b ob hb hg hn
     by_cases q:b=a
     ·subst q; exact absurd (padd_has hb) hn
     ·exact (hs.2 _ q).trans hg
 | alloc o k =>
  cases al:alive o with
  | none=>unfold stepP at h; dsimp only at h; rw[al] at h; exact nS h
  | some o' =>
   unfold stepP at h
   dsimp only at h
   rw[al] at h
   obtain ⟨rfl,rfl⟩:=pI (sI h)
   obtain ⟨rfl,hf⟩:=alive_some al
   obtain ⟨H,gs,d,tk,os'⟩:=s
   obtain ⟨r1,r2,r3,r4,r5,r6,r7,r8⟩:=R
   have r5':H.objs.size=n:=r5
   refine ⟨⟨H.push o',gs,d,tk,os'⟩,?_,⟨r1,r2,r3,r4,?_,Nat.le_succ_of_le r6,?_,?_⟩,rfl,fun J x=>x,?_⟩
   ·unfold step
    dsimp only
    rw[r5']
   ·show (H.push o').objs.size=n+1
    rw[Heap.size_push,r5']
   ·intro x hx
    rcases List.mem_cons.mp hx with q|q
    ·subst q
     rw[←r5']
     exact Heap.get?_push_size _ hf
    ·exact Heap.get?_push_of_some _ (r7 x q)
   ·rw[List.map_cons,List.nodup_cons]
    refine ⟨fun q=>?_,r8⟩
    obtain ⟨x,hx,hx'⟩:=List.mem_map.mp q
    have:=Heap.lt_size (r7 x hx)
    have hx'':x.1=n:=hx'
    rw[hx''] at this
    have this':n<H.objs.size:=this
    omega
   ·intro b ob hb hg hn
    exact Heap.get?_push_of_some _ hg
 | _=>exact stepP_other (by intros; intro e; injection e) (by intros; intro e; injection e) (by intros; intro e; injection e) (by intros; intro e; injection e) R h
noncomputable def endP (t:Thread):Option Flow:=match t.stack with
 | []=>none
 | _::r=>match r with
  | []=>match t.cur with
   | .pure (.done f)=>some f
   | _=>none
  | _::_=>none
set_option tactic.hygienic true in
theorem endP_eq (t:Thread):endAt 1 t=endP t:=by
 obtain ⟨cur,code,pos,stack⟩:=t
 unfold endAt endP
 rcases stack with _|⟨a,_|⟨b,l⟩⟩
 ·rfl
 ·cases cur <;> first|rfl|(rename_i f; cases f <;> rfl)
 ·show (match (l.length+2) == 1,cur with|true,.pure (.done f)=>some f|_,_=>none)=none
  have:((l.length+2) == 1)=false:=by rw[beq_eq_false_iff_ne]; omega
  rw[this]
noncomputable def segP (stp:Shared→Thread→Step) (ok:Thread→Bool):Nat→PS→Thread→Option (Flow × PS × Code × Pos)
 | 0,_,_=>none
 | n+1,σ,t=>match endP t with
  | some f=>some (f,σ,t.code,t.pos)
  | none=>match ok t with
   | false=>none
   | true=>match stepP stp σ t with
    | some (σ',t')=>segP stp ok n σ' t'
    | none=>none
theorem segP_spec (hstp:stp=step (denote treeTable) p w){m0:Nat}{ann:Option Value}{ok:Thread→Bool}(hok:ok=stepOk m0 ann):∀{n:Nat} {σ σ':PS} {s:Shared} {t:Thread} {f:Flow} {c:Code} {q:Pos},Rep σ s→segP stp ok n σ t=some (f,σ',c,q) →
  Nx σ σ' s fun s'=>segRun treeTable p w m0 ann 1 n s t=some (f,s',c,q)
 | 0,_,_,_,_,_,_,_,_,h=>nS h
 | n+1,σ,σ',s,t,f,c,q,R,h=>by
  unfold segP at h
  unfold segRun
  rw[endP_eq]
  cases he:endP t with
  | some x=>rw[he] at h; cases h; exact .same R rfl
  | none =>
   rw[he] at h
   cases hk:ok t with
   | false=>rw[hk] at h; exact nS h
   | true =>
    rw[hk] at h
    rw[←hok,hk]
    cases hs:stepP stp σ t with
    | none=>rw[hs] at h; exact nS h
    | some r =>
     obtain ⟨σ₂,t₂⟩:=r
     rw[hs] at h
     exact (stepP_spec hstp R hs).then (fun s₂ R₂=>segP_spec hstp hok R₂ h) fun s₂ s' e₂ e'=>by rw[e₂]; exact e'
noncomputable def goP (stp:Shared→Thread→Step) (ok:Thread→Bool):Nat→PS→Thread→Option (PS × Thread)
 | 0,σ,t=>some (σ,t)
 | n+1,σ,t=>match through t with
  | true=>none
  | false=>match ok t with
   | false=>none
   | true=>match stepP stp σ t with
    | some (σ',t')=>goP stp ok n σ' t'
    | none=>none
theorem goP_spec (hstp:stp=step (denote treeTable) p w){m0:Nat}{ann:Option Value}{ok:Thread→Bool}(hok:ok=stepOk m0 ann):∀{n:Nat} {σ σ':PS} {s:Shared} {t t':Thread},Rep σ s→goP stp ok n σ t=some (σ',t') →
  Nx σ σ' s fun s'=>topGo treeTable p w m0 ann n s t=some (s',t')
 | 0,_,_,s,_,_,R,h=>by obtain ⟨rfl,rfl⟩:=pI (sI h); exact .same R rfl
 | n+1,σ,σ',s,t,t',R,h=>by
  unfold goP at h
  unfold topGo
  cases he:through t with
  | true=>rw[he] at h; exact nS h
  | false =>
   rw[he] at h
   cases hk:ok t with
   | false=>rw[hk] at h; exact nS h
   | true =>
    rw[hk] at h
    rw[←hok,hk]
    cases hs:stepP stp σ t with
    | none=>rw[hs] at h; exact nS h
    | some r =>
     obtain ⟨σ₂,t₂⟩:=r
     rw[hs] at h
     exact (stepP_spec hstp R hs).then (fun s₂ R₂=>goP_spec hstp hok R₂ h) fun s₂ s' e₂ e'=>by rw[e₂]; exact e'
end
theorem step_fast:step=PySem.W.Fast.tw8437177126325714943:=PySem.W.Fast.te8437177126325714943
theorem denote_fast:denote=PySem.W.Fast.tw11892475500146522536:=PySem.W.Fast.te11892475500146522536
theorem table_fast:treeTable=PySem.W.Fast.tw14364793385576792824:=PySem.W.Fast.te14364793385576792824
theorem ok_fast:stepOk=PySem.W.Fast.tw6613529449190102663:=PySem.W.Fast.te6613529449190102663
noncomputable abbrev S (s:String):Str:=PySem.Str.ofString s
noncomputable def eS (P:Params) (s:String) (t:Nat) (v:Value):DictEntry:=⟨PyData.keyHash P (S s),.str (S s) t,v⟩
noncomputable def sArgs:Stmt→Arguments
 | .FunctionDef _ a _ _ _ _ _ _ _ _=>a
 | _=>⟨[],[],none,[],[],none,[]⟩
noncomputable def sBody:Stmt→List Stmt
 | .FunctionDef _ _ b _ _ _ _ _ _ _=>b
 | _=>[]
noncomputable def sScope:Stmt→Scope
 | .FunctionDef _ _ _ _ _ _ sc _ _ _=>sc
 | _=>{ kind:=.module,names:=[],isGenerator:=false,isCoroutine:=false,more:=[] }
noncomputable def cBody:Stmt→List Stmt
 | .ClassDef _ _ _ b _ _ _ _ _ _ _=>b
 | _=>[]
noncomputable def nthS:List Stmt→Nat→Stmt
 | [],_=>.Pass default
 | x::r,n=>match n with
  | 0=>x
  | n+1=>nthS r n
noncomputable def fD (name qual:Str) (st:Stmt) (cl:List (Str × Addr)) (dV kV doc pm:Value) (an:Option Addr) (cd ct:Value):Data :=
 .func { name:=name,qualname:=qual,params:=sArgs st,body:=.stmts (sBody st),scope:=sScope st,globals:=mainGlobals,closure:=cl,defaults:=dV,kwdefaults:=kV,doc:=doc,pyModule:=pm,annotations:=an,code:=cd,closureTuple:=ct,builtins:=builtinsNs }
inductive OT where
 | nil
 | leaf (a:Nat) (f:Params→Obj)
 | br (k:Nat) (l r:OT)
noncomputable def OT.get:OT→Nat→Option (Params→Obj)
 | .nil,_=>none
 | .leaf b f,a=>match Nat.beq a b with
  | true=>some f
  | false=>none
 | .br k l r,a=>match Nat.blt a k with
  | true=>l.get a
  | false=>r.get a
noncomputable def wantP (t:OT) (P:Params) (n m:Nat):List (Option Obj):=(List.range' n m).map fun a=>match t.get a with
 | some f=>some (f P)
 | none=>none
noncomputable def seeP (t:OT) (n m:Nat) (vs:List Nat):Flow × PS × Code × Pos→Flow × Code × Pos × Nat × List Nat × Array GenState × Drawn × Nat × OsState × List (Option Obj) × List (Option Obj)
 | (f,σ,c,q)=>(f,c,q,σ.n,σ.upd,σ.gens,σ.drawn,σ.toks,σ.os,(List.range' n m).map (fun a=>match t.get a with
  | some _=>pget σ.objs a
  | none=>none),vs.map (pget σ.objs))
noncomputable def stpF (p:Program) (w:World):Shared→Thread→Step:=PySem.W.Fast.tw8437177126325714943 (PySem.W.Fast.tw11892475500146522536 PySem.W.Fast.tw14364793385576792824) p w
noncomputable def okF:Thread→Bool:=PySem.W.Fast.tw6613529449190102663 11 (some (.ref 6))
theorem stpF_eq (p:Program)(w:World):stpF p w=step (denote treeTable) p w:=by
 unfold stpF
 rw[←step_fast,←denote_fast,←table_fast]
theorem okF_eq:okF=stepOk 11 (some (.ref 6)):=by
 unfold okF
 rw[←ok_fast]
structure TopAt (t:OT) (P:Params) (V:List (Nat × Obj)) (n k:Nat) (os:OsState) (s:Shared):Prop where
 size:s.heap.objs.size=n
 gens:s.gens=#[]
 drawn:s.drawn=boot_drawn
 toks:s.toks=k
 os:s.os=os
 b0:s.heap.get? 0=some (boot_o_0 P)
 b4:s.heap.get? 4=some (boot_o_4 P)
 tree:∀a f,t.get a=some f→a<n→s.heap.get? a=some (f P)
 vol:∀x∈V,s.heap.get? x.1=some x.2
noncomputable def nodupB:List Nat→Bool
 | []=>true
 | a::r=>!r.any (Nat.beq a)&&nodupB r
theorem nodup_of:∀{l:List Nat},nodupB l=true→l.Nodup
 | [],_=>.nil
 | a::r,h=>by
  obtain ⟨x,y⟩:=Bool.and_eq_true_iff.mp h
  refine List.nodup_cons.mpr ⟨fun q=>?_,nodup_of y⟩
  have:r.any (Nat.beq a)=true:=List.any_eq_true.mpr ⟨a,q,by rw[beq_dec]; simp⟩
  rw[this] at x
  exact nT' x
noncomputable def offB (t:OT) (u:List Nat):Bool:=u.all fun b=>(t.get b).isNone&&!Nat.beq b 0&&!Nat.beq b 4
theorem off_of {t:OT}{u:List Nat}(h:offB t u=true):∀b∈u,t.get b=none∧b≠0∧b≠4:=fun b hb=>by
 have:=List.all_eq_true.mp h b hb
 rw[beq_dec,beq_dec] at this
 simp only[Bool.and_eq_true,Option.isNone_iff_eq_none,Bool.not_eq_true',decide_eq_false_iff_not] at this
 exact ⟨this.1.1,this.1.2,this.2⟩
theorem map_some_get {α β:Type}{f g:α→Option β}:∀{l:List α},l.map f=l.map g→∀a∈l,f a=g a
 | [],_,a,h=>by cases h
 | b::r,e,a,h=>by
  simp only[List.map_cons,List.cons.injEq] at e
  rcases List.mem_cons.mp h with q|q
  ·subst q; exact e.1
  ·exact map_some_get e.2 a q
theorem vol_of {objs:List (Nat × Obj)}:∀{V:List (Nat × Obj)},(V.map (fun x=>x.1)).map (pget objs)=V.map (fun x=>some x.2)→∀x∈V,pget objs x.1=some x.2
 | [],_,x,h=>by cases h
 | y::r,e,x,h=>by
  simp only[List.map_cons,List.cons.injEq] at e
  rcases List.mem_cons.mp h with q|q
  ·subst q; exact e.1
  ·exact vol_of e.2 x q
theorem at_of_rep {t:OT}{P:Params}{V V':List (Nat × Obj)}{n0 m n1 k0 k1:Nat}{os:OsState}{s s':Shared}{σ':PS}{u vs:List Nat}
  (T:TopAt t P V n0 k0 os s) (R:Rep σ' s') (K:Kp n0 σ'.upd s.heap s'.heap)
  (e1:σ'.n=n1) (e2:σ'.upd=u) (e3:σ'.gens=#[]) (e4:σ'.drawn=boot_drawn) (e5:σ'.toks=k1) (e6:σ'.os=os)
  (e7:(List.range' n0 m).map (fun a=>match t.get a with|some _=>pget σ'.objs a|none=>none)=wantP t P n0 m) (e8:vs.map (pget σ'.objs)=V'.map (fun x=>some x.2))
  (hV:V'.map (fun x=>x.1)=vs) (hn:n1=n0+m) (hu:offB t u=true):TopAt t P V' n1 k1 os s':=by
 have ho:=off_of hu
 subst e2
 have hb:∀{a:Nat} {o:Obj},s.heap.get? a=some o→a∉σ'.upd→s'.heap.get? a=some o:=fun {a o} e q=>K a o (by have:=Heap.lt_size e; rw[T.size] at this; exact this) e q
 refine ⟨R.size.trans e1,R.gens.trans e3,R.drawn.trans e4,R.toks.trans e5,R.os.trans e6,hb T.b0 fun q=>(ho _ q).2.1 rfl,hb T.b4 fun q=>(ho _ q).2.2 rfl,fun a f hf ha=>?_,fun x hx=>?_⟩
 ·by_cases q:a<n0
  ·exact hb (T.tree a f hf q) fun z=>by rw[(ho _ z).1] at hf; exact nS hf
  ·have hm:a∈List.range' n0 m:=by rw[List.mem_range'_1]; omega
   have z:=map_some_get e7 a hm
   rw[hf] at z
   exact R.objs _ (pget_mem z)
 ·subst hV
  exact R.objs _ (pget_mem (vol_of e8 x hx))
def Goes (p:Program)(w:World)(Fin:Shared→Prop)(s:Shared)(th:Thread):Prop:=∃M r,topRun treeTable p w 11 (some (.ref 6)) M s th=some r∧Fin r
theorem cS {p:Program}{w:World}{os:OsState}{t:OT}{body:List Stmt}{env:Env}{fp:Pos}{N n0 m n1 k0 k1 a c:Nat}{σ V V':List (Nat × Obj)}{u vs:List Nat}{q q':Pos}{Fin:Shared→Prop}{s:Shared}
  (h:(segP (stpF p w) okF N ⟨σ,n0,n0,[],#[],boot_drawn,k0,os⟩ (piecesOf ((body.drop a).take c) env (.body body env) q [topFrame fp])).map (seeP t n0 m vs)=some (.next,.body body env,q',n1,u,#[],boot_drawn,k1,os,wantP t w.params n0 m,V'.map (fun x=>some x.2)))
  (hV:V'.map (fun x=>x.1)=vs) (hn:n1=n0+m) (nd:nodupB (σ.map (fun x=>x.1))=true) (hu:offB t u=true)
  (rest:∀s',TopAt t w.params V' n1 k1 os s'→Goes p w Fin s' (restOf (body.drop (a+c)) env (.body body env) q' [topFrame fp]))
  (T:TopAt t w.params V n0 k0 os s) (hσ:∀x∈σ,s.heap.get? x.1=some x.2) :
  Goes p w Fin s (restOf (body.drop a) env (.body body env) q [topFrame fp]):=by
 cases e:segP (stpF p w) okF N ⟨σ,n0,n0,[],#[],boot_drawn,k0,os⟩ (piecesOf ((body.drop a).take c) env (.body body env) q [topFrame fp]) with
 | none=>rw[e] at h; exact nS h
 | some r =>
  obtain ⟨f,σ',c',q''⟩:=r
  rw[e] at h
  simp only[Option.map_some,seeP,Option.some.injEq,Prod.mk.injEq] at h
  obtain ⟨rfl,rfl,rfl,e1,e2,e3,e4,e5,e6,e7,e8⟩:=h
  obtain ⟨s',hs,R,_,_,K⟩:=segP_spec (stpF_eq p w) okF_eq (s:=s) ⟨T.gens,T.drawn,T.toks,T.os,T.size,Nat.le_refl _,hσ,nodup_of nd⟩ e
  obtain ⟨M,r,hM,hF⟩:=rest s' (at_of_rep T R K e1 e2 e3 e4 e5 e6 e7 e8 hV hn hu)
  refine ⟨N+M,r,?_,hF⟩
  have:=piece_app hs hM
  rw[←List.drop_drop,List.take_append_drop] at this
  exact this
theorem block_step {p:Program}{w:World}{os:OsState}{t:OT}{body:List Stmt}{env:Env}{fp:Pos}{N n0 m n1 k0 k1:Nat}{σ V V':List (Nat × Obj)}{u vs:List Nat}{q q':Pos}{Fin:Shared→Prop}{s:Shared}
  (h:(segP (stpF p w) okF N ⟨σ,n0,n0,[],#[],boot_drawn,k0,os⟩ (blockOf body env (.body body env) q [topFrame fp])).map (seeP t n0 m vs)=some (.next,.body body env,q',n1,u,#[],boot_drawn,k1,os,wantP t w.params n0 m,V'.map (fun x=>some x.2)))
  (hV:V'.map (fun x=>x.1)=vs) (hn:n1=n0+m) (nd:nodupB (σ.map (fun x=>x.1))=true) (hu:offB t u=true)
  (rest:∀s',TopAt t w.params V' n1 k1 os s'→Goes p w Fin s' (restOf body env (.body body env) q' [topFrame fp]))
  (T:TopAt t w.params V n0 k0 os s) (hσ:∀x∈σ,s.heap.get? x.1=some x.2) :
  Goes p w Fin s ⟨denote treeTable (.body body env),.body body env,q,[topFrame fp]⟩:=by
 cases e:segP (stpF p w) okF N ⟨σ,n0,n0,[],#[],boot_drawn,k0,os⟩ (blockOf body env (.body body env) q [topFrame fp]) with
 | none=>rw[e] at h; exact nS h
 | some r =>
  obtain ⟨f,σ',c',q''⟩:=r
  rw[e] at h
  simp only[Option.map_some,seeP,Option.some.injEq,Prod.mk.injEq] at h
  obtain ⟨rfl,rfl,rfl,e1,e2,e3,e4,e5,e6,e7,e8⟩:=h
  obtain ⟨s',hs,R,_,_,K⟩:=segP_spec (stpF_eq p w) okF_eq (s:=s) ⟨T.gens,T.drawn,T.toks,T.os,T.size,Nat.le_refl _,hσ,nodup_of nd⟩ e
  obtain ⟨M,r,hM,hF⟩:=rest s' (at_of_rep T R K e1 e2 e3 e4 e5 e6 e7 e8 hV hn hu)
  exact ⟨N+M,r,piece_block hs hM,hF⟩
theorem fin_run {p:Program}{w:World}{s:Shared}{c:Code}{q:Pos}{fp:Pos}:topRun treeTable p w 11 (some (.ref 6)) 2 s ⟨doneF .next,c,q,[topFrame fp]⟩=some s:=by
 obtain ⟨h,g,d,k,os⟩:=s
 rfl
theorem chain_end {p:Program}{w:World}{env:Env}{fp:Pos}{q:Pos}{b:List Stmt}{Fin:Shared→Prop}{s:Shared}{body:List Stmt}(hF:Fin s)(hb:b=[]):Goes p w Fin s (restOf b env (.body body env) q [topFrame fp]):=by
 subst hb
 exact ⟨2,s,piece_nil fin_run,hF⟩
noncomputable def seeG (t:OT) (n m:Nat) (vs:List Nat):PS × Thread→Thread × Nat × List Nat × Array GenState × Drawn × Nat × OsState × List (Option Obj) × List (Option Obj)
 | (σ,th)=>(th,σ.n,σ.upd,σ.gens,σ.drawn,σ.toks,σ.os,(List.range' n m).map (fun a=>match t.get a with
  | some _=>pget σ.objs a
  | none=>none),vs.map (pget σ.objs))
theorem pre_step {p:Program}{w:World}{os:OsState}{t:OT}{th th':Thread}{N n0 m n1 k0 k1:Nat}{σ V V':List (Nat × Obj)}{u vs:List Nat}{Fin:Shared→Prop}{s:Shared}
  (h:(goP (stpF p w) okF N ⟨σ,n0,n0,[],#[],boot_drawn,k0,os⟩ th).map (seeG t n0 m vs)=some (th',n1,u,#[],boot_drawn,k1,os,wantP t w.params n0 m,V'.map (fun x=>some x.2)))
  (hV:V'.map (fun x=>x.1)=vs) (hn:n1=n0+m) (nd:nodupB (σ.map (fun x=>x.1))=true) (hu:offB t u=true)
  (rest:∀s',TopAt t w.params V' n1 k1 os s'→Goes p w Fin s' th')
  (T:TopAt t w.params V n0 k0 os s) (hσ:∀x∈σ,s.heap.get? x.1=some x.2):Goes p w Fin s th:=by
 cases e:goP (stpF p w) okF N ⟨σ,n0,n0,[],#[],boot_drawn,k0,os⟩ th with
 | none=>rw[e] at h; exact nS h
 | some r =>
  obtain ⟨σ',th''⟩:=r
  rw[e] at h
  simp only[Option.map_some,seeG,Option.some.injEq,Prod.mk.injEq] at h
  obtain ⟨rfl,e1,e2,e3,e4,e5,e6,e7,e8⟩:=h
  obtain ⟨s',hs,R,_,_,K⟩:=goP_spec (stpF_eq p w) okF_eq (s:=s) ⟨T.gens,T.drawn,T.toks,T.os,T.size,Nat.le_refl _,hσ,nodup_of nd⟩ e
  obtain ⟨M,r,hM,hF⟩:=rest s' (at_of_rep T R K e1 e2 e3 e4 e5 e6 e7 e8 hV hn hu)
  exact ⟨N+M,r,go_top hs hM,hF⟩
theorem none_below {t:OT}{n:Nat}(h:(List.range n).all (fun a=>(t.get a).isNone)=true){a:Nat}(l:a<n)(f:Params→Obj):¬t.get a=some f:=fun e=>by
 have:=List.all_eq_true.mp h a (List.mem_range.mpr l)
 rw[e] at this
 exact nT' this
theorem fc {α:Type}{x:α}{l:List α}{P:α→Prop}(h:P x)(r:∀y∈l,P y):∀y∈x::l,P y:=List.forall_mem_cons.mpr ⟨h,r⟩
theorem fn {α:Type}{P:α→Prop}:∀y∈([]:List α),P y:=List.forall_mem_nil _
end
noncomputable section
open PySem PySem.W PySem.Calls PyProof.Rows
structure TopFacts (p:Program) (h₀ h₁:Heap):Prop where
 acc:staticsAccountedI h₁ (importedModules p.main.body)
 stat:staticsBehindTheTop (importedModules p.main.body) h₀ h₁
 keys:keysAreStrs h₁ mainNs
 blt:builtinsAsBooted h₁
 bmod:builtinsGlobalAsBooted h₁
 bound:∀x v,globalOf h₁ x=some v→x∈startupNames∨x∈p.boundNames
 laid:∀x∈laidNames,globalOf h₁ x=globalOf h₀ x
theorem holds_from {l:OpenLaw}{Fin:World→OsState→Shared→Prop}(ws:l.wellSaid=true)(hprom:l.row.toRowW.promised)(hbare:l.prog.bare)(how:opensWell l.prog=true)(hw:l.writes=false)
  (hopen:opening l.prog=plainProg l.prog.main.scope.names) (hf:∀s,fenceModules? l.prog s=some s)
  (run:∀w os,Goes l.prog w (Fin w os) ⟨boot_heap w.params,#[],boot_drawn,boot_toks,os⟩ (topStub l.prog))
  (ann:∀P,globalOf (boot_heap P) "__annotations__"=some (.ref 6))
  (facts:∀w os r,Fin w os r→TopFacts l.prog (boot_heap w.params) r.heap∧r.gens=#[]∧isTheDefsW l.prog r.heap l.name∧r.os=os)
  (call:∀(w:World) (os:OsState) (s₀ s₁:Shared) (args:List WData) (vs:List Value) (as:List Addr),Fin w os s₀→l.row.toRowW.claim.pre args=true→WData.layableAll args=true→Laid [] w s₀ s₁ args vs as →
   wpAny (model l.prog w) callerA (do match ←nsGet mainNs l.name with
     | some f=>do ret (←PySem.call f vs)
     | none=>unsupported "claim.caller:no-such-global") (fun fin s'=>∃v,fin=.done (.ret v)∧GoodWG l.row.toRowW.claim (classAt s₀.heap) (ExcName.means s₀.heap) args s₁ (.ok (.ret v)) s')
    (fun e s'=>False) s₁):l.Holds:=by
 refine ⟨ws,row_said ws,hprom,⟨hbare,how,rfl⟩,?_,fun w=>?_⟩
 ·obtain ⟨args,h1,h2⟩:=hprom
  exact ⟨args,h1,(Bool.and_eq_true_iff.mp h2).1⟩
 have hb:=boot_open (p:=l.prog) (N:=600) hopen rfl hf w
 obtain ⟨s₀,h1,e⟩:=Option.map_eq_some_iff.mp hb
 obtain ⟨s,h4,h5⟩:=Option.bind_eq_some_iff.mp h1
 have h4':=h4
 rw[←table_eq_tree] at h4
 have A:=AfterImport.of_importEnds h4
 refine ⟨⟨s,A⟩,fun s' hs'=>?_⟩
 obtain rfl:s'=s:=AfterImport.unique hs' A
 have z:s₀.asleep:=Shared.asleep_of_life (fence_lifeW h5) A.life
 obtain ⟨heap,gens,drawn,toks,os⟩:=s₀
 simp only[Prod.mk.injEq] at e
 obtain ⟨rfl,rfl,rfl,rfl⟩:=e
 obtain ⟨M,s₁,hM,hF⟩:=run w os
 obtain ⟨F,hg,hdef,hos⟩:=facts w os s₁ hF
 rw[←table_eq_tree] at hM
 obtain ⟨a,lf,hos',fr⟩:=topRun_spec _ _ _ _ z hM
 have T:TopRan l.prog w ⟨boot_heap w.params,Array.mk [],boot_drawn,boot_toks,os⟩ s₁:=by
  refine ⟨a,lf,Shared.rest_eq hos',fun b o hb hn=>fr b o ?_ (fun q=>hn (.inl q)) (fun q=>hn (.inr (.inl q))) (fun q=>hn (.inr (.inr ?_))) hb,F.acc,F.stat,F.keys,F.blt,F.bmod,?_,F.bound,F.laid⟩
  ·have:=Heap.lt_size hb
   exact this
  ·rw[←q]; exact ann w.params
  ·rw[hg]; intro g hg'; simp at hg'
 refine ⟨_,h5,rfl,s₁,T,?_,?_,?_,?_⟩
 ·intro n hn
  have:n=l.name:=by
   have hp:l.row.pinned=true:=rfl
   rw[hp] at hn
   have hn':n=l.row.name:=by simpa using hn
   exact hn'
  rw[this]; exact hdef
 ·intro x hx; cases hx
 ·intro x hx; cases hx
 have hz:s₁.asleep:=Shared.asleep_of_life lf z
 have hkk:∀s':Shared,(l.row.writes=true→namesKept l.prog l.row.keeps s₁.heap s'.heap∧∀x∈l.row.toRowW.claim.records,∀a,classAt s₁.heap x.1=some a→recordClass s'.heap a x.1 (x.2.map (fun x=>x.1))=true):=fun s' q=>by
  have q':l.writes=true:=q
  rw[hw] at q'; injection q'
 refine ClaimW.callFrom_of_specG (c:=l.row.toRowW.claim) (tree:=fun vs=>do match ←nsGet mainNs l.name with
   | some f=>do ret (←PySem.call f vs)
   | none=>unsupported "claim.caller:no-such-global") hz hg fun args hpre hlay ord hord=>?_
 obtain ⟨⟨vs,s₂⟩,hlaid⟩:=Option.isSome_iff_exists.mp (layAllW_isSome (R:=[]) (cl:=classAt s₁.heap) (P:=w.params) (ord:=ord) (fun c hc=>(nomatch hc)) args l.row.args s₁ (pre_splitW (r:=l.row.toRowW) hpre).1)
 have keeps:=layAllW_keeps _ _ _ hlaid
 have hal:=layAllW_rest _ _ _ hlaid
 obtain ⟨as,hrd,hin,hold⟩:=reads_layAllW hord _ _ _ hlaid hlay s₂.heap (fun J J e=>e)
 have LL:Laid [] w s₁ s₂ args vs as:=⟨⟨ord,hord,hlaid⟩,hrd,hin,hold,keeps,hal.1.trans hg,hal.2.2.1⟩
 refine ⟨vs,s₂,hlaid,wpAny_mono (call w os s₁ s₂ args vs as hF hpre hlay LL) (fun fin s' g=>?_) (fun J J g=>g.elim)⟩
 obtain ⟨v,rfl,g⟩:=g
 have hid:=ident_freeW (r:=l.row.toRowW) rfl rfl rfl
 have zz:=g.laid (c:=l.row.toRowW.claim) rfl rfl hid LL
 exact ⟨_,rfl,zz.1,zz.2.1,zz.2.2,hkk s'⟩
noncomputable def tiny (o0 o2 o3 o4:Obj):Heap:=⟨#[o0,o0,o2,o3,o4],{}⟩
theorem isNs_congr {h h':Heap}{a:Addr}(e:h.get? a=h'.get? a):h.isNs a=h'.isNs a:=by unfold Heap.isNs; rw[e]
theorem nsMap_congr {h h':Heap}{a:Addr}(e:h.get? a=h'.get? a)(x:Str):h.nsMap a x=h'.nsMap a x:=by unfold Heap.nsMap; rw[e]
theorem nsKeys_congr {h h':Heap}{a:Addr}(e:h.get? a=h'.get? a):h.nsKeys a=h'.nsKeys a:=by unfold Heap.nsKeys; rw[e]
theorem bltView_congr {h h':Heap}(e:h.get? builtinsNs=h'.get? builtinsNs):h.bltView=h'.bltView:=by
 have:h.nsPairs builtinsNs=h'.nsPairs builtinsNs:=by unfold Heap.nsPairs; rw[e]
 unfold Heap.bltView
 rw[this]
noncomputable def topB (p:Program) (h₀ h₁:Heap):Bool :=
 staticsOk (importedModules p.main.body) h₀ h₁&&namesBound p h₁&&laidKept h₀ h₁&&h₁.accountedOkI (importedModules p.main.body)&&h₁.isNs builtinsNs&&decide (h₁.nsMap mainGlobals "__builtins__"=some (.ref 4))
theorem topFacts_of {p:Program} {h₀ h₁ t₀ t₁:Heap} (e02:h₀.get? 2=t₀.get? 2) (e03:h₀.get? 3=t₀.get? 3) (e0:h₁.get? 0=t₁.get? 0) (e2:h₁.get? 2=t₁.get? 2) (e3:h₁.get? 3=t₁.get? 3) (e4:∃o,h₁.get? 4=some o∧o.cls=.type "module"∧o.dict=some builtinsNs)
  (hb:t₁.bltView=bltViewBooted) (ok:topB p t₀ t₁=true):TopFacts p h₀ h₁:=by
 have n02:=fun x=>nsMap_congr e02 x
 have n03:=fun x=>nsMap_congr e03 x
 have n2:=fun x=>nsMap_congr e2 x
 have n3:=fun x=>nsMap_congr e3 x
 unfold topB at ok
 simp only[Bool.and_eq_true] at ok
 obtain ⟨⟨⟨⟨⟨k1,k2⟩,k3⟩,k4⟩,k5⟩,k6⟩:=ok
 have s1:staticsOk (importedModules p.main.body) h₀ h₁=true:=by
  rw[←k1]
  unfold staticsOk
  rw[isNs_congr (a:=cStatics) e02,isNs_congr (a:=cStatics) e2,nsKeys_congr (a:=cStatics) e02,nsKeys_congr (a:=cStatics) e2]
  simp only[show ∀x,h₀.nsMap cStatics x=t₀.nsMap cStatics x from n02,show ∀x,h₁.nsMap cStatics x=t₁.nsMap cStatics x from n2]
 have s2:namesBound p h₁=true:=by
  rw[←k2]
  unfold namesBound
  rw[isNs_congr (a:=mainGlobals) e3,nsKeys_congr (a:=mainGlobals) e3]
 have s3:laidKept h₀ h₁=true:=by
  rw[←k3]
  unfold laidKept
  rw[isNs_congr (a:=mainGlobals) e03,isNs_congr (a:=mainGlobals) e3]
  simp only[show ∀x,h₀.nsMap mainGlobals x=t₀.nsMap mainGlobals x from n03,show ∀x,h₁.nsMap mainGlobals x=t₁.nsMap mainGlobals x from n3]
 have s4:h₁.accountedOkI (importedModules p.main.body)=true:=by
  rw[←k4]
  unfold Heap.accountedOkI
  rw[isNs_congr (a:=cStatics) e2,nsKeys_congr (a:=cStatics) e2]
  simp only[show ∀x,h₁.nsMap cStatics x=t₁.nsMap cStatics x from n2]
 have s5:h₁.isNs builtinsNs=true:=by rw[isNs_congr (a:=builtinsNs) e0]; exact k5
 have s6:h₁.bltView=bltViewBooted:=by rw[bltView_congr e0]; exact hb
 have hg:h₁.isNs mainGlobals=true:=by
  unfold namesBound at s2
  exact (Bool.and_eq_true_iff.mp s2).1
 obtain ⟨ob,o1,o2,o3⟩:=e4
 exact ⟨Heap.accountedI_of_ok s4,statics_of_ok s1,Pin.keysAreStrs_of hg,fun x hx=>(Pin.builtinOf_eq s5 x).trans (Heap.of_bltView s5 s6 x hx),⟨4,ob,(Pin.globalOf_eq hg _).trans ((n3 _).trans (of_decide_eq_true k6)),o1,o2,o3⟩,names_of_bound s2,laid_of_kept s3⟩
end
noncomputable section
open PySem PySem.W PyProof.Rows
inductive Bn where
 | len|isinstance|range|sum|enumerate|min|max
 | int|str|bytes|list|tuple|dict|bool
 deriving DecidableEq,Inhabited
noncomputable def Bn.val:Bn→Value
 | .len=>.builtin "len"
 | .isinstance=>.builtin "isinstance"
 | .range=>.type "range"
 | .sum=>.builtin "sum"
 | .enumerate=>.type "enumerate"
 | .min=>.builtin "min"
 | .max=>.builtin "max"
 | .int=>.type "int"
 | .str=>.type "str"
 | .bytes=>.type "bytes"
 | .list=>.type "list"
 | .tuple=>.type "tuple"
 | .dict=>.type "dict"
 | .bool=>.type "bool"
inductive AV where
 | none
 | bool (b:Bool)
 | int (i:Int)
 | str (s:Str)
 | bytes (b:List UInt8)
 | tup (xs:List AV)
 | list (xs:List AV)
 | dict (es:List (Str × AV))
 | obj (a:Addr)
 | bi (b:Bn)
 deriving Inhabited
inductive StrR (s:Str) (v:Value):Prop where
 | mk (t:Nat) (e:v=.str s t) (l:s.length≤sizeLine)
inductive BytR (b:List UInt8) (v:Value):Prop where
 | mk (arr:Array UInt8) (t:Nat) (e:v=.bytes arr t) (h:arr.toList=b) (l:b.length≤sizeLine)
inductive TupR (h:Heap) (B:Addr→Prop) (n:Nat) (R:List Value→Prop) (v:Value):Prop where
 | mk (a:Addr) (vs:Array Value) (e:v=.ref a) (nb:¬B a) (t:IsTup h a vs) (l:n≤sizeLine) (r:R vs.toList)
inductive LstR (h:Heap) (B:Addr→Prop) (n:Nat) (R:List Value→Prop) (v:Value):Prop where
 | mk (a:Addr) (vs:Array Value) (e:v=.ref a) (nb:¬B a) (t:h.PlainList a vs) (l:n≤sizeLine) (r:R vs.toList)
noncomputable def AV.asI:AV→Option Int
 | .int x=>some x
 | _=>.none
noncomputable def AV.asS:AV→Option Str
 | .str x=>some x
 | _=>.none
noncomputable def AV.asY:AV→Option (List UInt8)
 | .bytes x=>some x
 | _=>.none
noncomputable def AV.asL:AV→Option (List AV)
 | .list x=>some x
 | _=>.none
noncomputable def AV.asD:AV→Option (List (Str × AV))
 | .dict x=>some x
 | _=>.none
noncomputable def AV.asB:AV→Option Bool
 | .bool x=>some x
 | _=>.none
noncomputable def AV.asBi:AV→Option Bn
 | .bi b=>some b
 | _=>.none
noncomputable def AV.asO:AV→Option Addr
 | .obj a=>some a
 | _=>.none
theorem asBi {v:AV}{x:Bn}(h:v.asBi=some x):v=.bi x:=by cases v <;> first|exact nS h|rw[sI h]
theorem asO {v:AV}{x:Addr}(h:v.asO=some x):v=.obj x:=by cases v <;> first|exact nS h|rw[sI h]
theorem asI {v:AV}{x:Int}(h:v.asI=some x):v=.int x:=by cases v <;> first|exact nS h|rw[sI h]
theorem asS {v:AV}{x:Str}(h:v.asS=some x):v=.str x:=by cases v <;> first|exact nS h|rw[sI h]
theorem asY {v:AV}{x:List UInt8}(h:v.asY=some x):v=.bytes x:=by cases v <;> first|exact nS h|rw[sI h]
theorem asL {v:AV}{x:List AV}(h:v.asL=some x):v=.list x:=by cases v <;> first|exact nS h|rw[sI h]
theorem asD {v:AV}{x:List (Str × AV)}(h:v.asD=some x):v=.dict x:=by cases v <;> first|exact nS h|rw[sI h]
theorem asB {v:AV}{x:Bool}(h:v.asB=some x):v=.bool x:=by cases v <;> first|exact nS h|rw[sI h]
structure PW where
 p:Program
 w:World
inductive DctR (K:PW) (h:Heap) (B:Addr→Prop) (n:Nat) (R:List (Str × Value)→Prop) (v:Value):Prop where
 | mk (a:Addr) (vs:List (Str × Value)) (e:v=.ref a) (nb:¬B a) (s:(a == sysModules)=false) (t:h.DictOf (strKind K.p K.w) a vs) (l:n≤sizeLine) (r:R vs)
variable (K:PW)
mutual
noncomputable def RelB (h:Heap) (A:Addr→Prop):(B:Addr→Prop)→Value→AV→Prop
 | _,v,.none=>v=.none
 | _,v,.bool b=>v=.bool b
 | _,v,.int i=>∃t,v=.int i t
 | _,v,.str s=>StrR s v
 | _,v,.bytes b=>BytR b v
 | B,v,.tup xs=>TupR h B xs.length (fun vs=>RelL h A vs xs) v
 | B,v,.list xs=>LstR h B xs.length (fun vs=>RelL h A vs xs) v
 | B,v,.dict es=>DctR K h B es.length (fun vs=>RelD h A vs es) v
 | _,v,.obj a=>v=.ref a
 | _,v,.bi b=>v=b.val
noncomputable def RelL (h:Heap) (A:Addr→Prop):List Value→List AV→Prop
 | vs,[]=>vs=[]
 | vs,x::xs=>∃v r,vs=v::r∧RelB h A A v x∧RelL h A r xs
noncomputable def RelD (h:Heap) (A:Addr→Prop):List (Str × Value)→List (Str × AV)→Prop
 | vs,[]=>vs=[]
 | vs,x::xs=>∃v r,vs=(x.1,v)::r∧x.1.length≤sizeLine∧RelB h A A v x.2∧RelD h A r xs
end
abbrev VRel (h:Heap)(A:Addr→Prop)(v:Value)(x:AV):Prop:=RelB K h A A v x
structure Hst (h:Heap) (A:Addr→Prop) (h':Heap) (A':Addr→Prop):Prop where
 keep:∀a o,h.get? a=some o→¬A a→h'.get? a=some o
 av:∀a,A' a→A a∨h.get? a=none
variable {K}
theorem Hst.trans {h h' h'':Heap}{A A' A'':Addr→Prop}(x:Hst h A h' A')(y:Hst h' A' h'' A''):Hst h A h'' A'' where
 keep a o e na:=y.keep a o (x.keep a o e na) fun q=>(x.av a q).elim na fun l=>by rw[e] at l; cases l
 av a q:=(y.av a q).elim (fun q=>x.av a q) fun l=>by
  cases e:h.get? a with
  | none=>exact .inr rfl
  | some o=>exact .inl (Classical.byContradiction fun na=>by rw[x.keep a o e na] at l; cases l)
theorem Hst.kpT {h h' h'':Heap}{A A' A'':Addr→Prop}(x:Hst h A h' A')(y:Hst h' A' h'' A''):Hst h A h'' A'':=x.trans y
theorem Hst.notIn {h h':Heap}{A A':Addr→Prop}(x:Hst h A h' A'){a:Addr}{o:Obj}(e:h.get? a=some o)(na:¬A a):¬A' a :=
 fun q=>(x.av a q).elim na fun l=>by rw[e] at l; cases l
mutual
theorem RelB.kp {h h':Heap}{A A' B B':Addr→Prop}(k:Hst h A h' A')(kb:Hst h B h' B')(ab:∀a,A a→B a):∀(x:AV) {v:Value},RelB K h A B v x→RelB K h' A' B' v x
 | .none,v,r=>r
 | .bool b,v,r=>r
 | .int i,v,r=>r
 | .str s,v,r=>r
 | .bytes b,v,r=>r
 | .obj a,v,r=>r
 | .bi b,v,r=>r
 | .tup xs,v,⟨a,vs,e,na,ht,hl,hr⟩=>by
  obtain ⟨o,ho,r⟩:=ht
  exact ⟨a,vs,e,kb.notIn ho na,⟨o,kb.keep a o ho na,r⟩,hl,RelL.kp k xs hr⟩
 | .list xs,v,⟨a,vs,e,na,ht,hl,hr⟩=>by
  obtain ⟨n,ho⟩:=ht
  exact ⟨a,vs,e,kb.notIn ho na,⟨n,kb.keep a _ ho na⟩,hl,RelL.kp k xs hr⟩
 | .dict es,v,⟨a,vs,e,na,hs,ht,hl,hr⟩=>by
  obtain ⟨o,q,q2,ho,r⟩:=ht
  exact ⟨a,vs,e,kb.notIn ho na,hs,⟨o,q,q2,kb.keep a o ho na,r⟩,hl,RelD.kp k es hr⟩
theorem RelL.kp {h h':Heap}{A A':Addr→Prop}(k:Hst h A h' A'):∀(xs:List AV) {vs:List Value},RelL K h A vs xs→RelL K h' A' vs xs
 | [],vs,r=>r
 | x::xs,vs,⟨v,r,e,h1,h2⟩=>⟨v,r,e,RelB.kp k k (fun J q=>q) x h1,RelL.kp k xs h2⟩
theorem RelD.kp {h h':Heap}{A A':Addr→Prop}(k:Hst h A h' A'):∀(xs:List (Str × AV)) {vs:List (Str × Value)},RelD K h A vs xs→RelD K h' A' vs xs
 | [],vs,r=>r
 | x::xs,vs,⟨v,r,e,hl,h1,h2⟩=>⟨v,r,e,hl,RelB.kp k k (fun J q=>q) x.2 h1,RelD.kp k xs h2⟩
end
theorem VRel.kp {h h':Heap}{A A':Addr→Prop}(k:Hst h A h' A'){x:AV}{v:Value}(r:VRel K h A v x):VRel K h' A' v x:=RelB.kp k k (fun J q=>q) x r
theorem Hst.of_sub {h:Heap}{A A':Addr→Prop}(s:∀a,A' a→A a):Hst h A h A':=⟨fun J J e J=>e,fun a q=>.inl (s a q)⟩
theorem RelL.length {h:Heap}{A:Addr→Prop}:∀(xs:List AV) {vs:List Value},RelL K h A vs xs→vs.length=xs.length
 | [],vs,r=>by cases r; rfl
 | x::xs,vs,⟨v,r,e,h1,h2⟩=>by cases e; simp[RelL.length xs h2]
theorem RelD.length {h:Heap}{A:Addr→Prop}:∀(xs:List (Str × AV)) {vs:List (Str × Value)},RelD K h A vs xs→vs.length=xs.length
 | [],vs,r=>by cases r; rfl
 | x::xs,vs,⟨v,r,e,_,h1,h2⟩=>by cases e; simp[RelD.length xs h2]
theorem RelL.append {h:Heap}{A:Addr→Prop}:∀(xs:List AV) {vs ws:List Value} {ys:List AV},RelL K h A vs xs→RelL K h A ws ys→RelL K h A (vs++ws) (xs++ys)
 | [],vs,ws,ys,r,q=>by cases r; exact q
 | x::xs,vs,ws,ys,⟨v,r,e,h1,h2⟩,q=>by cases e; exact ⟨v,r++ws,rfl,h1,RelL.append xs h2 q⟩
theorem RelL.get {h:Heap}{A:Addr→Prop}{xs:List AV}{vs:List Value}{i:Nat}{x:AV}(q:RelL K h A vs xs)(e:xs[i]?=some x):∃v,vs[i]?=some v∧VRel K h A v x:=by
 induction xs generalizing vs i with
 | nil=>simp at e
 | cons y xs ih =>
  obtain ⟨v,r,rfl,h1,h2⟩:=q
  cases i with
  | zero=>simp at e; subst e; exact ⟨v,rfl,h1⟩
  | succ i=>simp at e; obtain ⟨u,hu,hr⟩:=ih h2 e; exact ⟨u,by simpa using hu,hr⟩
theorem RelB.un {h:Heap}{A B:Addr→Prop}{v:Value}{x:AV}(r:RelB K h A B v x):RelB K h A (fun J=>False) v x:=by
 cases x with
 | tup xs=>exact r.rec fun a vs e J t l q=>⟨a,vs,e,id,t,l,q⟩
 | list xs=>exact r.rec fun a vs e J t l q=>⟨a,vs,e,id,t,l,q⟩
 | dict xs=>exact r.rec fun a vs e J s t l q=>⟨a,vs,e,id,s,t,l,q⟩
 | _=>exact r
inductive OC where
 | list (xs:List AV)
 | dict (es:List (Str × AV))
inductive Slot where
 | pure (v:AV)
 | own (c:OC)
structure AX where
 c:Value
 msg:Option Str
noncomputable abbrev AEnv:=List (Option Slot)
noncomputable abbrev M (R α:Type):=(α→AEnv→Option R)→(AX→AEnv→Option R)→AEnv→Option R
section
variable {R α β:Type}
noncomputable def ret (a:α):M R α:=fun k J e=>k a e
noncomputable def bnd (m:M R α) (f:α→M R β):M R β:=fun k x e=>m (fun a e'=>f a k x e') x e
noncomputable def stuck:M R α:=fun J J J=>none
noncomputable def ifM (c:Bool) (a b:M R α):M R α:=fun k x e=>match c with
 | true=>a k x e
 | false=>b k x e
noncomputable def liftO (o:Option α):M R α:=fun k J e=>match o with
 | some a=>k a e
 | none=>none
end
noncomputable def slotAt:AEnv→Nat→Option Slot
 | [],_=>none
 | s::r,i=>match i with
  | 0=>s
  | i+1=>slotAt r i
noncomputable def setSlot:AEnv→Nat→Option Slot→AEnv
 | [],_,_=>[]
 | x::r,i,s=>match i with
  | 0=>s::r
  | i+1=>x::setSlot r i s
noncomputable def OC.frozen:OC→AV
 | .list xs=>.list xs
 | .dict es=>.dict es
theorem slotAt_set_self {s:Option Slot}:∀{env:AEnv} {i:Nat},i<env.length→slotAt (setSlot env i s) i=s
 | [],i,h=>by simp at h
 | x::r,0,h=>rfl
 | x::r,i+1,h=>slotAt_set_self (env:=r) (by simpa using h)
theorem slotAt_set_ne {s:Option Slot}:∀{env:AEnv} {i j:Nat},j≠i→slotAt (setSlot env i s) j=slotAt env j
 | [],i,j,h=>rfl
 | x::r,0,0,h=>absurd rfl h
 | x::r,0,j+1,h=>rfl
 | x::r,i+1,0,h=>rfl
 | x::r,i+1,j+1,h=>slotAt_set_ne (env:=r) (by lia)
theorem setSlot_length {s:Option Slot}:∀{env:AEnv} {i:Nat},(setSlot env i s).length=env.length
 | [],i=>rfl
 | x::r,0=>rfl
 | x::r,i+1=>by simp[setSlot,setSlot_length (env:=r)]
inductive Place where
 | ns (L:Addr) (x:Str)
 | cell (c:Addr)
 deriving DecidableEq
noncomputable def Place.addr:Place→Addr
 | .ns L _=>L
 | .cell c=>c
def Holds (h:Heap)(p:Place)(v:Option Value):Prop:=match p with
 | .ns L x=>∃m,h.Ns L m∧m x=v
 | .cell c=>h.IsCell c v
theorem Ns_unique {h:Heap}{a:Addr}{m m':Str→Option Value}(x:h.Ns a m)(y:h.Ns a m')(z:Str):m z=m' z:=by
 obtain ⟨o,es,ep,ho,hd,_,hm⟩:=x
 obtain ⟨o',es',ep',ho',hd',_,hm'⟩:=y
 rw[ho] at ho'; obtain rfl:=sI ho'
 rw[hd] at hd'; (injection hd' with hd'; subst hd')
 rw[←hm,←hm']
theorem Holds.at {h h':Heap}{p:Place}{v:Option Value}(x:Holds h p v)(k:∀o,h.get? p.addr=some o→h'.get? p.addr=some o):Holds h' p v:=by
 cases p with
 | ns L x'=>obtain ⟨m,⟨o,es,ep,ho,r⟩,q⟩:=x; exact ⟨m,⟨o,es,ep,k o ho,r⟩,q⟩
 | cell c=>obtain ⟨o,ho,r⟩:=x; exact ⟨o,k o ho,r⟩
theorem Holds.slots {h h':Heap}{p:Place}{v:Option Value}(x:Holds h p v)(k:∀o,h.get? p.addr=some o→∃sl,h'.get? p.addr=some { o with slots:=sl }):Holds h' p v:=by
 cases p with
 | ns L x'=>obtain ⟨m,⟨o,es,ep,ho,r⟩,q⟩:=x; obtain ⟨sl,e⟩:=k o ho; exact ⟨m,⟨_,es,ep,e,r⟩,q⟩
 | cell c=>obtain ⟨o,ho,r⟩:=x; obtain ⟨sl,e⟩:=k o ho; exact ⟨_,e,r⟩
theorem Holds.some {h:Heap}{p:Place}{v:Option Value}(x:Holds h p v):∃o,h.get? p.addr=some o:=by
 cases p with
 | ns L x'=>obtain ⟨m,⟨o,es,ep,ho,r⟩,q⟩:=x; exact ⟨o,ho⟩
 | cell c=>obtain ⟨o,ho,r⟩:=x; exact ⟨o,ho⟩
structure Fx where
 pl:List Place
 me:Addr
 up:Addr→Prop
 fr:Addr→Prop
 fru:∀a,fr a→up a
 fix:List Nat
 base:Heap
structure St where
 s:Shared
 ob:List (Nat × Addr)
def Pl (F:Fx)(a:Addr):Prop:=a=F.me∨∃p∈F.pl,p.addr=a
def Own (F:Fx)(σ:St)(a:Addr):Prop:=Pl F a∨a∈σ.ob.map (fun x=>x.2)
def Av (F:Fx)(σ:St)(a:Addr):Prop:=Own F σ a∨F.up a
inductive OLst (h:Heap) (a:Addr) (n:Nat) (R:List Value→Prop):Prop where
 | mk (vs:Array Value) (t:h.PlainList a vs) (l:n≤sizeLine) (r:R vs.toList)
inductive PurR (R:Value→Prop) (v:Option Value):Prop where
 | mk (w:Value) (e:v=some w) (r:R w)
inductive OwnR (ob:List (Nat × Addr)) (i:Nat) (R:Addr→Prop) (v:Option Value):Prop where
 | mk (a:Addr) (e:v=some (.ref a)) (m:(i,a)∈ob) (r:R a)
variable (K:PW)
inductive ODct (h:Heap) (a:Addr) (n:Nat) (R:List (Str × Value)→Prop):Prop where
 | mk (vs:List (Str × Value)) (s:(a == sysModules)=false) (t:h.DictOf (strKind K.p K.w) a vs) (l:n≤sizeLine) (r:R vs)
noncomputable def ORel (h:Heap) (A:Addr→Prop) (a:Addr):OC→Prop
 | .list xs=>OLst h a xs.length fun vs=>RelL K h A vs xs
 | .dict es=>ODct K h a es.length fun vs=>RelD K h A vs es
noncomputable def SlotRel (F:Fx) (σ:St) (i:Nat) (v:Option Value):Option Slot→Prop
 | none=>v=none
 | some (.pure x)=>PurR (fun w=>VRel K σ.s.heap (Av F σ) w x) v
 | some (.own c)=>OwnR σ.ob i (fun a=>ORel K σ.s.heap (Av F σ) a c) v
structure Inv (F:Fx) (σ:St) (env:AEnv):Prop where
 len:env.length=F.pl.length
 slots:∀i p,F.pl[i]?=some p→∃v,Holds σ.s.heap p v∧SlotRel K F σ i v (slotAt env i)
 pln:F.pl.Nodup
 obn:(σ.ob.map (fun x=>x.2)).Nodup
 obu:(σ.ob.map (fun x=>x.1)).Nodup
 obp:∀x∈σ.ob,¬Pl F x.2
 upd:∀a,Own F σ a→¬F.up a
 dom:∀a,Av F σ a→∃o,σ.s.heap.get? a=some o
 new:∀a,Av F σ a→F.base.get? a=none
 old:∀a o,F.base.get? a=some o→σ.s.heap.get? a=some o
 gens:AllBare σ.s.gens
structure Ext (bb:Bool) (F:Fx) (σ σ':St):Prop where
 keep:∀a o,σ.s.heap.get? a=some o→¬Own F σ a→¬F.fr a→σ'.s.heap.get? a=some o
 kfr:∀a o,σ.s.heap.get? a=some o→F.fr a→∃sl,σ'.s.heap.get? a=some { o with slots:=sl }
 obs:∀x∈σ'.ob,Own F σ x.2∨σ.s.heap.get? x.2=none
 sub:bb=true→∀x∈σ'.ob,x∈σ.ob
 fix:∀x∈σ'.ob,x.1∈F.fix→x∈σ.ob
 os:σ'.s.os=σ.s.os
 alive:∀a o,σ.s.heap.get? a=some o→∃o',σ'.s.heap.get? a=some o'
 gk:∀(g:Nat) st,σ.s.gens[g]?=some st→σ'.s.gens[g]?=some st
variable {bb:Bool}
theorem Ext.refl (F:Fx)(σ:St):Ext bb F σ σ:=⟨fun J J e J J=>e,fun J o e J=>⟨o.slots,e⟩,fun x hx=>.inl (.inr (List.mem_map_of_mem hx)),fun J J h=>h,fun J h J=>h,rfl,fun J o e=>⟨o,e⟩,fun J J e=>e⟩
theorem Ext.weak {F:Fx}{σ σ':St}(x:Ext true F σ σ'):Ext bb F σ σ':=⟨x.keep,x.kfr,x.obs,fun J=>x.sub rfl,x.fix,x.os,x.alive,x.gk⟩
theorem Ext.own {F:Fx}{σ σ':St}(x:Ext bb F σ σ'){a:Addr}(q:Own F σ' a):Own F σ a∨σ.s.heap.get? a=none:=by
 rcases q with q|q
 ·exact .inl (.inl q)
 ·obtain ⟨y,hy,rfl⟩:=List.mem_map.mp q
  exact x.obs y hy
theorem Ext.hst {F:Fx}{σ σ':St}(x:Ext bb F σ σ'):Hst σ.s.heap (Av F σ) σ'.s.heap (Av F σ') where
 keep a o e na:=x.keep a o e (fun q=>na (.inl q)) fun q=>na (.inr (F.fru a q))
 av a q:=q.elim (fun q=>(x.own q).elim (fun q=>.inl (.inl q)) .inr) fun q=>.inl (.inr q)
theorem Ext.there {F:Fx}{σ σ':St}(x:Ext bb F σ σ'){a:Addr}{o:Obj}(e:σ.s.heap.get? a=some o)(n:¬Own F σ a):∃sl,σ'.s.heap.get? a=some { o with slots:=sl }:=by
 by_cases f:F.fr a
 ·exact x.kfr a o e f
 ·exact ⟨o.slots,x.keep a o e n f⟩
theorem Ext.trans {F:Fx}{σ σ' σ'':St}(x:Ext bb F σ σ')(y:Ext bb F σ' σ''):Ext bb F σ σ'' where
 keep a o e na nf:=y.keep a o (x.keep a o e na nf) (fun q=>(x.own q).elim na fun l=>by rw[e] at l; exact nS' l) nf
 kfr a o e f:=by
  obtain ⟨s1,e1⟩:=x.kfr a o e f
  obtain ⟨s2,e2⟩:=y.kfr a _ e1 f
  exact ⟨s2,e2⟩
 obs z hz:=(y.obs z hz).elim (fun q=>x.own q) fun l=>by
   cases e:σ.s.heap.get? z.2 with
   | none=>exact .inr rfl
   | some o=>exact .inl (Classical.byContradiction fun na=>by
    obtain ⟨sl,q⟩:=x.there e na
    rw[q] at l; exact nS' l)
 sub hb z hz:=x.sub hb z (y.sub hb z hz)
 fix z hz hf:=x.fix z (y.fix z hz hf) hf
 os:=y.os.trans x.os
 alive a o e:=let ⟨o',e'⟩:=x.alive a o e; y.alive a o' e'
 gk g st e:=y.gk g st (x.gk g st e)
variable {K}
theorem VRel.ext {F:Fx}{σ σ':St}(x:Ext bb F σ σ'){v:Value}{a:AV}(r:VRel K σ.s.heap (Av F σ) v a):VRel K σ'.s.heap (Av F σ') v a:=r.kp x.hst
theorem RelL.ext {F:Fx}{σ σ':St}(x:Ext bb F σ σ'){v:List Value}{a:List AV}(r:RelL K σ.s.heap (Av F σ) v a):RelL K σ'.s.heap (Av F σ') v a:=RelL.kp x.hst a r
variable (K)
def XRel (F:Fx)(e:Value)(a:AX)(σ:St):Prop:=False
inductive Res (bb:Bool) (F:Fx) {R α β:Type} (σ:St) (post:β→α→St→Prop) (k:α→AEnv→Option R) (res:R) (b:β) (s':Shared):Prop where
 | mk (a:α) (env':AEnv) (ob':List (Nat × Addr)) (i:Inv K F ⟨s',ob'⟩ env') (ex:Ext bb F σ ⟨s',ob'⟩) (p:post b a ⟨s',ob'⟩) (q:k a env'=some res)
def At (bb:Bool)(F:Fx)(A:Around){R α β:Type}(σ:St)(env:AEnv)(m:M R α)(t:Sem β)(post:β→α→St→Prop):Prop :=
 ∀(k:α→AEnv→Option R) (x:AX→AEnv→Option R) (res:R),m k x env=some res →
  wpAny (model K.p K.w) A t (Res K bb F σ post k res) (Res K bb F σ (XRel F) x res) σ.s
variable {K}
section
variable {F:Fx}{A:Around}{R α β γ δ:Type}{σ:St}{env:AEnv}
theorem Res.post {σ₀:St}{post post':β→α→St→Prop}{k:α→AEnv→Option R}{res:R}{b:β}{s:Shared}(r:Res K bb F σ post k res b s)(h:∀a ob',Ext bb F σ ⟨s,ob'⟩→post b a ⟨s,ob'⟩→Ext bb F σ₀ ⟨s,ob'⟩∧post' b a ⟨s,ob'⟩):Res K bb F σ₀ post' k res b s :=
 r.rec fun a env' ob' i ex p q=>⟨a,env',ob',i,(h a ob' ex p).1,(h a ob' ex p).2,q⟩
theorem Res.trans {σ':St}{post:β→α→St→Prop}{k:α→AEnv→Option R}{res:R}{b:β}{s:Shared}(e:Ext bb F σ σ')(r:Res K bb F σ' post k res b s):Res K bb F σ post k res b s :=
 r.post fun J J ex p=>⟨e.trans ex,p⟩
theorem Res.no {σ:St}{x:AX→AEnv→Option R}{res:R}{e:Value}{s:Shared}{Q:Prop}(r:Res K bb F σ (XRel F) x res e s):Q:=r.rec fun J J J J J p J=>p.elim
theorem Res.weak {post:β→α→St→Prop}{k:α→AEnv→Option R}{res:R}{b:β}{s:Shared}(r:Res K true F σ post k res b s):Res K bb F σ post k res b s :=
 r.rec fun a env' ob' i ex p q=>⟨a,env',ob',i,ex.weak,p,q⟩
theorem At.from {σ':St}{env':AEnv}{m:M R α}{t:Sem β}{post:β→α→St→Prop}(h:At K bb F A σ' env' m t post)(ex:Ext bb F σ σ'){k:α→AEnv→Option R}{x:AX→AEnv→Option R}{res:R}(q:m k x env'=some res) :
  wpAny (model K.p K.w) A t (Res K bb F σ post k res) (Res K bb F σ (XRel F) x res) σ'.s :=
 wpAny_mono (h k x res q) (fun J J=>Res.trans ex) fun J J=>Res.trans ex
theorem At.bind {m:M R α}{f:α→M R γ}{t:Sem β}{g:β→Sem δ}{mid:β→α→St→Prop}{post:δ→γ→St→Prop}(h:At K bb F A σ env m t mid)
  (hf:∀b a σ' env',Inv K F σ' env'→Ext bb F σ σ'→mid b a σ'→At K bb F A σ' env' (f a) (g b) post):At K bb F A σ env (bnd m f) (t >>= g) post:=fun k x res e =>
 wpAny_bind (wpAny_mono (h (fun a e'=>f a k x e') x res e) (fun b s' r=>r.rec fun a env' ob' i ex p q=>(hf b a ⟨s',ob'⟩ env' i ex p).from ex q) fun J J q=>q)
theorem At.stand {m:M R α}{t:Sem β}{pos:Pos}{post:β→α→St→Prop}(h:At K bb F A σ env m t post):At K bb F A σ env m (do standAt pos; t) post :=
 fun k x res e=>wpAny_bind (wpAny_standAt (h k x res e))
theorem At.holding {m:M R α}{t:Sem β}{vs:List Value}{post:β→α→St→Prop}(h:At K bb F A σ env m t post):At K bb F A σ env m (PySem.holding vs t) post :=
 fun k x res e=>wpAny_holding (h k x res e)
theorem At.ret {a:α}{b:β}{post:β→α→St→Prop}(i:Inv K F σ env)(h:post b a σ):At K bb F A σ env (R:=R) (ret a) (pure b) post :=
 fun k x res e=>wpAny_pure ⟨a,env,σ.ob,i,Ext.refl F σ,h,e⟩
theorem At.stuck {t:Sem β}{post:β→α→St→Prop}:At K bb F A σ env (R:=R) (stuck:M R α) t post:=fun k x res e=>by exact nS e
theorem At.ifM {c:Bool}{m₁ m₂:M R α}{t₁ t₂:Sem β}{post:β→α→St→Prop}(h₁:c=true→At K bb F A σ env m₁ t₁ post)(h₂:c=false→At K bb F A σ env m₂ t₂ post) :
  At K bb F A σ env (ifM c m₁ m₂) (if c then t₁ else t₂) post:=fun k x res e=>by
 cases c with
 | true=>exact h₁ rfl k x res e
 | false=>exact h₂ rfl k x res e
theorem At.liftO {o:Option α}{f:α→M R γ}{t:Sem β}{post:β→γ→St→Prop}(h:∀a,o=some a→At K bb F A σ env (f a) t post):At K bb F A σ env (bnd (liftO o) f) t post:=fun k x res e=>by
 cases o with
 | none=>exact nS e
 | some a=>exact h a rfl k x res e
theorem At.leaf {a:α}{t:Sem β}{post:β→α→St→Prop}(h:∀E,wpAny (model K.p K.w) A t (fun b s'=>∃ob',Inv K F ⟨s',ob'⟩ env∧Ext bb F σ ⟨s',ob'⟩∧post b a ⟨s',ob'⟩) E σ.s) :
 At K bb F A σ env (R:=R) (Mine.ret a) t post:=fun k x res e=>wpAny_mono (h _) (fun b s' ⟨ob',i,ex,p⟩=>⟨a,env,ob',i,ex,p,e⟩) fun J J q=>q
end
theorem ORel.kp {h h':Heap}{A A':Addr→Prop}(st:Hst h A h' A'){a:Addr}{c:OC}(r:ORel K h A a c)(k:∀o,h.get? a=some o→h'.get? a=some o):ORel K h' A' a c:=by
 cases c with
 | list xs=>obtain ⟨vs,h1,h2,h3⟩:=r; exact ⟨vs,h1.at k,h2,RelL.kp st xs h3⟩
 | dict es=>obtain ⟨vs,h0,⟨o,q1,q2,ho,h1⟩,h2,h3⟩:=r; exact ⟨vs,h0,⟨o,q1,q2,k _ ho,h1⟩,h2,RelD.kp st es h3⟩
theorem ORel.rel {h:Heap}{A:Addr→Prop}{a:Addr}{c:OC}(r:ORel K h A a c):RelB K h A (fun J=>False) (.ref a) c.frozen:=by
 cases c with
 | list xs=>exact r.rec fun vs t l q=>⟨a,vs,rfl,id,t,l,q⟩
 | dict es=>exact r.rec fun vs s t l q=>⟨a,vs,rfl,id,s,t,l,q⟩
theorem SlotRel.kp {F F':Fx}{σ σ':St}{k:Nat}{v:Option Value}{sl:Option Slot}(st:Hst σ.s.heap (Av F σ) σ'.s.heap (Av F' σ'))
  (hob:∀a,(k,a)∈σ.ob→(k,a)∈σ'.ob∧∀o,σ.s.heap.get? a=some o→σ'.s.heap.get? a=some o) (r:SlotRel K F σ k v sl):SlotRel K F' σ' k v sl:=by
 cases sl with
 | none=>exact r
 | some sl =>
  cases sl with
  | pure x=>obtain ⟨w,e,r⟩:=r; exact ⟨w,e,r.kp st⟩
  | own c=>obtain ⟨a,e,m,r⟩:=r; exact ⟨a,e,(hob a m).1,r.kp st (hob a m).2⟩
theorem Ext.grow (F:Fx)(σ:St){s':Shared}(hk:∀a o,σ.s.heap.get? a=some o→s'.heap.get? a=some o)(ho:s'.os=σ.s.os)(hgn:s'.gens=σ.s.gens):Ext bb F σ ⟨s',σ.ob⟩ :=
 ⟨fun a o e J J=>hk a o e,fun a o e J=>⟨o.slots,hk a o e⟩,fun x hx=>.inl (.inr (List.mem_map_of_mem hx)),fun J J h=>h,fun J h J=>h,ho,fun a o e=>⟨o,hk a o e⟩,fun g st e=>hgn▸e⟩
theorem Inv.grow {F:Fx}{σ:St}{env:AEnv}(i:Inv K F σ env){s':Shared}(hk:∀a o,σ.s.heap.get? a=some o→s'.heap.get? a=some o)
  (hg:s'.gens=σ.s.gens) (ho:s'.os=σ.s.os):Inv K F ⟨s',σ.ob⟩ env∧Ext bb F σ ⟨s',σ.ob⟩:=by
 have ex:Ext bb F σ ⟨s',σ.ob⟩:=Ext.grow F σ hk ho hg
 refine ⟨⟨i.len,fun j p hp=>?_,i.pln,i.obn,i.obu,i.obp,i.upd,fun a q=>let ⟨o,e⟩:=i.dom a q; ⟨o,hk a o e⟩,i.new,fun a o e=>hk a o (i.old a o e),hg▸i.gens⟩,ex⟩
 obtain ⟨v,hv,r⟩:=i.slots j p hp
 exact ⟨v,hv.at fun o e=>hk _ o e,r.kp ex.hst fun a m=>⟨m,fun o e=>hk a o e⟩⟩
theorem Inv.toks {F:Fx}{σ:St}{env:AEnv}(i:Inv K F σ env)(n:Nat):Inv K F ⟨{ σ.s with toks:=n },σ.ob⟩ env∧Ext bb F σ ⟨{ σ.s with toks:=n },σ.ob⟩ :=
 i.grow (fun J J e=>e) rfl rfl
theorem Inv.heap {F:Fx}{σ:St}{env:AEnv}(i:Inv K F σ env){h':Heap}{n:Nat}(hk:∀a o,σ.s.heap.get? a=some o→h'.get? a=some o) :
 Inv K F ⟨{ σ.s with heap:=h',toks:=n },σ.ob⟩ env∧Ext bb F σ ⟨{ σ.s with heap:=h',toks:=n },σ.ob⟩:=i.grow hk rfl rfl
theorem Inv.fresh {F:Fx}{σ:St}{env:AEnv}(i:Inv K F σ env){a:Addr}(h:σ.s.heap.get? a=none):¬Av F σ a:=fun q=>by
 obtain ⟨o,e⟩:=i.dom a q
 rw[h] at e; exact nS e
def Gives (K:PW)(F:Fx)(σ:St)(c:AV)(v:Value)(s':Shared):Prop :=
 (∃h' tk,s'={ σ.s with heap:=h',toks:=tk }∧∀a o,σ.s.heap.get? a=some o→h'.get? a=some o)∧VRel K s'.heap (Av F σ) v c
theorem Gives.mk {F:Fx}{σ:St}{c:AV}{v:Value}{h':Heap}{tk:Nat}(hk:∀a o,σ.s.heap.get? a=some o→h'.get? a=some o)(r:VRel K h' (Av F σ) v c):Gives K F σ c v { σ.s with heap:=h',toks:=tk } :=
 ⟨⟨h',tk,rfl,hk⟩,r⟩
theorem Gives.toks {F:Fx}{σ:St}{c:AV}{v:Value}{tk:Nat}(r:VRel K σ.s.heap (Av F σ) v c):Gives K F σ c v { σ.s with toks:=tk }:=⟨⟨_,tk,rfl,fun J J e=>e⟩,r⟩
theorem Gives.same {F:Fx}{σ:St}{c:AV}{v:Value}(r:VRel K σ.s.heap (Av F σ) v c):Gives K F σ c v σ.s:=⟨⟨_,_,rfl,fun J J e=>e⟩,r⟩
noncomputable def Val (K:PW) (F:Fx):Value→AV→St→Prop:=fun v x σ=>VRel K σ.s.heap (Av F σ) v x
theorem At.gives {F:Fx}{A:Around}{R:Type}{σ:St}{env:AEnv}{c:AV}{t:Sem Value}(i:Inv K F σ env)(h:∀E,wpAny (model K.p K.w) A t (Gives K F σ c) E σ.s) :
  At K bb F A σ env (R:=R) (Mine.ret c) t (Val K F):=At.leaf fun E=>wpAny_mono (h E) (fun v s' ⟨⟨h',tk,e,hk⟩,r⟩=>by
 subst e
 obtain ⟨i',ex⟩:=i.heap (n:=tk) hk
 exact ⟨σ.ob,i',ex,r⟩) fun J J q=>q
def IRel (K:PW)(target:PySem.Expr)(h:Heap)(A:Addr→Prop)(v:Value)(x:AV):Prop:=RelB K h A (match target with|.Tuple _ _ _=>fun J=>False|_=>A) v x
noncomputable def Fx.wide (F:Fx) (W:Addr→Prop):Fx:={ F with up:=fun a=>F.up a∨W a,fru:=fun a h=>.inl (F.fru a h) }
structure Moves (wr:List Addr) (gi:Nat→Prop) (s s':Shared):Prop where
 keep:∀b o,b∉wr→s.heap.get? b=some o→s'.heap.get? b=some o
 gens:AllBare s.gens→AllBare s'.gens
 gk:∀(g:Nat) st,¬gi g→s.gens[g]?=some st→s'.gens[g]?=some st
 os:s'.os=s.os
theorem Moves.heap {wr:List Addr}{gi:Nat→Prop}{s:Shared}{h':Heap}{tk:Nat}(k:∀b o,b∉wr→s.heap.get? b=some o→h'.get? b=some o):Moves wr gi s { s with heap:=h',toks:=tk }:=⟨k,id,fun J J J e=>e,rfl⟩
structure Tn (K:PW) (F:Fx) (A:Around) (target:PySem.Expr) (I:Addr) (xs:List AV) (fp wr:List Addr) (gi:Nat→Prop) (Sq:Nat→Shared→(Addr→Prop)→Prop):Prop where
 sub:∀b∈wr,b∈fp
 hw:∀b∈wr,F.up b∧¬F.fr b
 live:∀i s B,Sq i s B→∀b∈wr,∃o,s.heap.get? b=some o
 frame:∀i (s s':Shared) B B',Sq i s B→Hst s.heap B s'.heap B'→(∀b∈fp,∀o,s.heap.get? b=some o→s'.heap.get? b=some o)→(∀(g:Nat) st,s.gens[g]?=some st→s'.gens[g]?=some st)→Sq i s' B'
 turn:∀i (s:Shared) B (X:Value→Shared→Prop),i<xs.length→AllBare s.gens→(∀b∈wr,B b)→(∀a,B a→∃o,s.heap.get? a=some o)→Sq i s B →
  wpAny (model K.p K.w) A (pyNext (.ref I)) (fun r s₁=>∃v,r=some v∧wpAny (model K.p K.w) A (letOwnedTupleGo target (.ref I) v) (fun J s₂=>Moves wr gi s s₂∧Sq (i+1) s₂ B∧∃x,xs[i]?=some x∧IRel K target s₂.heap B v x) X s₁) X s
 done:∀(s:Shared) B (X:Value→Shared→Prop),AllBare s.gens→(∀a,B a→∃o,s.heap.get? a=some o)→Sq xs.length s B→wpAny (model K.p K.w) A (pyNext (.ref I)) (fun r s₁=>r=none∧Moves wr gi s s₁) X s
 self:∀(s:Shared) B (Q X:Value→Shared→Prop),Sq 0 s B→Q (.ref I) s→wpAny (model K.p K.w) A (pyIter (.ref I)) Q X s
structure Lp (K:PW) (F:Fx) (fp:List Addr) (Sq:Nat→Shared→(Addr→Prop)→Prop) (i:Nat) (σ:St) (env:AEnv):Prop where
 inv:Inv K F σ env
 fpo:∀b∈fp,¬Own F σ b∧¬F.fr b∧∃o,σ.s.heap.get? b=some o
 st:Sq i σ.s (Av F σ)
abbrev ItK (K:PW)(bb:Bool)(F:Fx)(A:Around){R:Type}(σ:St)(target:PySem.Expr)(k:List AV→AEnv→Option R)(res:R)(Q:Value→Shared→Prop):Prop :=
 ∀I s' xs env' ob' fp wr gi St',Lp K (F.wide (·∈wr)) fp St' 0 ⟨s',ob'⟩ env'→Ext bb F σ ⟨s',ob'⟩→Tn K (F.wide (·∈wr)) A target I xs fp wr gi St' →
  (∀b∈wr,σ.s.heap.get? b=none)→(∀g,gi g→σ.s.gens[g]?=none)→xs.length≤sizeLine→k xs env'=some res→Q (.ref I) s'
noncomputable def fitL (n:Nat):Bool:=decide (n≤16777216)
noncomputable def repL {α:Type} (xs:List α) (n:Int):List α:=(List.replicate n.toNat xs).flatten
noncomputable def addA (a b:AV):Option AV:=match a with
 | .int x=>ob b.asI fun y=>some (.int (x+y))
 | .bytes x=>ob b.asY fun y=>gd (fitL (x.length+y.length)) <| some (.bytes (x++y))
 | .str x=>ob b.asS fun y=>gd (fitL (x.length+y.length)) <| some (.str (x++y))
 | .list x=>ob b.asL fun y=>gd (fitL (x.length+y.length)) <| some (.list (x++y))
 | _=>none
noncomputable def mulA (a b:AV):Option AV:=match a with
 | .int x=>ob b.asI fun y=>gd (decide (x.natAbs<18446744073709551616)) <| some (.int (x*y))
 | .bytes x=>ob b.asI fun y=>gd (!x.isEmpty&&decide (-1048576≤y)&&decide (y≤1048576)&&decide (x.length≤16)) <| some (.bytes (repL x y))
 | .str x=>ob b.asI fun y=>gd (decide (0<x.length)&&decide (x.length≤16)&&decide (-1048576≤y)&&decide (y≤1048576)) <| some (.str (Txt.mul x y))
 | .list x=>ob b.asI fun y=>gd (decide (-1048576≤y)&&decide (y≤1048576)&&decide (x.length≤16)) <| some (.list (repL x y))
 | _=>none
noncomputable def binA (op:Operator) (a b:AV):Option AV:=match op with
 | .Add=>addA a b
 | .Sub=>ob a.asI fun x=>ob b.asI fun y=>some (.int (x-y))
 | .Mult=>mulA a b
 | .FloorDiv=>ob a.asI fun x=>ob b.asI fun y=>gd (decide (y≠0)&&decide (y.natAbs<1073741824)) <| some (.int (x.fdiv y))
 | .Mod=>ob a.asI fun x=>ob b.asI fun y=>gd (!decide (y=0)) <| some (.int (x.fmod y))
 | .Pow=>ob a.asI fun x=>ob b.asI fun y=>gd (decide (0≤y)&&decide (y≤1000000)&&decide (x.natAbs<18446744073709551616)) <| some (.int (x ^ y.toNat))
 | _=>none
set_option tactic.hygienic true in
theorem intBits_le {a:Int}(h:a.natAbs<18446744073709551616):Builtin.Int.intBits a≤64:=by
 unfold Builtin.Int.intBits
 split
 ·lia
 ·rename_i h0
  have:a.natAbs≠0:=by intro q; apply h0; simp; lia
  have:=(Nat.log2_lt this (k:=64)).mpr (by lia)
  lia
theorem get_size (h:Heap):h.get? h.objs.size=none:=by
 unfold Heap.get?
 simp
theorem push_keep {h:Heap}{o:Obj}:∀a x,h.get? a=some x→(h.push o).get? a=some x:=fun a x e=>Heap.get?_push_of_some o e
theorem Hst.push {h:Heap}{A:Addr→Prop}(o:Obj):Hst h A (h.push o) A:=⟨fun a x e J=>Heap.get?_push_of_some o e,fun a q=>.inl q⟩
section
variable {K:PW}{F:Fx}{A:Around}{σ:St}{env:AEnv}
theorem strAdd_length (x y:Str):(x++y).length=x.length+y.length:=by
 show (x.cps++y.cps).size=x.cps.size+y.cps.size
 simp
theorem VRel.newList {h:Heap}{Av:Addr→Prop}{vs:List Value}{xs:List AV}(r:RelL K h Av vs xs)(hl:xs.length≤sizeLine)(hf:¬Av h.objs.size) :
  VRel K (h.push { cls:=.type "list",data:=.seq vs.toArray }) Av (.ref h.objs.size) (.list xs):=by
 exact ⟨_,vs.toArray,rfl,hf,⟨0,Heap.get?_push_size _ rfl⟩,hl,by simpa using RelL.kp (Hst.push _) xs r⟩
theorem VRel.newTup {h:Heap}{Av:Addr→Prop}{vs:List Value}{xs:List AV}(r:RelL K h Av vs xs)(hl:xs.length≤sizeLine)(hf:¬Av h.objs.size) :
  VRel K (h.push { cls:=.type "tuple",data:=.seq vs.toArray }) Av (.ref h.objs.size) (.tup xs):=by
 exact ⟨_,vs.toArray,rfl,hf,⟨_,Heap.get?_push_size _ rfl,rfl,0,rfl⟩,hl,by simpa using RelL.kp (Hst.push _) xs r⟩
theorem strMul_le {x:Str}{y:Int}(h0:0<x.length)(h1:x.length≤16)(hy:y≤1048576):(Txt.mul x y).length≤sizeLine:=by
 unfold Txt.mul
 split
 ·decide
 ·split
  ·exact Nat.le_trans h1 (by decide)
  ·have key:∀(n:Nat) (acc:Array Nat),(List.foldl (fun x1 x2=>x1++x2) acc (List.replicate n x.cps)).size=acc.size+n*x.cps.size:=by
    intro n
    induction n with
    | zero=>intro acc; simp
    | succ n ih=>intro acc; rw[List.replicate_succ,List.foldl_cons,ih]; simp[Nat.succ_mul]; lia
   show (List.foldl (fun x1 x2=>x1++x2) #[] (List.replicate y.toNat x.cps)).size≤sizeLine
   rw[key]
   have:y.toNat*x.cps.size≤1048576*16:=Nat.mul_le_mul (by lia) h1
   simpa [sizeLine] using this
theorem RelL.rep {h:Heap}{Av:Addr→Prop}{vs:List Value}{xs:List AV}(r:RelL K h Av vs xs):∀n,RelL K h Av (List.replicate n vs).flatten (List.replicate n xs).flatten
 | 0=>rfl
 | n+1=>by
  rw[List.replicate_succ,List.replicate_succ,List.flatten_cons,List.flatten_cons]
  exact RelL.append _ r (RelL.rep r n)
theorem add_no {x y:Str}(h:x.length=0):x++y=y:=by
 have:x.cps=#[]:=Array.size_eq_zero_iff.mp h
 show Str.mk (x.cps++y.cps)=y
 rw[this,Array.empty_append]
theorem no_add {x y:Str}(h:y.length=0):x++y=x:=by
 have:y.cps=#[]:=Array.size_eq_zero_iff.mp h
 show Str.mk (x.cps++y.cps)=x
 rw[this,Array.append_empty]
section
variable (i:Inv K F σ env){a b c:AV}{u v:Value}(ra:VRel K σ.s.heap (Av F σ) u a)(rb:VRel K σ.s.heap (Av F σ) v b)(E:Value→Shared→Prop)
include i ra rb
theorem do_add (e:addA a b=some c):wpAny (model K.p K.w) A (binaryOp .Add u v) (Gives K F σ c) E σ.s:=by
 cases a with
 | int x =>
  obtain ⟨y,h1,e⟩:=obE e
  rw[asI h1] at rb
  rw[←sI e]
  obtain ⟨t,rfl⟩:=ra; obtain ⟨t',rfl⟩:=rb
  exact add_int (.toks ⟨_,rfl⟩)
 | bytes x =>
  obtain ⟨y,h1,e⟩:=obE e
  obtain ⟨hf,e⟩:=gdE e
  rw[asY h1] at rb
  rw[←sI e]
  clear e h1
  obtain ⟨x,t,rfl,rfl,hx⟩:=ra; obtain ⟨y,t',rfl,rfl,hy⟩:=rb
  have hf:x.toList.length+y.toList.length≤16777216:=of_decide_eq_true hf
  exact KBy.add_bytes (by simpa using hf) fun t' k=>.toks ⟨_,t',rfl,by simp,by simpa [sizeLine] using hf⟩
 | str x =>
  obtain ⟨y,h1,e⟩:=obE e
  obtain ⟨hf,e⟩:=gdE e
  rw[asS h1] at rb
  rw[←sI e]
  obtain ⟨t,rfl,hx⟩:=ra; obtain ⟨t',rfl,hy⟩:=rb
  have hf:x.length+y.length≤16777216:=of_decide_eq_true hf
  have hl:(x++y).length≤sizeLine:=by rw[strAdd_length]; exact hf
  refine P.add_str ?_
  by_cases h0:(x.length == 0)=true
  ·rw[if_pos h0]; exact .same ⟨t',by rw[add_no (eq_of_beq h0)],hl⟩
  ·rw[if_neg h0]
   by_cases h0:(y.length == 0)=true
   ·rw[if_pos h0]; exact .same ⟨t,by rw[no_add (eq_of_beq h0)],hl⟩
   ·rw[if_neg h0]; exact ⟨hl,.toks ⟨_,rfl,hl⟩⟩
 | list x =>
  obtain ⟨y,h1,e⟩:=obE e
  obtain ⟨hf,e⟩:=gdE e
  rw[asL h1] at rb
  rw[←sI e]
  obtain ⟨l,vs,rfl,nx,⟨n,hx⟩,lx,rx⟩:=ra; obtain ⟨l',ws,rfl,ny,⟨n',hy⟩,ly,ry⟩:=rb
  have hf:x.length+y.length≤16777216:=of_decide_eq_true hf
  have l1:=RelL.length _ rx
  have l2:=RelL.length _ ry
  refine P.add_list hx hy ?_ (by simp at l1 l2; rw[l1,l2]; exact hf)
  have:=VRel.newList (RelL.append _ rx ry) (by simpa [sizeLine] using hf) (i.fresh (get_size _))
  simp only[←List.append_toArray,Array.toArray_toList] at this
  exact .mk (tk:=σ.s.toks) push_keep this
 | _=>exact nS e
theorem do_mul (e:mulA a b=some c):wpAny (model K.p K.w) A (binaryOp .Mult u v) (Gives K F σ c) E σ.s:=by
 cases a with
 | int x =>
  obtain ⟨y,h1,e⟩:=obE e
  obtain ⟨h,e⟩:=gdE e
  rw[asI h1] at rb
  rw[←sI e]
  obtain ⟨t,rfl⟩:=ra; obtain ⟨t',rfl⟩:=rb
  exact mul_int (.toks ⟨_,rfl⟩) (IntMulOk.of_left (intBits_le (of_decide_eq_true h)))
 | bytes x =>
  obtain ⟨y,h1,e⟩:=obE e
  obtain ⟨h,e⟩:=gdE e
  rw[asI h1] at rb
  rw[←sI e]
  clear e h1
  obtain ⟨x,t,rfl,rfl,hx⟩:=ra; obtain ⟨t',rfl⟩:=rb
  simp only[Bool.and_eq_true,decide_eq_true_eq,Bool.not_eq_true'] at h
  obtain ⟨⟨⟨h0,h1⟩,h2⟩,h3⟩:=h
  have:=bytes_mul_any (prog:=K.p) (w:=K.w) (A:=A) (E:=E) (s:=σ.s) (b:=x.toList) (t:=t) (u:=t') (Q:=Gives K F σ (.bytes (repL x.toList y))) (by intro q; rw[q] at h0; exact nT h0) h1 h2 h3 fun t' k=>.toks ⟨_,t',rfl,by simp[repL],by
   simp only[repL,List.length_flatten,List.map_replicate,List.sum_replicate_nat]
   have:=Nat.mul_le_mul (show y.toNat≤1048576 by lia) h3
   simpa [sizeLine] using this⟩
  simpa using this
 | str x =>
  obtain ⟨y,h1,e⟩:=obE e
  obtain ⟨h,e⟩:=gdE e
  rw[asI h1] at rb
  rw[←sI e]
  obtain ⟨t,rfl,hx⟩:=ra; obtain ⟨t',rfl⟩:=rb
  simp only[Bool.and_eq_true,decide_eq_true_eq] at h
  obtain ⟨⟨⟨h0,h1⟩,h2⟩,h3⟩:=h
  refine SB.mul ⟨by simp; lia,fun q1 q2=>?_,fun q1 q2=>?_⟩ fun t' k=>.toks ⟨_,rfl,strMul_le h0 h1 h3⟩
  ·have:(16:Int)≤(2 ^ 63-1) / y:=by
    rw[Int.le_ediv_iff_mul_le (by lia)]; lia
   lia
  ·have:x.length*y.toNat≤16*1048576:=Nat.mul_le_mul h1 (by lia)
   simp only[Builtin.Str.tooLong,decide_eq_false_iff_not]
   have e:sizeLine=16777216:=rfl
   lia
 | list xs =>
  obtain ⟨y,h1,e⟩:=obE e
  obtain ⟨h,e⟩:=gdE e
  rw[asI h1] at rb
  rw[←sI e]
  clear e
  obtain ⟨l,vs,rfl,hb,⟨n,hp⟩,hl,hr⟩:=ra; obtain ⟨t',rfl⟩:=rb
  simp only[Bool.and_eq_true,decide_eq_true_eq] at h
  obtain ⟨⟨h1,h2⟩,h3⟩:=h
  have hn:=RelL.length _ hr
  have hle:=Nat.mul_le_mul h3 (show y.toNat≤1048576 by lia)
  have hsz:vs.size*y.toNat≤16777216:=by
   simp at hn; rw[hn]; exact hle
  refine wpAny_binaryOp_repeat_ref (T:="list") (U:="int") (by decide) ⟨_,hp,rfl⟩ (fun s'=>typeIs_int s' y t') noFill_list_mul PySem.F.fills_int_mul PySem.F.slot_int_rmul repeat_list PySem.F.slot_int_index.lookup
   (call_meets PySem.F.slot_int_rmul (typeIs_int σ.s y t') PySem.F.entry_int_rmul (PySem.F.args_int_rmul_2 _ _) (int___rmul___int_list y t' l vs n)
    ⟨hp,rfl,⟨_,hp,rfl⟩,call_meets PySem.F.slot_list_mul ⟨_,hp,rfl⟩ PySem.F.entry_list_mul (PySem.F.args_list_mul_2 _ _)
     (AutoListH.list___mul___list_int_3 l vs n y t' (by simp[Builtin.List.listFitsIndex]; lia) (by lia) (by simp[Builtin.List.listTooLong,sizeLine]; lia))
     ⟨hp,?_⟩⟩)
  rw[listMul_foldl_if]
  have hrr:RelL K σ.s.heap (Av F σ) (repL vs.toList y) (repL xs y):=RelL.rep hr _
  have hlen:(repL xs y).length≤sizeLine:=by
   simp only[repL,List.length_flatten,List.map_replicate,List.sum_replicate_nat]
   rw[Nat.mul_comm]
   exact hle
  exact .mk (tk:=σ.s.toks) push_keep (VRel.newList hrr hlen (i.fresh (get_size _)))
 | _=>exact nS e
omit i
theorem two_ints {x y:Int}(h1:a.asI=some x)(h2:b.asI=some y):∃t t',u=.int x t∧v=.int y t':=by
 rw[asI h1] at ra
 rw[asI h2] at rb
 obtain ⟨t,e⟩:=ra
 obtain ⟨t',e'⟩:=rb
 exact ⟨t,t',e,e'⟩
end
theorem binA_ok (i:Inv K F σ env){op:Operator}{a b c:AV}{u v:Value}(e:binA op a b=some c)(ra:VRel K σ.s.heap (Av F σ) u a)(rb:VRel K σ.s.heap (Av F σ) v b)(E:Value→Shared→Prop) :
  wpAny (model K.p K.w) A (binaryOp op u v) (Gives K F σ c) E σ.s:=by
 cases op with
 | Add=>exact do_add i ra rb E e
 | Mult=>exact do_mul i ra rb E e
 | Sub =>
  obtain ⟨x,h1,e⟩:=obE e
  obtain ⟨y,h2,e⟩:=obE e
  obtain ⟨t,t',rfl,rfl⟩:=two_ints ra rb h1 h2
  rw[←sI e]
  exact sub_int (.toks ⟨_,rfl⟩)
 | FloorDiv =>
  obtain ⟨x,h1,e⟩:=obE e
  obtain ⟨y,h2,e⟩:=obE e
  obtain ⟨h,e⟩:=gdE e
  obtain ⟨t,t',rfl,rfl⟩:=two_ints ra rb h1 h2
  rw[←sI e]
  simp only[Bool.and_eq_true,decide_eq_true_eq] at h
  exact floordiv_int h.1 (.toks ⟨_,rfl⟩) (.inl (PyProof.noPylong_small h.2))
 | Mod =>
  obtain ⟨x,h1,e⟩:=obE e
  obtain ⟨y,h2,e⟩:=obE e
  obtain ⟨h,e⟩:=gdE e
  obtain ⟨t,t',rfl,rfl⟩:=two_ints ra rb h1 h2
  rw[←sI e]
  exact mod_int (of_decide_eq_false (by simpa using h)) (.toks ⟨_,rfl⟩)
 | Pow =>
  obtain ⟨x,h1,e⟩:=obE e
  obtain ⟨y,h2,e⟩:=obE e
  obtain ⟨h,e⟩:=gdE e
  obtain ⟨t,t',rfl,rfl⟩:=two_ints ra rb h1 h2
  rw[←sI e]
  simp only[Bool.and_eq_true,decide_eq_true_eq] at h
  exact pow_int_small h.1.1 h.1.2 h.2 (.toks ⟨_,rfl⟩)
 | _=>exact nS e
end
noncomputable def sEqB (a b:Str):Bool:=PySem.W.Fast.sEq a b
theorem sEqB_eq (a b:Str):sEqB a b=decide (a=b):=by
 rw[Bool.eq_iff_iff,decide_eq_true_iff]; exact PySem.W.Fast.sEq_iff
noncomputable def AV.isNo:AV→Bool
 | .none=>true
 | _=>false
theorem isNoE {v:AV}(h:v.isNo=true):v=.none:=by cases v <;> first|rfl|exact nT' h
noncomputable def eqS (a b:AV):Option Bool:=match a with
 | .none=>gd b.isNo (some true)
 | .bool x=>ob b.asB fun y=>some (x == y)
 | .int x=>ob b.asI fun y=>some (decide (x=y))
 | .str x=>ob b.asS fun y=>some (sEqB x y)
 | _=>Option.none
noncomputable def eqLs:List AV→List AV→Option (List Bool)
 | [],ys=>gd (isNil ys) (some [])
 | x::xs,ys=>match ys with
  | []=>none
  | y::ys=>ob (eqS x y) fun b=>ob (eqLs xs ys) fun bs=>some (b::bs)
noncomputable def eqA (a b:AV):Option Bool:=match a with
 | .bytes x=>ob b.asY fun y=>some (decide (x=y))
 | .list xs=>ob b.asL fun ys=>match decide (xs.length=ys.length) with
  | true=>ob (eqLs xs ys) fun bs=>some (bs.all id)
  | false=>some false
 | a=>eqS a b
noncomputable def dGet (k:Str):List (Str × AV)→Option AV
 | []=>none
 | e::r=>match sEqB e.1 k with
  | true=>some e.2
  | false=>dGet k r
noncomputable def isN:AV→Option Bool
 | .none=>some true
 | .bi _=>Option.none
 | _=>some false
noncomputable def intIn (x:Int):List AV→Option Bool
 | []=>some false
 | y::r=>ob y.asI fun y=>ob (intIn x r) fun b=>some (decide (y=x)||b)
noncomputable def inA (a b:AV):Option Bool:=match b with
 | .dict es=>ob a.asS fun k=>some (dGet k es).isSome
 | .str s=>ob a.asS fun t=>some (Txt.contains s t)
 | .tup xs=>ob a.asI fun x=>intIn x xs
 | _=>none
noncomputable def notO (o:Option Bool):Option Bool:=ob o fun b=>some (!b)
noncomputable def cmpI (f:Int→Int→Bool) (a b:AV):Option Bool:=ob a.asI fun x=>ob b.asI fun y=>some (f x y)
noncomputable def cmpA (op:CmpOp) (a b:AV):Option Bool:=match op with
 | .Eq=>eqA a b
 | .NotEq=>notO (eqA a b)
 | .Lt=>cmpI (fun x y=>decide (x<y)) a b
 | .LtE=>cmpI (fun x y=>decide (x≤y)) a b
 | .Gt=>cmpI (fun x y=>decide (y<x)) a b
 | .GtE=>cmpI (fun x y=>decide (y≤x)) a b
 | .Is=>gd b.isNo (isN a)
 | .IsNot=>gd b.isNo (notO (isN a))
 | .In=>inA a b
 | .NotIn=>notO (inA a b)
noncomputable def truthA:AV→Option Bool
 | .none=>some false
 | .bool b=>some b
 | .int i=>some (!decide (i=0))
 | .str s=>some (decide (0<s.length))
 | .bytes b=>some (decide (0<b.length))
 | .list xs=>some (decide (0<xs.length))
 | .dict es=>some (decide (0<es.length))
 | _=>Option.none
section
variable {K:PW}{F:Fx}{A:Around}{σ:St}{env:AEnv}
theorem eqS_at {h:Heap}{A':Addr→Prop}{a b:AV}{c:Bool}(e:eqS a b=some c){u v:Value}(ra:VRel K h A' u a)(rb:VRel K h A' v b)(s:Shared) :
  SeqAt.EqAt A s u v c∧SeqAt.RcAt A s u v c∧SeqAt.RcNeAt A s u v (!c):=by
 cases a with
 | none =>
  obtain ⟨h1,e⟩:=gdE e
  rw[isNoE h1] at rb
  subst ra; subst rb; rw[←sI e]
  exact ⟨SeqAt.EqAt.same _,SeqAt.RcAt.none_none,SeqAt.RcNeAt.none_none⟩
 | bool x =>
  obtain ⟨y,h1,e⟩:=obE e
  rw[asB h1] at rb
  subst ra; subst rb; rw[←sI e]
  exact ⟨SeqAt.EqAt.bool_bool _ _,SeqAt.RcAt.bool_bool _ _,SeqAt.RcNeAt.bool_bool _ _⟩
 | int x =>
  obtain ⟨y,h1,e⟩:=obE e
  rw[asI h1] at rb
  obtain ⟨t,rfl⟩:=ra; obtain ⟨t',rfl⟩:=rb
  rw[←sI e,show decide (x=y)=(x == y) by rw[Bool.eq_iff_iff]; simp]
  exact ⟨SeqAt.EqAt.int_int _ _ _ _,SeqAt.RcAt.int_int _ _ _ _,SeqAt.RcNeAt.int_int _ _ _ _⟩
 | str x =>
  obtain ⟨y,h1,e⟩:=obE e
  rw[asS h1] at rb
  obtain ⟨t,rfl,_⟩:=ra; obtain ⟨t',rfl,_⟩:=rb
  rw[←sI e,show sEqB x y=(x == y) by rw[sEqB_eq,Bool.eq_iff_iff]; simp]
  exact ⟨SeqAt.EqAt.str_str _ _ _ _,SeqAt.RcAt.str_str _ _ _ _,SeqAt.RcNeAt.str_str _ _ _ _⟩
 | _=>exact nS e
theorem eqLs_at {h:Heap}{A':Addr→Prop}{s:Shared}:∀{xs ys:List AV} {bs:List Bool} {us vs:List Value},eqLs xs ys=some bs→RelL K h A' us xs→RelL K h A' vs ys →
  bs.length=us.length∧∀j (h1:j<us.length) (h2:j<vs.length),SeqAt.EqAt A s us[j] vs[j] (bs.getD j false):=by
 intro xs
 induction xs with
 | nil =>
  intro ys bs us vs e ra rb
  cases ys with
  | nil=>obtain rfl:=sI (gdE e).2; subst ra; exact ⟨rfl,fun j h1=>by simp at h1⟩
  | cons y ys=>exact nS e
 | cons x xs ih =>
  intro ys bs us vs e ra rb
  cases ys with
  | nil=>exact nS e
  | cons y ys =>
   obtain ⟨b,hb',e⟩:=obE e
   obtain ⟨bs',hbs,e⟩:=obE e
   obtain ⟨u,us',rfl,ha,ra'⟩:=ra
   obtain ⟨v,vs',rfl,hb,rb'⟩:=rb
   obtain rfl:=sI e
   obtain ⟨l,q⟩:=ih hbs ra' rb'
   refine ⟨congrArg (·+1) l,fun j h1 h2=>?_⟩
   cases j with
   | zero=>exact (eqS_at hb' ha hb s).1
   | succ j=>exact q j (Nat.lt_of_succ_lt_succ h1) (Nat.lt_of_succ_lt_succ h2)
theorem all_range {bs:List Bool}{n:Nat}(h:bs.length=n):(List.range n).all (fun j=>bs.getD j false)=bs.all id:=by
 subst h
 rw[Bool.eq_iff_iff,List.all_eq_true,List.all_eq_true]
 constructor
 ·intro q b hb
  obtain ⟨j,hj,rfl⟩:=List.mem_iff_getElem.mp hb
  have:=q j (List.mem_range.mpr hj)
  simpa [List.getD_eq_getElem?_getD,hj] using this
 ·intro q j hj
  have hj:=List.mem_range.mp hj
  have:=q bs[j] (List.getElem_mem hj)
  simpa [List.getD_eq_getElem?_getD,hj] using this
theorem eqA_at (hu:A.units<cLine){a b:AV}{c:Bool}(e:eqA a b=some c){u v:Value}(ra:VRel K σ.s.heap (Av F σ) u a)(rb:VRel K σ.s.heap (Av F σ) v b)(E:Value→Shared→Prop)(Q:Value→Shared→Prop) :
  (Q (.bool c) σ.s→wpAny (model K.p K.w) A (compareOp .Eq u v) Q E σ.s)∧(Q (.bool (!c)) σ.s→wpAny (model K.p K.w) A (compareOp .NotEq u v) Q E σ.s):=by
 have sc:eqS a b=some c→(Q (.bool c) σ.s→wpAny (model K.p K.w) A (compareOp .Eq u v) Q E σ.s)∧(Q (.bool (!c)) σ.s→wpAny (model K.p K.w) A (compareOp .NotEq u v) Q E σ.s):=fun e =>
  ⟨fun h=>(eqS_at (A:=A) e ra rb σ.s).2.1 _ _ _ _ h,fun h=>(eqS_at (A:=A) e ra rb σ.s).2.2 _ _ _ _ h⟩
 cases a with
 | bytes x =>
  clear sc
  obtain ⟨y,h1,e⟩:=obE e
  rw[asY h1] at rb
  have ec:=sI e
  clear e h1
  obtain ⟨x',t,rfl,rfl,_⟩:=ra; obtain ⟨y',t',rfl,rfl,_⟩:=rb
  rw[←ec,show decide (x'.toList=y'.toList)=(x'.toList == y'.toList) by rw[Bool.eq_iff_iff]; simp]
  exact ⟨fun h=>eq_bytes h,fun h=>ne_bytes h⟩
 | list xs =>
  clear sc
  obtain ⟨ys,h1,e⟩:=obE e
  rw[asL h1] at rb
  obtain ⟨x,us,rfl,nx,hx,lx,rx⟩:=ra; obtain ⟨y,vs,rfl,ny,hy,ly,ry⟩:=rb
  have l1:=RelL.length _ rx
  have l2:=RelL.length _ ry
  simp only[Array.length_toList] at l1 l2
  by_cases hl:xs.length=ys.length
  ·rw[decide_eq_true hl] at e
   obtain ⟨bs,hbs,e⟩:=obE e
   rw[←sI e]
   obtain ⟨lb,q⟩:=eqLs_at (A:=A.in1) (s:=σ.s) hbs rx ry
   have lb:bs.length=us.size:=by rw[lb,Array.length_toList]
   have q':∀j (h1:j<us.size) (h2:j<vs.size),SeqAt.EqAt A.in1 σ.s us[j] vs[j] (bs.getD j false):=fun j h1 h2=>by
    have:=q j (by simpa using h1) (by simpa using h2)
    rwa [Array.getElem_toList,Array.getElem_toList] at this
   have hs:us.size=vs.size:=by rw[l1,l2,hl]
   exact ⟨fun h=>SeqAt.RcAt.lists hx.isList hy.isList hs hu q' _ _ _ _ (by rw[all_range lb]; exact h),fun h=>SeqAt.RcNeAt.lists hx.isList hy.isList hs hu q' _ _ _ _ (by rw[all_range lb]; exact h)⟩
  ·rw[decide_eq_false hl] at e
   rw[←sI e]
   have hs:(us.size != vs.size)=true:=by simp[l1,l2,hl]
   exact ⟨fun h=>SeqAt.RcAt.lists_lengths hx.isList hy.isList hs hu _ _ _ _ h,fun h=>SeqAt.RcNeAt.lists_lengths hx.isList hy.isList hs hu _ _ _ _ h⟩
 | _=>exact sc e
theorem isN_ok {h:Heap}{A':Addr→Prop}{a:AV}{c:Bool}(e:isN a=some c){u:Value}(ra:VRel K h A' u a):(u == Value.none)=c:=by
 cases a with
 | none=>subst ra; exact sI e
 | bool b=>subst ra; exact sI e
 | int i=>obtain ⟨t,rfl⟩:=ra; exact sI e
 | str i=>obtain ⟨t,rfl,_⟩:=ra; exact sI e
 | bytes i=>obtain ⟨t,_,rfl,_⟩:=ra; exact sI e
 | tup i=>obtain ⟨t,_,rfl,_⟩:=ra; exact sI e
 | list i=>obtain ⟨t,_,rfl,_⟩:=ra; exact sI e
 | dict i=>obtain ⟨t,_,rfl,_⟩:=ra; exact sI e
 | obj w=>subst ra; exact sI e
 | bi w=>exact nS e
theorem dGet_ok {h:Heap}{A':Addr→Prop}{k:Str}:∀{es:List (Str × AV)} {vs:List (Str × Value)},RelD K h A' vs es →
  match dGet k es with
  | some x=>∃v,valueAt vs k=some v∧VRel K h A' v x
  | none=>valueAt vs k=none
 | [],vs,r=>by subst r; rfl
 | x::es,vs,⟨v,r,e,hl,h1,h2⟩=>by
  subst e
  have ih:=dGet_ok (k:=k) h2
  unfold dGet
  rw[sEqB_eq]
  by_cases hk:x.1=k
  ·simp only[hk,decide_true]
   exact ⟨v,by simp[valueAt,hk],h1⟩
  ·simp only[hk,decide_false]
   have e:valueAt ((x.1,v)::r) k=valueAt r k:=by simp[valueAt,List.find?_cons,hk]
   rw[e]; exact ih
theorem intIn_ok {h:Heap}{A':Addr→Prop}{x:Int}:∀{xs:List AV} {vs:List Value} {c:Bool},intIn x xs=some c→RelL K h A' vs xs→∃ns,IntsAre vs ns∧ns.any (·== x)=c
 | [],vs,c,e,r=>by subst r; obtain rfl:=sI e; exact ⟨[],.nil,rfl⟩
 | y::xs,vs,c,e,⟨v,r,q,h1,h2⟩=>by
  subst q
  obtain ⟨y',h0,e⟩:=obE e
  obtain ⟨b,hb,e⟩:=obE e
  rw[asI h0] at h1
  obtain ⟨ns,hn,hc⟩:=intIn_ok hb h2
  obtain ⟨t,rfl⟩:=h1
  refine ⟨y'::ns,.cons _ t hn,?_⟩
  rw[List.any_cons,hc,←sI e]
  rfl
theorem inA_ok (i:Inv K F σ env){a b:AV}{c:Bool}{u v:Value}(e:inA a b=some c)(ra:VRel K σ.s.heap (Av F σ) u a)(rb:VRel K σ.s.heap (Av F σ) v b)(E:Value→Shared→Prop)(Q:Value→Shared→Prop) :
  ((∀tk,Q (.bool c) { σ.s with toks:=tk })→wpAny (model K.p K.w) A (compareOp .In u v) Q E σ.s)∧((∀tk,Q (.bool (!c)) { σ.s with toks:=tk })→wpAny (model K.p K.w) A (compareOp .NotIn u v) Q E σ.s):=by
 cases b with
 | dict es =>
  obtain ⟨k,h1,e⟩:=obE e
  rw[asS h1] at ra
  obtain ⟨t,rfl,_⟩:=ra; obtain ⟨d,vs,rfl,_,hs,hd,_,rd⟩:=rb
  have q:(valueAt vs k).isSome=(dGet k es).isSome:=by
   have:=dGet_ok (k:=k) rd
   revert this
   cases dGet k es with
   | none=>intro q; rw[q]; rfl
   | some x=>rintro ⟨v,q,_⟩; rw[q]; rfl
  rw[←sI e,←q]
  exact ⟨fun h=>wpAny_in_of (strKind_is _ _ k t) hs hd.mapOf (h _),fun h=>wpAny_notIn_of (strKind_is _ _ k t) hs hd.mapOf (h _)⟩
 | str s =>
  obtain ⟨k,h1,e⟩:=obE e
  rw[asS h1] at ra
  obtain ⟨t,rfl,_⟩:=ra; obtain ⟨t',rfl,_⟩:=rb
  rw[←sI e]
  exact ⟨fun h=>SB.contains (h σ.s.toks),fun h=>SB.notContains (h σ.s.toks)⟩
 | tup xs =>
  obtain ⟨x,h1,e⟩:=obE e
  rw[asI h1] at ra
  obtain ⟨t,rfl⟩:=ra; obtain ⟨d,vs,rfl,_,ht,_,rl⟩:=rb
  obtain ⟨ns,hn,hc⟩:=intIn_ok e rl
  rw[←hc]
  exact ⟨fun h=>in_tuple_ints (by simpa using ht) hn (h σ.s.toks),fun h=>notin_tuple_ints (by simpa using ht) hn (h σ.s.toks)⟩
 | _=>exact nS e
theorem two_I {h:Heap}{A':Addr→Prop}{f:Int→Int→Bool}{a b:AV}{c:Bool}{u v:Value}(e:cmpI f a b=some c)(ra:VRel K h A' u a)(rb:VRel K h A' v b):∃x y t t',u=.int x t∧v=.int y t'∧f x y=c:=by
 obtain ⟨x,h1,e⟩:=obE e
 obtain ⟨y,h2,e⟩:=obE e
 rw[asI h1] at ra
 rw[asI h2] at rb
 obtain ⟨t,e1⟩:=ra
 obtain ⟨t',e2⟩:=rb
 exact ⟨x,y,t,t',e1,e2,sI e⟩
theorem cmpA_ok (i:Inv K F σ env)(hu:A.units<cLine){op:CmpOp}{a b:AV}{c:Bool}{u v:Value}(e:cmpA op a b=some c)(ra:VRel K σ.s.heap (Av F σ) u a)(rb:VRel K σ.s.heap (Av F σ) v b) :
  ∀E,wpAny (model K.p K.w) A (compareOp op u v) (fun r s'=>r=.bool c∧∃tk,s'={ σ.s with toks:=tk }) E σ.s:=fun E=>by
 have same:∀d:Bool,d=c→(Value.bool d=.bool c∧∃tk,σ.s={ σ.s with toks:=tk }):=fun d hd=>⟨by rw[hd],σ.s.toks,rfl⟩
 cases op with
 | Eq=>exact (eqA_at hu e ra rb E _).1 (same _ rfl)
 | NotEq=>obtain ⟨d,hd,e⟩:=obE e; exact (eqA_at hu hd ra rb E _).2 (same _ (sI e))
 | Lt=>obtain ⟨x,y,t,t',rfl,rfl,h⟩:=two_I e ra rb; exact PySem.P.lt_int (same _ h)
 | LtE=>obtain ⟨x,y,t,t',rfl,rfl,h⟩:=two_I e ra rb; exact PySem.P.le_int (same _ h)
 | Gt=>obtain ⟨x,y,t,t',rfl,rfl,h⟩:=two_I e ra rb; exact PySem.P.gt_int (same _ h)
 | GtE=>obtain ⟨x,y,t,t',rfl,rfl,h⟩:=two_I e ra rb; exact PySem.P.ge_int (same _ h)
 | Is =>
  obtain ⟨h1,e⟩:=gdE e
  rw[isNoE h1] at rb
  subst rb
  exact is_none_gen (same _ (isN_ok e ra))
 | IsNot =>
  obtain ⟨h1,e⟩:=gdE e
  obtain ⟨d,hd,e⟩:=obE e
  rw[isNoE h1] at rb
  subst rb
  exact isnot_none_gen (same _ (by rw[isN_ok hd ra]; exact sI e))
 | In=>exact (inA_ok i e ra rb E _).1 fun tk=>⟨rfl,tk,rfl⟩
 | NotIn=>obtain ⟨d,hd,e⟩:=obE e; exact (inA_ok i hd ra rb E _).2 fun tk=>⟨by rw[sI e],tk,rfl⟩
theorem isEmpty_pos {α:Type}(l:List α):(!l.isEmpty)=decide (0<l.length):=by cases l <;> simp
theorem truthA_ok {a:AV}{c:Bool}{u:Value}(e:truthA a=some c)(ra:VRel K σ.s.heap (Av F σ) u a) :
  ∀E Q,(∀tk,Q c { σ.s with toks:=tk })→wpAny (model K.p K.w) A (truthy u) Q E σ.s:=fun E Q h=>by
 have h0:Q c σ.s:=h σ.s.toks
 cases a with
 | none=>subst ra; obtain rfl:=sI e; exact truthy_none h0
 | bool=>subst ra; obtain rfl:=sI e; exact wpAny_truthy_bool h0
 | int x =>
  obtain ⟨t,rfl⟩:=ra; obtain rfl:=sI e
  refine PySem.P.truthy_int ?_
  have:(x != 0)=!decide (x=0):=by rw[Bool.eq_iff_iff]; simp
  rw[this]; exact h0
 | str x =>
  obtain ⟨t,rfl,hl⟩:=ra; obtain rfl:=sI e
  have hl:x.length≤16777216:=hl
  refine P.truthy_str (by lia) ?_
  have:((x.length:Int) != 0)=decide (0<x.length):=by rw[Bool.eq_iff_iff]; simp; lia
  rw[this]; exact h _
 | bytes x =>
  obtain ⟨x,t,rfl,rfl,hl⟩:=ra; obtain rfl:=sI e
  have hl:x.toList.length≤16777216:=hl
  have hs:x.size≤16777216:=by simpa using hl
  refine truthy_bytes (by lia) ?_
  have:((x.size:Int) != 0)=decide (0<x.toList.length):=by
   rw[Array.length_toList]
   generalize x.size=n
   rw[Bool.eq_iff_iff,bne_iff_ne,decide_eq_true_eq]
   lia
  rw[this]; exact h _
 | list xs =>
  obtain ⟨l,vs,rfl,hb,hp,hl,hr⟩:=ra; obtain rfl:=sI e
  have hn:=RelL.length _ hr
  have hl:xs.length≤16777216:=hl
  refine wpAny_truthy_list hp.isList (by simp at hn; lia) ?_
  have:(!vs.isEmpty)=decide (0<xs.length):=by rw[←hn,Bool.eq_iff_iff]; simp; rw[Array.size_pos_iff]
  rw[this]; exact h _
 | dict xs =>
  obtain ⟨l,vs,rfl,hb,hs,hp,hl,hr⟩:=ra; obtain rfl:=sI e
  have hn:=RelD.length _ hr
  have hl:xs.length≤16777216:=hl
  refine wpAny_truthy_dict hs hp (by lia) ?_
  rw[isEmpty_pos,hn]; exact h _
 | _=>exact nS e
theorem truth_at {bb:Bool}{R:Type}(i:Inv K F σ env){a:AV}{u:Value}(ra:VRel K σ.s.heap (Av F σ) u a) :
  At (R:=R) K bb F A σ env (liftO (truthA a)) (PySem.holding [u] (truthy u)) (fun v b J=>v=b):=fun k X res q=>by
 cases ht:truthA a with
 | none=>rw[ht] at q; exact nS q
 | some t =>
  rw[ht] at q
  refine wpAny_holding (truthA_ok ht ra _ _ fun tk=>?_)
  obtain ⟨i',ex'⟩:=i.toks (bb:=bb) tk
  exact ⟨t,env,σ.ob,i',ex',rfl,q⟩
end
noncomputable def idxN (k:Int) (n:Nat):Option Nat:=match decide (0≤k) with
 | true=>gd (decide (k<n)) (some k.toNat)
 | false=>gd (decide (0≤k+n)) (some (k+n).toNat)
noncomputable def itemA (a i:AV):Option AV:=match a with
 | .bytes b=>ob i.asI fun k=>ob (idxN k b.length) fun j=>some (.int ((b.getD j 0).toNat:Nat))
 | .list xs=>ob i.asI fun k=>ob (idxN k xs.length) fun j=>xs[j]?
 | .tup xs=>ob i.asI fun k=>ob (idxN k xs.length) fun j=>xs[j]?
 | .dict es=>ob i.asS fun k=>dGet k es
 | _=>none
theorem idx_pos {k:Int}{n p:Nat}(hk:k=p)(h:p<n):idxN k n=some p:=by
 subst hk
 unfold idxN
 rw[decide_eq_true (Int.natCast_nonneg p)]
 exact gdT (decide_eq_true (Int.ofNat_lt.mpr h))
noncomputable def cutL {α:Type} (xs:List α) (lo hi:Option Int):List α:=(xs.drop (lo.elim 0 (clipAt xs.length))).take (hi.elim xs.length (clipAt xs.length)-lo.elim 0 (clipAt xs.length))
noncomputable def partA:AV→Option (Option Int)
 | .none=>some none
 | .int i=>some (some i)
 | _=>Option.none
noncomputable def sliceA (x:AV) (lo hi:Option Int):Option AV:=match x with
 | .bytes l=>some (.bytes (cutL l lo hi))
 | .list l=>some (.list (cutL l lo hi))
 | _=>none
theorem idxN_spec {k:Int}{n j:Nat}(h:idxN k n=some j):j<n∧((0≤k∧j=k.toNat)∨(k<0∧0≤k+n∧j=(k+n).toNat)):=by
 unfold idxN at h
 by_cases h0:0≤k
 ·rw[decide_eq_true h0] at h
  obtain ⟨h1,h⟩:=gdE h
  have h1:=of_decide_eq_true h1
  have:=sI h
  exact ⟨by lia,.inl ⟨h0,this.symm⟩⟩
 ·rw[decide_eq_false h0] at h
  obtain ⟨h1,h⟩:=gdE h
  have h1:=of_decide_eq_true h1
  have:=sI h
  exact ⟨by lia,.inr ⟨Int.not_le.mp h0,h1,this.symm⟩⟩
theorem idxN_seq {k:Int}{n j:Nat}(h:idxN k n=some j):seqIndex? k n=some j:=by
 obtain ⟨hj,h⟩:=idxN_spec h
 rcases h with ⟨h0,rfl⟩|⟨h0,h1,rfl⟩
 ·have hn:¬k<0:=by lia
  have h1:k<n:=by lia
  simp[seqIndex?,hn,h0,h1]
 ·have h3:k+(n:Int)<n:=by lia
  simp[seqIndex?,h0,h1,h3]
section
variable {K:PW}{F:Fx}{A:Around}{σ:St}{env:AEnv}
theorem RelL.take {h:Heap}{A':Addr→Prop}:∀{xs:List AV} {vs:List Value} (n:Nat),RelL K h A' vs xs→RelL K h A' (vs.take n) (xs.take n)
 | [],vs,n,r=>by subst r; simp[RelL]
 | x::xs,vs,0,r=>rfl
 | x::xs,vs,n+1,⟨v,r,e,h1,h2⟩=>by subst e; exact ⟨v,r.take n,rfl,h1,RelL.take n h2⟩
theorem RelL.drop {h:Heap}{A':Addr→Prop}:∀{xs:List AV} {vs:List Value} (n:Nat),RelL K h A' vs xs→RelL K h A' (vs.drop n) (xs.drop n)
 | [],vs,n,r=>by subst r; simp[RelL]
 | x::xs,vs,0,r=>r
 | x::xs,vs,n+1,⟨v,r,e,h1,h2⟩=>by subst e; exact RelL.drop n h2
theorem RelL.cut {h:Heap}{A':Addr→Prop}{xs:List AV}{vs:List Value}(lo hi:Option Int)(r:RelL K h A' vs xs):RelL K h A' (cutL vs lo hi) (cutL xs lo hi):=by
 unfold cutL
 rw[RelL.length xs r]
 exact RelL.take _ (RelL.drop _ r)
theorem cutL_length {α:Type}(xs:List α)(lo hi:Option Int):(cutL xs lo hi).length≤xs.length:=by
 unfold cutL
 rw[List.length_take,List.length_drop]; lia
theorem slicePick_cut (items:Array Value)(lo hi:Option Int):slicePick items lo hi none=(cutL items.toList lo hi).toArray:=by
 unfold cutL
 rw[Array.length_toList]
 exact kmk_pick_nat items (sliceBounds_plain lo hi items.size)
section
variable {b c:AV}{u v:Value}(rb:VRel K σ.s.heap (Av F σ) v b)(E:Value→Shared→Prop)
include rb
theorem it_bytes {l:List UInt8}(e:itemA (.bytes l) b=some c)(ra:RelB K σ.s.heap (Av F σ) (fun J=>False) u (.bytes l)):wpAny (model K.p K.w) A (getItem u v) (Gives K F σ c) E σ.s:=by
 obtain ⟨k,h1,e⟩:=obE e
 obtain ⟨j,hj,e⟩:=obE e
 rw[asI h1] at rb
 have ec:=sI e
 clear e h1
 obtain ⟨x,t,rfl,rfl,hx⟩:=ra; obtain ⟨t',rfl⟩:=rb
 rw[←ec]
 have hj':=idxN_spec hj
 have hb:x.toList.length≤16777216:=hx
 refine getItem_gives (typeIs_bytes σ.s _ t) (by decide) FB.slot_bytes_getitem FB.entry_bytes_getitem (FB.args_bytes_getitem_2 _ _) (gives_bytes_getitem _ k t t' (x.toList.getD j 0) ?_ ?_) ?_
 ·simp only[Builtin.Bytes.fitsIndex,Bool.and_eq_true,decide_eq_true_eq]; lia
 ·rw[Array.length_toList] at hj hj'
  rw[idxN_seq hj]
  simp[hj'.1]
 ·exact .toks ⟨_,rfl⟩
theorem it_list {xs:List AV}(e:itemA (.list xs) b=some c)(ra:RelB K σ.s.heap (Av F σ) (fun J=>False) u (.list xs)):wpAny (model K.p K.w) A (getItem u v) (Gives K F σ c) E σ.s:=by
 obtain ⟨k,h1,e⟩:=obE e
 obtain ⟨j,hj,e⟩:=obE e
 rw[asI h1] at rb
 obtain ⟨l,vs,rfl,nl,hl,hx,rl⟩:=ra; obtain ⟨t',rfl⟩:=rb
 obtain ⟨w,hw,rw'⟩:=RelL.get rl e
 have hlen:=RelL.length _ rl
 obtain ⟨hj,hk⟩:=idxN_spec hj
 have e2:sizeLine=16777216:=rfl
 rw[Array.length_toList] at hlen
 rw[Array.getElem?_toList] at hw
 rcases hk with ⟨h0,rfl⟩|⟨h0,h1,rfl⟩
 ·exact wpAny_getItem_list hl.isList h0 (by lia) hw (.same rw')
 ·exact wpAny_getItem_list_neg hl.isList h0 (by lia) (by lia) (by rw[hlen]; exact hw) (.same rw')
theorem it_tup {xs:List AV}(e:itemA (.tup xs) b=some c)(ra:RelB K σ.s.heap (Av F σ) (fun J=>False) u (.tup xs)):wpAny (model K.p K.w) A (getItem u v) (Gives K F σ c) E σ.s:=by
 obtain ⟨k,h1,e⟩:=obE e
 obtain ⟨j,hj,e⟩:=obE e
 rw[asI h1] at rb
 obtain ⟨l,vs,rfl,nl,hl,hx,rl⟩:=ra; obtain ⟨t',rfl⟩:=rb
 obtain ⟨w,hw,rw'⟩:=RelL.get rl e
 have hlen:=RelL.length _ rl
 rw[Array.length_toList] at hlen
 rw[Array.getElem?_toList] at hw
 have hs:=idxN_seq hj
 obtain ⟨hj,hk⟩:=idxN_spec hj
 have e2:sizeLine=16777216:=rfl
 exact getItem_tuple hl (by lia) (by lia) (by rw[hlen]; exact hs) hw (.same rw')
theorem it_dict {es:List (Str × AV)}(e:itemA (.dict es) b=some c)(ra:RelB K σ.s.heap (Av F σ) (fun J=>False) u (.dict es)):wpAny (model K.p K.w) A (getItem u v) (Gives K F σ c) E σ.s:=by
 obtain ⟨k,h1,e⟩:=obE e
 rw[asS h1] at rb
 obtain ⟨d,vs,rfl,nd,hs,hd,hx,rd⟩:=ra; obtain ⟨t',rfl,_⟩:=rb
 have:=dGet_ok (k:=k) rd
 rw[e] at this
 obtain ⟨w,hw,rw'⟩:=this
 exact wpAny_getItem_of (strKind_is _ _ _ t') hd.mapOf hw (.toks rw')
end
theorem itemA_ok (i:Inv K F σ env){a b c:AV}{u v:Value}(e:itemA a b=some c)(ra:RelB K σ.s.heap (Av F σ) (fun J=>False) u a)(rb:VRel K σ.s.heap (Av F σ) v b)(E:Value→Shared→Prop) :
  wpAny (model K.p K.w) A (getItem u v) (Gives K F σ c) E σ.s:=by
 cases a with
 | bytes=>exact it_bytes rb E e ra
 | list=>exact it_list rb E e ra
 | tup=>exact it_tup rb E e ra
 | dict=>exact it_dict rb E e ra
 | _=>exact nS e
theorem sliceA_ok (i:Inv K F σ env){a c:AV}{lo hi:Option Int}{u vl vu:Value}{sl:Addr}(e:sliceA a lo hi=some c)(ra:VRel K σ.s.heap (Av F σ) u a)(hs:σ.s.heap.IsSliceOf sl vl vu .none)(pl:IsPart vl lo)(pu:IsPart vu hi) :
  ∀E,wpAny (model K.p K.w) A (getItem u (.ref sl)) (Gives K F σ c) E σ.s:=fun E=>by
 have fr:¬Av F σ σ.s.heap.objs.size:=i.fresh (get_size _)
 cases a with
 | bytes l =>
  have ec:=sI e
  clear e
  obtain ⟨x,t,rfl,rfl,hx⟩:=ra
  rw[←ec]
  have hp:(KBy.picked x lo hi).toList=cutL x.toList lo hi:=by
   rw[KBc.picked_eq]; unfold cutL; simp
  refine getItem_meets (typeIs_bytes _ _ _) (by decide) FB.slot_bytes_getitem FB.entry_bytes_getitem (FB.args_bytes_getitem_2 _ _) (KBc.meets_slice2 x t _ pl pu) ⟨hs,?_,fun t' k=>?_⟩
  ·rw[←Array.length_toList,hp]; exact Nat.le_trans (cutL_length _ _ _) hx
  ·exact .toks ⟨_,t',rfl,hp,Nat.le_trans (cutL_length _ _ _) hx⟩
 | list =>
  obtain ⟨l,vs,rfl,nl,hl,hx,rl⟩:=ra; obtain rfl:=sI e
  refine wpAny_getItem_list_slice hl.isList hs pl pu .none (by simp) ?_ (by have:=RelL.length _ rl; rw[Array.length_toList] at this; rw[this]; exact hx)
  rw[slicePick_cut]
  exact .mk (tk:=σ.s.toks) push_keep (VRel.newList (RelL.cut lo hi rl) (Nat.le_trans (cutL_length _ _ _) hx) fr)
 | _=>exact nS e
end
noncomputable def lookS {α:Type} (x:Str):List (Str × α)→Option α
 | []=>none
 | y::r=>match sEqB x y.1 with
  | true=>some y.2
  | false=>lookS x r
noncomputable def idxOf (x:Str):List (Option Str)→Option Nat
 | []=>none
 | y::r=>match (match y with|some y=>sEqB x y|none=>false) with
  | true=>some 0
  | false=>match idxOf x r with
   | some i=>some (i+1)
   | none=>none
inductive Kd where
 | none|bool|int|str|bytes|tup|list|dict
noncomputable def Kd.val:Kd→Value
 | .none=>.type "NoneType"
 | .bool=>.type "bool"
 | .int=>.type "int"
 | .str=>.type "str"
 | .bytes=>.type "bytes"
 | .tup=>.type "tuple"
 | .list=>.type "list"
 | .dict=>.type "dict"
noncomputable def kdA:AV→Option Kd
 | .none=>some .none
 | .bool _=>some .bool
 | .int _=>some .int
 | .str _=>some .str
 | .bytes _=>some .bytes
 | .tup _=>some .tup
 | .list _=>some .list
 | .dict _=>some .dict
 | _=>Option.none
noncomputable def isaB (k:Kd) (b:Bn):Option Bool:=match b with
 | .int=>match k with
  | .int=>some true
  | .bool=>some true
  | _=>some false
 | .str=>match k with
  | .str=>some true
  | _=>some false
 | .bytes=>match k with
  | .bytes=>some true
  | _=>some false
 | .list=>match k with
  | .list=>some true
  | _=>some false
 | .tuple=>match k with
  | .tup=>some true
  | _=>some false
 | .dict=>match k with
  | .dict=>some true
  | _=>some false
 | .bool=>match k with
  | .bool=>some true
  | _=>some false
 | _=>Option.none
structure Ctx where
 sc:Scope
 names:List (Option Str)
 fix:List Nat
 glob:Str→Option AV
 attr:Addr→Str→Option AV
 call:Addr→List AV→List (Str × AV)→Option (Except AX AV)
 isO:Kd→Addr→Option Bool
 isX:Addr→Addr→Option Bool
 dec:List UInt8→Option Str
 isGn:Addr→Bool
 gen:Addr→List AV→Option (List AV)
 fuel:Nat
noncomputable def isa1 (C:Ctx) (k:Kd) (c:AV):Option Bool:=match c with
 | .bi b=>isaB k b
 | .obj a=>C.isO k a
 | _=>none
noncomputable def isaL (C:Ctx) (k:Kd):List AV→Option Bool
 | []=>some false
 | c::r=>match isa1 C k c with
  | some true=>some true
  | some false=>isaL C k r
  | none=>none
noncomputable def isaK (C:Ctx) (k:Kd) (c:AV):Option Bool:=match c with
 | .tup cs=>isaL C k cs
 | c=>isa1 C k c
noncomputable def isaA (C:Ctx) (v c:AV):Option Bool:=match v with
 | .obj x=>ob c.asO fun a=>C.isX x a
 | v=>ob (kdA v) fun k=>isaK C k c
noncomputable def intsA:List AV→Option (List Int)
 | []=>some []
 | x::r=>ob x.asI fun i=>ob (intsA r) fun l=>some (i::l)
noncomputable def okB (l:List Int):Bool:=l.all fun n=>decide (0≤n)&&decide (n<256)
noncomputable def lenA:AV→Option Nat
 | .bytes l=>some l.length
 | .str s=>some s.length
 | .list l=>some l.length
 | .dict l=>some l.length
 | _=>none
noncomputable def callB (C:Ctx) (b:Bn) (as:List AV):Option AV:=match b with
 | .len=>ob (one as) fun x=>ob (lenA x) fun n=>some (.int (n:Nat))
 | .isinstance=>ob (two as) fun p=>ob (isaA C p.1 p.2) fun t=>some (.bool t)
 | .min=>ob (two as) fun p=>ob p.1.asI fun a=>ob p.2.asI fun b=>some (.int (if b<a then b else a))
 | .max=>ob (two as) fun p=>ob p.1.asI fun a=>ob p.2.asI fun b=>some (.int (if b > a then b else a))
 | .sum=>ob (one as) fun v=>ob v.asL fun xs=>ob (intsA xs) fun l=>some (.int l.sum)
 | .bytes=>ob (one as) fun v=>ob v.asL fun xs=>ob (intsA xs) fun l=>gd (okB l) <| some (.bytes (l.map fun n=>n.toNat.toUInt8))
 | .list=>ob (one as) fun v=>ob v.asD fun es=>some (.list (es.map fun e=>.str e.1))
 | .str=>ob (one as) fun v=>ob v.asI fun a=>gd (decide (a.natAbs<1000000)) <| some (.str (Str.ofString (toString a)))
 | _=>none
noncomputable def kindA (C:Ctx) (x:Str):Option NameKind:=lookS x C.sc.names
noncomputable def isG (C:Ctx) (x:Str):Bool:=match kindA C x with
 | some .globalImplicit=>true
 | _=>false
noncomputable def isSlot (C:Ctx) (x:Str):Bool:=match kindA C x with
 | some .local=>true
 | some .cell=>true
 | some .free=>true
 | _=>false
noncomputable def slotIx (C:Ctx) (x:Str):Option Nat:=match isSlot C x with
 | true=>idxOf x C.names
 | false=>none
section
variable {R:Type}
noncomputable def readM (i:Nat):M R AV:=fun k J e=>match slotAt e i with
 | some (.pure v)=>k v e
 | some (.own c)=>k c.frozen (setSlot e i (some (.pure c.frozen)))
 | none=>none
noncomputable def storeM (i:Nat) (v:AV):M R Unit:=fun k J e=>k () (setSlot e i (some (.pure v)))
noncomputable def putM (i:Nat) (c:OC):M R Unit:=fun k J e=>k () (setSlot e i (some (.own c)))
noncomputable def okO (o:Option (Except AX AV)):M R AV:=fun k x e=>match o with
 | some r=>match r with
  | .ok a=>k a e
  | .error a=>x a e
 | none=>none
noncomputable def nmM (C:Ctx) (x:Str):M R AV:=match isG C x with
 | true=>bnd (liftO (C.glob x)) ret
 | false=>match slotIx C x with
  | some i=>readM i
  | none=>stuck
end
noncomputable def constA:Const→Option AV
 | .none=>some .none
 | .bool b=>some (.bool b)
 | .int i=>some (.int i)
 | .str s=>gd (fitL s.length) <| some (.str s)
 | .bytes b=>gd (fitL b.length) <| some (.bytes b)
 | _=>Option.none
noncomputable def nameOf:PySem.Expr→Option Str
 | .Name x _=>some x
 | _=>none
noncomputable def plainArg:PySem.Expr→Bool
 | .Starred _ _=>false
 | _=>true
noncomputable def named (k:Keyword):Bool:=match k with
 | ⟨nm,_,_⟩=>nm.isSome
noncomputable def tupA (vs:List AV):Option AV:=gd (fitL vs.length) <| some (.tup vs)
noncomputable def listA (vs:List AV):Option AV:=gd (fitL vs.length) <| some (.list vs)
noncomputable def negA:AV→Option AV
 | .int i=>some (.int (-i))
 | _=>none
end
noncomputable section
open PySem PySem.W PySem.Calls PyProof.Rows
structure IsaOK (K:PW) (base:Heap) (C:Ctx):Prop where
 ex:∃frag:Frag,frag.In base∧∀k a b,C.isO k a=some b→kitOne frag k.val (.ref a)=some b
 isX:∀x a b,C.isX x a=some b→∀(A:Around) (s:Shared) (Q:Value→Shared→Prop) (X:Value→Shared→Prop),(∀a o,base.get? a=some o→s.heap.get? a=some o)→(∀tk,Q (.bool b) { s with toks:=tk }) →
  wpAny (model K.p K.w) A (PySem.call (.builtin "isinstance") [.ref x,.ref a]) Q X s
section
variable {K:PW}{F:Fx}{A:Around}{C:Ctx}{R:Type}{σ:St}{env:AEnv}
theorem isaB_ok (frag:Frag){k:Kd}{b:Bn}{c:Bool}(e:isaB k b=some c):kitOne frag k.val b.val=some c:=by
 cases b <;> first|(exact nS e; done)|(cases k <;> (obtain rfl:=sI e; kernel_rfl))
theorem kdA_ok {h:Heap} {A':Addr→Prop} {x:AV} {k:Kd} {v:Value} (e:kdA x=some k) (r:VRel K h A' v x) (frag:Frag):∃H:Heap→Prop,KitX frag v k.val H∧H h∧v≠.builtin "__main__.__loader__#opaque":=by
 cases x with
 | none=>subst r; obtain rfl:=sI e; exact ⟨_,kitx_none,trivial,nofun⟩
 | bool b=>subst r; obtain rfl:=sI e; exact ⟨_,kitx_bool,trivial,nofun⟩
 | int b=>obtain ⟨t,rfl⟩:=r; obtain rfl:=sI e; exact ⟨_,kitx_int,trivial,nofun⟩
 | str b=>obtain ⟨t,rfl,_⟩:=r; obtain rfl:=sI e; exact ⟨_,kitx_str,trivial,nofun⟩
 | bytes b=>obtain ⟨a,t,rfl,_⟩:=r; obtain rfl:=sI e; exact ⟨_,kitx_bytes,trivial,nofun⟩
 | tup b=>obtain ⟨a,t,rfl,_,⟨o,h1,h2,_⟩,_⟩:=r; obtain rfl:=sI e; exact ⟨_,kitx_tuple,⟨o,h1,h2⟩,nofun⟩
 | list b=>obtain ⟨a,t,rfl,_,⟨n,h1⟩,_⟩:=r; obtain rfl:=sI e; exact ⟨_,kitx_list,⟨_,h1,rfl⟩,nofun⟩
 | dict b=>obtain ⟨a,t,rfl,_,_,⟨o,_,_,h1,h2,_⟩,_⟩:=r; obtain rfl:=sI e; exact ⟨_,kitx_dict,⟨o,h1,h2.1⟩,nofun⟩
 | _=>exact nS e
theorem isa1_ok {frag:Frag}(hf:∀k a b,C.isO k a=some b→kitOne frag k.val (.ref a)=some b){h:Heap}{A':Addr→Prop}{k:Kd}{c:AV}{v:Value}{b:Bool}(e:isa1 C k c=some b)(r:VRel K h A' v c):kitOne frag k.val v=some b:=by
 cases c with
 | bi b=>subst r; exact isaB_ok frag e
 | obj a=>subst r; exact hf _ _ _ e
 | _=>exact nS e
theorem isaL_ok {frag:Frag}(hf:∀k a b,C.isO k a=some b→kitOne frag k.val (.ref a)=some b){h:Heap}{A':Addr→Prop}{k:Kd}:∀{cs:List AV} {vs:List Value} {b:Bool},isaL C k cs=some b→RelL K h A' vs cs→kitAny frag k.val vs=some b
 | [],vs,b,e,r=>by subst r; exact e
 | c::cs,vs,b,e,⟨v,r,q,h1,h2⟩=>by
  subst q
  unfold isaL at e
  unfold kitAny
  cases h:isa1 C k c with
  | none=>rw[h] at e; exact nS e
  | some t =>
   rw[isa1_ok hf h h1]
   rw[h] at e
   cases t with
   | true=>exact e
   | false=>exact isaL_ok hf e h2
theorem isa_ok (I:IsaOK K F.base C)(i:Inv K F σ env){x c:AV}{u v:Value}{b:Bool}(e:isaA C x c=some b)(ra:VRel K σ.s.heap (Av F σ) u x)(rb:VRel K σ.s.heap (Av F σ) v c) :
  ∀(X:Value→Shared→Prop) (Q:Value→Shared→Prop),(∀tk,Q (.bool b) { σ.s with toks:=tk })→wpAny (model K.p K.w) A (PySem.call (.builtin "isinstance") [u,v]) Q X σ.s:=fun X Q h=>by
 obtain ⟨frag,fin,hf⟩:=I.ex
 have fin':frag.In σ.s.heap:=fun a o e=>i.old a o (fin a o e)
 have gen:ob (kdA x) (fun k=>isaK C k c)=some b→wpAny (model K.p K.w) A (PySem.call (.builtin "isinstance") [u,v]) Q X σ.s:=fun e=>by
  obtain ⟨k,hk,e⟩:=obE e
  obtain ⟨H,Z,hh,hx⟩:=kdA_ok hk ra frag
  cases c with
  | tup cs =>
   obtain ⟨tp,vs,rfl,_,⟨⟨oc,od,odt,osl⟩,h1,h2,n,h3⟩,_,rl⟩:=rb
   simp only at h2 h3
   subst h2 h3
   exact kia_tup (its:=vs.toList) (n:=n) (dd:=od) (sl:=osl) Z fin' hh (by simpa using h1) (isaL_ok hf e rl) hx h
  | bi _=>exact kia_one Z fin' hh (isaB_ok frag (show isaB k _=some b from e) |> fun q=>by subst rb; exact q) hx h
  | obj _=>exact kia_one Z fin' hh (by subst rb; exact hf _ _ _ e) hx h
  | _=>exact nS e
 cases x with
 | obj y =>
  obtain ⟨a,h1,e⟩:=obE e
  rw[asO h1] at rb
  subst ra; subst rb
  exact I.isX _ _ _ e A σ.s Q X i.old h
 | _=>exact gen e
theorem intsA_ok {h:Heap}{A':Addr→Prop}:∀{xs:List AV} {vs:List Value} {l:List Int},intsA xs=some l→RelL K h A' vs xs→IntsAre vs l
 | [],vs,l,e,r=>by subst r; obtain rfl:=sI e; exact .nil
 | x::xs,vs,l,e,⟨v,r,q,h1,h2⟩=>by
  subst q
  obtain ⟨y,h0,e⟩:=obE e
  obtain ⟨l',hl,e⟩:=obE e
  rw[asI h0] at h1
  obtain ⟨t,rfl⟩:=h1
  rw[←sI e]
  exact .cons _ t (intsA_ok hl h2)
theorem two_int {P:Value→Prop}{a b:Int}{t u:Tok}{c:Prop}[Decidable c] (h:∀t',P (.int (if c then b else a) t')):P (if c then .int b u else .int a t):=by
 by_cases q:c
 ·rw[if_pos q]; have:=h u; rwa [if_pos q] at this
 ·rw[if_neg q]; have:=h t; rwa [if_neg q] at this
theorem relD_length {h:Heap}{A':Addr→Prop}:∀{es:List (Str × AV)} {vs:List (Str × Value)},RelD K h A' vs es→vs.length=es.length
 | [],vs,q=>by subst q; rfl
 | x::es,vs,⟨v,r,e,_,_,q⟩=>by subst e; simp[relD_length q]
theorem keys_rel {h h':Heap}{A' A'':Addr→Prop}:∀{es:List (Str × AV)} {ws:List (Str × Value)} {us:List Value},RelD K h A' ws es→us.length=es.length →
  (∀(j:Nat) (v:Value),us[j]?=some v→∃(k:Str) (x:Value),ws[j]?=some (k,x)∧∃t:Tok,v=Value.str k t)→RelL K h' A'' us (es.map fun e=>.str e.1)
 | [],ws,us,r,hl,hj=>by
  cases us with
  | nil=>rfl
  | cons=>injection hl
 | x::es,ws,us,⟨v,r,e,hx,_,q⟩,hl,hj=>by
  subst e
  cases us with
  | nil=>injection hl
  | cons u us =>
   obtain ⟨k,y,e,t,rfl⟩:=hj 0 u rfl
   simp only[List.getElem?_cons_zero,Option.some.injEq] at e
   (injection e with e; subst e)
   exact ⟨_,us,rfl,⟨t,rfl,hx⟩,keys_rel q (by simpa using hl) fun j v hv=>by simpa using hj (j+1) v (by simpa using hv)⟩
section
variable (i:Inv K F σ env){b:Bn}{as:List AV}{c:AV}{us:List Value}(r:RelL K σ.s.heap (Av F σ) us as)(X:Value→Shared→Prop)
include r
theorem do_len (e:callB C .len as=some c):wpAny (model K.p K.w) A (PySem.call (.builtin "len") us []) (Gives K F σ c) X σ.s:=by
 have e2:sizeLine=16777216:=rfl
 obtain ⟨x,h1,e⟩:=obE e
 obtain ⟨n,h2,e⟩:=obE e
 rw[oneE h1] at r
 rw[←sI e]
 obtain ⟨v,vs,rfl,r,q⟩:=r
 rw[show vs=[] from q]
 clear e q h1
 cases x with
 | bytes l =>
  obtain ⟨x,t,rfl,hr,hx⟩:=r
  rw[←sI h2,←hr,Array.length_toList]
  rw[←hr,Array.length_toList] at hx
  exact len_bytes (by lia) (.toks ⟨_,rfl⟩)
 | str s =>
  obtain ⟨t,rfl,hx⟩:=r
  rw[←sI h2]
  exact PySem.P.len_str (by lia) (.toks ⟨_,rfl⟩)
 | list l =>
  obtain ⟨x,t,rfl,_,hl,hx,rl⟩:=r
  have:=RelL.length _ rl
  rw[Array.length_toList] at this
  rw[←sI h2,←this]
  rw[←this] at hx
  exact Calls.call_len_list hl.isList (by lia) (.toks ⟨_,rfl⟩)
 | dict l =>
  obtain ⟨x,t,rfl,_,hs,hl,hx,rl⟩:=r
  have:=relD_length rl
  rw[←sI h2,←this]
  rw[←this] at hx
  exact call_len_dict hs hl (by lia) (.toks ⟨_,rfl⟩)
 | _=>exact nS h2
include i
theorem do_isa (I:IsaOK K F.base C) (e:callB C .isinstance as=some c):wpAny (model K.p K.w) A (PySem.call (.builtin "isinstance") us []) (Gives K F σ c) X σ.s:=by
 obtain ⟨⟨a,b⟩,h1,e⟩:=obE e
 obtain ⟨t,h2,e⟩:=obE e
 rw[twoE h1] at r
 rw[←sI e]
 obtain ⟨v,vs,rfl,r,v',vs',rfl,r',q⟩:=r
 rw[show vs'=[] from q]
 exact isa_ok I i h2 r r' _ _ fun tk=>.toks rfl
omit i
variable (hh:A.handled=none)
include hh
theorem do_min (e:callB C .min as=some c):wpAny (model K.p K.w) A (PySem.call (.builtin "min") us []) (Gives K F σ c) X σ.s:=by
 obtain ⟨⟨a,b⟩,h1,e⟩:=obE e
 obtain ⟨x,h2,e⟩:=obE e
 obtain ⟨y,h3,e⟩:=obE e
 rw[twoE h1,show a=_ from asI h2,show b=_ from asI h3] at r
 rw[←sI e]
 obtain ⟨v,vs,rfl,⟨t,rfl⟩,v',vs',rfl,⟨t',rfl⟩,q⟩:=r
 rw[show vs'=[] from q]
 exact min_two_ints hh fun h' tk hk=>two_int (P:=fun v=>Gives K F σ _ v _) fun t'=>.mk hk ⟨_,rfl⟩
theorem do_max (e:callB C .max as=some c):wpAny (model K.p K.w) A (PySem.call (.builtin "max") us []) (Gives K F σ c) X σ.s:=by
 obtain ⟨⟨a,b⟩,h1,e⟩:=obE e
 obtain ⟨x,h2,e⟩:=obE e
 obtain ⟨y,h3,e⟩:=obE e
 rw[twoE h1,show a=_ from asI h2,show b=_ from asI h3] at r
 rw[←sI e]
 obtain ⟨v,vs,rfl,⟨t,rfl⟩,v',vs',rfl,⟨t',rfl⟩,q⟩:=r
 rw[show vs'=[] from q]
 exact max_two_ints hh fun h' tk hk=>two_int (P:=fun v=>Gives K F σ _ v _) fun t'=>.mk hk ⟨_,rfl⟩
theorem do_sum (e:callB C .sum as=some c):wpAny (model K.p K.w) A (PySem.call (.builtin "sum") us []) (Gives K F σ c) X σ.s:=by
 obtain ⟨a,h1,e⟩:=obE e
 obtain ⟨xs,h2,e⟩:=obE e
 obtain ⟨ns,hn,e⟩:=obE e
 rw[oneE h1,asL h2] at r
 rw[←sI e]
 obtain ⟨v,vs,rfl,⟨l,ws,rfl,_,hl,_,rl⟩,q⟩:=r
 rw[show vs=[] from q]
 have hi:=intsA_ok hn rl
 obtain ⟨xs,hx⟩:=AllInts.items (vs:=ws) (by have:=hi.allInts; simpa using this)
 subst hx
 refine sum_intListG hh hl.isList fun h' tk t' hk=>.mk hk ⟨t',?_⟩
 rw[preSum_eq,List.take_of_length_le (by simp)]
 have:=hi.numsOf
 rw[nums_intItems] at this
 rw[this]
theorem do_bytes (e:callB C .bytes as=some c):wpAny (model K.p K.w) A (PySem.call (.type "bytes") us []) (Gives K F σ c) X σ.s:=by
 obtain ⟨a,h1,e⟩:=obE e
 obtain ⟨xs,h2,e⟩:=obE e
 obtain ⟨ns,hn,e⟩:=obE e
 obtain ⟨hb,e⟩:=gdE e
 rw[oneE h1,asL h2] at r
 rw[←sI e]
 obtain ⟨v,vs,rfl,⟨l,ws,rfl,_,hl,hz,rl⟩,q⟩:=r
 rw[show vs=[] from q]
 have hi:=intsA_ok hn rl
 have hlen:=RelL.length _ rl
 refine call_bytes_ints (vs:=ws.toList) (by simpa using hl.isList) hi (fun n hn=>?_) (by rw[hlen]; exact hz) hh fun h' t k hk=>.mk hk ⟨_,t,rfl,by simp[byteArr],by rw[List.length_map,←hi.length,hlen]; exact hz⟩
 have:=List.all_eq_true.mp hb n hn
 simpa using this
theorem do_str (e:callB C .str as=some c):wpAny (model K.p K.w) A (PySem.call (.type "str") us []) (Gives K F σ c) X σ.s:=by
 obtain ⟨v,h1,e⟩:=obE e
 obtain ⟨a,h2,e⟩:=obE e
 obtain ⟨ha,e⟩:=gdE e
 rw[oneE h1,asI h2] at r
 rw[←sI e]
 obtain ⟨v,vs,rfl,⟨t,rfl⟩,q⟩:=r
 rw[show vs=[] from q]
 have ha:=of_decide_eq_true ha
 have e2:sizeLine=16777216:=rfl
 refine str_of_int_fit (N:=1000000) (by split <;> lia) (by decide) fun J=>.toks ⟨_,rfl,?_⟩
 have:=len_str_of_int a
 lia
include i
theorem do_list (e:callB C .list as=some c):wpAny (model K.p K.w) A (PySem.call (.type "list") us []) (Gives K F σ c) X σ.s:=by
 obtain ⟨a,h1,e⟩:=obE e
 obtain ⟨es,h2,e⟩:=obE e
 rw[oneE h1,asD h2] at r
 rw[←sI e]
 obtain ⟨v,vs,rfl,⟨d,ws,rfl,_,hs,hd,hz,rd⟩,q⟩:=r
 rw[show vs=[] from q]
 obtain ⟨ep,hat⟩:=hd.dictAt
 have hl:=relD_length rd
 refine kdl_call (kdl_dict (knd:=PySem.strKind K.p K.w) (kvs:=ws) (ep:=ep) hs) hh hat (by rw[hl]; exact hz) fun h' tk acc' c' hk hS hacc=>.mk hk ⟨_,acc',rfl,i.fresh (get_size _),⟨c',hS⟩,by rw[List.length_map]; exact hz,?_⟩
 refine keys_rel rd (by rw[Array.length_toList,hacc.1,hl]) fun j v hv=>?_
 obtain ⟨k,x,hx,hk'⟩:=hacc.2 j v (by simpa using hv)
 exact ⟨k,x,hx,Value.isStrOf_shape hk'⟩
end
theorem callB_ok (I:IsaOK K F.base C)(i:Inv K F σ env)(hh:A.handled=none){b:Bn}{as:List AV}{c:AV}{us:List Value}(e:callB C b as=some c)(r:RelL K σ.s.heap (Av F σ) us as)(X:Value→Shared→Prop) :
  wpAny (model K.p K.w) A (PySem.call b.val us []) (Gives K F σ c) X σ.s:=by
 cases b with
 | len=>exact do_len r X e
 | isinstance=>exact do_isa i r X I e
 | min=>exact do_min r X hh e
 | max=>exact do_max r X hh e
 | sum=>exact do_sum r X hh e
 | bytes=>exact do_bytes r X hh e
 | list=>exact do_list i r X hh e
 | str=>exact do_str r X hh e
 | _=>exact nS e
end
end
noncomputable section
open PySem PySem.W PySem.Calls PyProof.Rows
set_option maxRecDepth 100000
theorem slot_join:PySem.Slot "bytes" "join" "bytes.join" :=
 .of (owner:="bytes") (n:="join") (by rw[typeLookup_type,builtinLookup_eq_fast]; kernel_rfl) (by decide +kernel) (by decide +kernel) (by decide +kernel)
  (by first|exact .inl (by decide +kernel)|exact .inr (by decide +kernel)) (by rw[isSubtype_type]; kernel_rfl)
theorem type_join:typeOf (.builtin "bytes.join")=pure (.type "method_descriptor"):=by show builtinType _=_; rw[builtinType_eq_fast]; kernel_rfl
theorem entry_join:entryFor table "bytes.join"=some Builtin.«bytes.join»:=entryFor_of_fast (by kernel_rfl)
theorem args_join (a b:Value):argsOk "bytes.join" ⟨[a,b],[]⟩:=by unfold argsOk; kernel_rfl
section
variable {prog:Program}{w:World}{A:Around}{E:Value→Shared→Prop}{s:Shared}
inductive BytesAre:List Value→List (List UInt8)→Prop
 | nil:BytesAre [] []
 | cons (b:Array UInt8) (t:Tok) {vs:List Value} {ls:List (List UInt8)}:BytesAre vs ls→BytesAre (.bytes b t::vs) (b.toList::ls)
theorem BytesAre.length:∀{vs:List Value} {ls:List (List UInt8)},BytesAre vs ls→vs.length=ls.length
 | _,_,.nil=>rfl
 | _,_,.cons _ _ h=>by simp[h.length]
theorem BytesAre.get {vs:List Value}{ls:List (List UInt8)}(h:BytesAre vs ls):∀{j:Nat},j<vs.length→∃b t,vs[j]?=some (.bytes b t)∧ls[j]?=some b.toList:=by
 induction h with
 | nil=>intro j hj; simp at hj
 | cons b t _ ih =>
  intro j hj
  cases j with
  | zero=>exact ⟨b,t,rfl,rfl⟩
  | succ j=>simpa using ih (by simpa using hj)
theorem tb_bytes (id:String)(b:Array UInt8)(t:Tok):Builtin.Bytes.takeBuffer? id (.bytes b t) 0=pure (some (b,none)):=by
 kernel_rfl
noncomputable abbrev JS:=Array (Array UInt8) × List (Value × Option Value)
theorem join_loop {f:Nat→JS→Sem (ForInStep JS)}{ls:List Value}{bs:List (List UInt8)}(hB:BytesAre ls bs){Q:JS→Shared→Prop}
  (hf:∀(j:Nat) (b:Array UInt8) (t:Tok) (parts:Array (Array UInt8)) (taken:List (Value × Option Value)) (Q':ForInStep JS→Shared→Prop),ls[j]?=some (.bytes b t)→(∀p∈taken,∃b t,p=(Value.bytes b t,(none:Option Value)))→Q' (.yield (parts.push b,taken++[(.bytes b t,none)])) s→wpAny (model prog w) A (f j (parts,taken)) Q' E s)
  (h:∀parts taken,parts.toList.map (fun x=>x.toList)=bs→(∀p∈taken,∃b t,p=(Value.bytes b t,(none:Option Value)))→Q (parts,taken) s):wpAny (model prog w) A (forIn [:ls.length] ((#[],[]):JS) f) Q E s:=by
 rw[Std.Legacy.Range.forIn_eq_forIn_range']
 refine wpAny_forIn_list _ (fun rest st s'=>s'=s∧∃j,j≤ls.length∧rest=List.range' j (ls.length-j) 1∧st.1.toList.map (fun x=>x.toList)=bs.take j∧∀p∈st.2,∃b t,p=(Value.bytes b t,(none:Option Value))) Q ?_ ?_ _ _ ⟨rfl,0,Nat.zero_le _,?_,?_,by simp⟩
 ·rintro x rest ⟨parts,taken⟩ s' ⟨rfl,j,hj,hr,hp,ht⟩
  cases hk:ls.length-j with
  | zero=>rw[hk] at hr; injection hr
  | succ k =>
   rw[hk,List.range'_succ] at hr
   have h1:=(List.cons.inj hr).1.symm
   have h2:=(List.cons.inj hr).2.symm
   subst h1 h2
   obtain ⟨b,t,e1,e2⟩:=hB.get (show j<ls.length by lia)
   refine hf j b t parts taken _ e1 ht ⟨rfl,j+1,by lia,?_,?_,?_⟩
   ·rw[show ls.length-(j+1)=k by lia]
   ·simp only[Array.toList_push,List.map_append,List.map_cons,List.map_nil]
    rw[hp]
    rw[List.take_add_one,e2]; rfl
   ·intro p hp
    rcases List.mem_append.mp hp with hp|hp
    ·exact ht p hp
    ·cases hp with
     | head=>exact ⟨b,t,rfl⟩
     | tail _ hp=>cases hp
 ·rintro ⟨parts,taken⟩ s' ⟨rfl,j,hj,hr,hp,ht⟩
  have:ls.length-j=0:=by
   cases hk:ls.length-j with
   | zero=>rfl
   | succ k=>rw[hk,List.range'_succ] at hr; injection hr
  refine h parts taken ?_ ht
  rw[hp,List.take_of_length_le (by have:=hB.length; lia)]
 ·simp
 ·simp
theorem wpAny_joinLetGo {keep:List Value}{Q:Unit→Shared→Prop}(h:Q () s):∀taken:List (Value × Option Value),(∀p∈taken,∃b t,p=(Value.bytes b t,(none:Option Value)))→wpAny (model prog w) A (Builtin.Bytes.joinLetGo taken keep) Q E s
 | [],_=>wpAny_pure h
 | (x,v)::r,ht=>by
  obtain ⟨b,t,e⟩:=ht _ (.head _)
  cases e
  unfold Builtin.Bytes.joinLetGo
  exact wpAny_bind (wpAny_letGo (wpAny_joinLetGo h r fun p hp=>ht p (.tail _ hp)))
theorem joined_flat (parts:List (Array UInt8)):(Builtin.Bytes.joined #[] parts).toList=(parts.map (fun x=>x.toList)).flatten:=by
 have key:∀(l:List (Array UInt8)) (k:Nat) (acc:Array UInt8),(List.foldl (fun out (p:Array UInt8 × Nat)=>(if p.2 > 0 then out++#[] else out)++p.1) acc (l.zipIdx k)).toList=acc.toList++(l.map (fun x=>x.toList)).flatten:=by
  intro l
  induction l with
  | nil=>intro k acc; simp
  | cons x l ih =>
   intro k acc
   rw[List.zipIdx_cons,List.foldl_cons,ih]
   by_cases hk:k > 0 <;> simp[hk]
 have:=key parts 0 #[]
 simpa [Builtin.Bytes.joined] using this
theorem sizes_flat (parts:Array (Array UInt8)):Array.foldl (fun x1 (x2:Array UInt8)=>x1+x2.size) 0 parts=((parts.toList.map (fun x=>x.toList)).flatten).length:=by
 have key:∀(l:List (Array UInt8)) (k:Nat),List.foldl (fun x1 (x2:Array UInt8)=>x1+x2.size) k l=k+((l.map (fun x=>x.toList)).flatten).length:=by
  intro l
  induction l with
  | nil=>intro k; simp
  | cons x l ih=>intro k; rw[List.foldl_cons,ih]; simp; lia
 rw[←Array.foldl_toList,key]; simp
theorem call_join {l:Addr}{items:Array Value}{t:Tok}{bs:List (List UInt8)}{Q:Value→Shared→Prop}(hl:s.heap.PlainList l items)(hB:BytesAre items.toList bs)(hsz:bs.flatten.length≤16777216)
  (h:∀arr t' k,arr.toList=bs.flatten→Q (.bytes arr t') { s with toks:=k }) :
  wpAny (model prog w) A (call (.builtin "bytes.join") [.bytes #[] t,.ref l]) Q E s:=by
 obtain ⟨n,ho⟩:=hl
 refine wpAny_call_entry slot_join (typeIs_bytes s _ t) entry_join ?_ (args_join _ _)
 show wpAny _ _ (Builtin.Bytes.joinM .bytes ⟨[.bytes #[] t,.ref l],[]⟩) _ _ s
 unfold Builtin.Bytes.joinM
 refine wpAny_bind (wpAny_of_eq (a:=(.bytes #[] t,.ref l)) (by kernel_rfl) ?_)
 dsimp only
 refine wpAny_bind ?_
 show wpAny _ _ (Builtin.Bytes.joinItems (.ref l)) _ _ _
 unfold Builtin.Bytes.joinItems
 refine wpAny_bind (wpAny_typeOf (T:="list") ⟨_,ho,rfl⟩ ?_)
 show wpAny _ _ (pure (Value.ref l)) _ _ _
 refine wpAny_pure ?_
 refine wpAny_bind (wpAny_seqItems ho rfl ?_)
 dsimp only
 have fin:∀(parts:Array (Array UInt8)) (taken:List (Value × Option Value)),parts.toList.map (fun x=>x.toList)=bs→(∀p∈taken,∃b t,p=(Value.bytes b t,(none:Option Value))) →
   wpAny (model prog w) A.in1 (do
    let result ←Builtin.Bytes.Kind.bytes.new (Builtin.Bytes.joined #[] parts.toList)
    PySem.holding (result::List.flatMap (fun x=>x.1::x.2.toList) taken) point
    Builtin.Bytes.joinLetGo taken [result]
    PySem.ret result) (fun fin s'=>∃v,fin=Fin.done (Flow.ret v)∧Q v s') E s:=fun parts taken hp ht=>by
  have hj:=joined_flat parts.toList
  rw[hp] at hj
  refine wpAny_bind (wpAny_mkBytes ?_ (by rw[←Array.length_toList,hj]; exact hsz))
  exact wpAny_bind (wpAny_holding (wpAny_point (wpAny_bind (wpAny_joinLetGo (wpAny_pure ⟨_,rfl,h _ _ _ hj⟩) taken ht))))
 have long:∀(parts:Array (Array UInt8)),parts.toList.map (fun x=>x.toList)=bs→Builtin.Bytes.tooLong (Array.foldl (fun x1 (x2:Array UInt8)=>x1+x2.size) ((#[]:Array UInt8).size*(parts.size-1)) parts)=false:=fun parts hp=>by
  have e:(#[]:Array UInt8).size*(parts.size-1)=0:=by simp
  rw[e,sizes_flat,hp]
  exact decide_eq_false (Nat.not_lt.mpr hsz)
 obtain ⟨ls⟩:=items
 rcases ls with _|⟨x,_|⟨y,r⟩⟩
 ·show wpAny _ _ (forIn [:([]:List Value).length] (#[],[]) _ >>= _) _ _ _
  refine wpAny_bind (join_loop (s:=s) (bs:=bs) hB (fun j b t parts taken Q' e1 ht hq=>?_) fun parts taken hp ht=>?_)
  ·simp at e1
  ·refine wpAny_bind (wpAny_of_eq (a:=#[]) rfl (wpAny_ite ?_))
   rw[if_neg (by rw[long parts hp]; exact Bool.false_ne_true)]
   exact fin parts taken hp ht
 ·cases hB with
  | cons b t' hB =>
   cases hB
   show wpAny _ _ (typeOf (.bytes b t') >>= fun d=>if (d == Value.type "bytes")=true then (do rule "bytes.join.one-item"; PySem.ret (.bytes b t')) else _) _ _ _
   refine wpAny_bind (wpAny_typeOf (typeIs_bytes s b t') (wpAny_ite ?_))
   rw[if_pos (by decide)]
   exact wpAny_bind (wpAny_rule (wpAny_pure ⟨_,rfl,h b t' s.toks (by simp)⟩))
 ·show wpAny _ _ (forIn [:(x::y::r).length] (#[],[]) _ >>= _) _ _ _
  refine wpAny_bind (join_loop (s:=s) (bs:=bs) hB (fun j b t parts taken Q' e1 ht hq=>?_) fun parts taken hp ht=>?_)
  ·dsimp only
   refine wpAny_bind (wpAny_seqItems ho rfl ?_)
   dsimp only
   have hg:({ toList:=x::y::r }:Array Value).getD j Value.none=.bytes b t:=by
    rw[Array.getD_eq_getD_getElem?,←Array.getElem?_toList,e1]; rfl
   rw[hg]
   refine wpAny_ite ?_
   rw[if_neg (by
    rw[Bool.or_eq_true]
    rintro (q|q)
    ·exact nT' q
    ·obtain ⟨p,hp,hq⟩:=List.any_eq_true.mp q
     obtain ⟨b,t,rfl⟩:=ht p hp
     exact nT' hq)]
   refine wpAny_bind (wpAny_holding ?_)
   unfold Builtin.Bytes.takeBufferQuiet?
   refine wpAny_bind (wpAny_attempt (wpAny_of_eq (tb_bytes _ b t) (wpAny_pure ?_)))
   dsimp only
   refine wpAny_bind (wpAny_seqItems ho rfl ?_)
   dsimp only
   refine wpAny_ite ?_
   rw[if_neg (by simp)]
   exact wpAny_pure hq
  ·refine wpAny_bind (wpAny_of_eq (a:=#[]) rfl (wpAny_ite ?_))
   rw[if_neg (by rw[long parts hp]; exact Bool.false_ne_true)]
   exact fin parts taken hp ht
end
noncomputable def fitsTo (x:Int) (k:Nat) (signed:Bool):Bool:=match signed with
 | true=>decide (-(2 ^ (8*k-1))≤x)&&decide (x<2 ^ (8*k-1))
 | false=>decide (0≤x)&&decide (x<2 ^ (8*k))
theorem args_tb (a b c d:Value):argsOk "int.to_bytes" ⟨[a,b,c],[(PySem.Str.ofString "signed",d)]⟩:=by unfold argsOk; kernel_rfl
theorem fits_bits {x:Int}{k:Nat}{g:Bool}(hk:0<k)(h:fitsTo x k g=true) :
  (x != 0&&decide ((if g=true then (Builtin.Int.intBits (if x<0 then -x-1 else x):Int)+1 else Builtin.Int.intBits x) > 8*(k:Int)))=false:=by
 have key:(if g=true then (Builtin.Int.intBits (if x<0 then -x-1 else x):Int)+1 else Builtin.Int.intBits x)≤8*(k:Int):=by
  cases g with
  | true =>
   simp only[fitsTo,Bool.and_eq_true,decide_eq_true_eq] at h
   rw[if_pos rfl]
   have hp:(2:Int) ^ (8*k-1)=((2 ^ (8*k-1):Nat):Int):=by rw[Int.natCast_pow]; rfl
   rw[hp] at h
   have:Builtin.Int.intBits (if x<0 then -x-1 else x)≤8*k-1:=by
    rw[intBits_le_iff]
    split <;> lia
   lia
  | false =>
   simp only[fitsTo,Bool.and_eq_true,decide_eq_true_eq] at h
   rw[if_neg Bool.false_ne_true]
   have hp:(2:Int) ^ (8*k)=((2 ^ (8*k):Nat):Int):=by rw[Int.natCast_pow]; rfl
   rw[hp] at h
   have:Builtin.Int.intBits x≤8*k:=by
    rw[intBits_le_iff]; lia
   lia
 rw[decide_eq_false (by lia),Bool.and_false]
section
variable {prog:Program}{w:World}{A:Around}{E:Value→Shared→Prop}{s:Shared}
theorem call_to_bytes {x:Int}{k:Nat}{g:Bool}{t u v:Tok}{Q:Value→Shared→Prop}(hk0:0<k)(hk:k≤8)(hf:fitsTo x k g=true)(h:∀t' n,Q (.bytes (KTBy.low x k).toArray t') { s with toks:=n }) :
  wpAny (model prog w) A (call (.builtin "int.to_bytes") [.int x t,.int (k:Int) u,.str (PySem.Str.ofString "little") v] [(PySem.Str.ofString "signed",.bool g)]) Q E s:=by
 have e2:sizeLine=16777216:=rfl
 refine wpAny_call_entry_kw KTBy.slot (typeIs_int s x t) KTBy.entry ?_ (args_tb _ _ _ _)
 show wpAny _ _ (Builtin.Int.intOfSelf (.int x t) >>= fun y=>_) _ _ s
 refine wpAny_bind (wpAny_of_eq (a:=x) rfl ?_)
 show wpAny _ _ (Builtin.Int.intBindNamed "to_bytes" ["length","byteorder","signed"] 0 2 [.int (k:Int) u,.str (PySem.Str.ofString "little") v] [(PySem.Str.ofString "signed",.bool g)] >>= fun l=>_) _ _ s
 refine wpAny_bind (wpAny_of_eq (a:=[some (.int (k:Int) u),some (.str (PySem.Str.ofString "little") v),some (.bool g)]) (by kernel_rfl) ?_)
 show wpAny _ _ (Builtin.Int.intIndex "int.to_bytes" (.int (k:Int) u) >>= fun n=>_) _ _ s
 refine wpAny_bind (wpAny_of_eq (a:=(k:Int)) rfl ?_)
 refine wpAny_ite ?_
 rw[if_neg (by simp only[Bool.or_eq_true,decide_eq_true_eq]; lia)]
 refine wpAny_bind (wpAny_of_eq (a:=PySem.Str.ofString "little") (by kernel_rfl) ?_)
 refine wpAny_bind (wpAny_truthy_bool ?_)
 refine wpAny_bind (wpAny_of_eq (a:=true) (by kernel_rfl) ?_)
 refine wpAny_ite ?_
 rw[if_neg (by lia)]
 refine wpAny_ite ?_
 rw[if_neg (by lia)]
 refine wpAny_ite ?_
 rw[if_neg (by lia)]
 refine wpAny_ite ?_
 rw[if_neg (by
  cases g with
  | true=>simp
  | false =>
   simp only[fitsTo,Bool.and_eq_true,decide_eq_true_eq] at hf
   simp; lia)]
 dsimp only
 refine wpAny_ite ?_
 rw[if_neg (by rw[fits_bits hk0 hf]; exact Bool.false_ne_true)]
 refine wpAny_bind (wpAny_mkBytes (wpAny_pure ⟨_,rfl,h _ _⟩) (by show (KTBy.low x (Int.toNat (k:Int))).length≤sizeLine; rw[KTBy.low_length,Int.toNat_natCast]; lia))
end
noncomputable def ofLeI (b:List UInt8) (g:Bool):Int :=
 let n:Nat:=b.reverse.foldl (fun acc c=>acc*256+c.toNat) 0
 match g&&b.reverse.head?.any (·≥ 128) with
 | true=>(n:Int)-256 ^ b.length
 | false=>n
theorem fold_bound:∀(l:List UInt8) (a:Nat),l.foldl (fun (acc:Nat) (b:UInt8)=>acc*256+b.toNat) a<(a+1)*256 ^ l.length:=KFB.fold_lt
theorem grownI {M:Model}{A:Around}{E:Value→Shared→Prop}{s:Shared}{i:Int}{Q:Value→Shared→Prop}(hi:i.natAbs≤2 ^ 64)(h:Q (.int i s.toks) { s with toks:=s.toks+1 }):wpAny M A (mkIntGrown i) Q E s:=by
 unfold mkIntGrown
 have hb:bitsLine=134217728:=by first|rfl|decide
 rw[if_neg]
 ·exact wpAny_mkInt h
 ·rw[hb]
  by_cases hz:i.natAbs=0
  ·rw[hz]; decide
  ·have:=(Nat.log2_lt hz (k:=65)).mpr (by lia)
   lia
section
variable {prog:Program}{w:World}{M:Model}{A:Around}{E:Value→Shared→Prop}{s:Shared}
theorem getm0 {pl:Sem Bool}{Q:Value × List Value→Shared→Prop}
  (h:Q (.ref s.heap.objs.size,[]) { s with heap:=s.heap.push KFB.bound,toks:=s.toks+1 }) :
  wpAny (model prog w) A (getMethod (.type "int") (PySem.Str.ofString "from_bytes") pl) Q E s:=by
 have X:Frag.In [] s.heap:=fun a o e=>by exact nS e
 have hstub:opaqueClassAbove (.type "int")=pure none:=by unfold opaqueClassAbove; dsimp only; rw[show Manifest.isStub "int"=false by decide +kernel]; rfl
 have ht:typeOf (.type "int")=pure (.type "type"):=by first|rfl|kernel_rfl
 have L0:Looks (model prog w) s.heap (typeOf (.type "int")) (.type "type"):=Looks.of_pure ht
 have hg:findIn [] (.type "type") "__getattribute__"=some (some (.builtin "type.__getattribute__")):=type_tga
 have e:findCls [] (.type "int") (.type "type") (PySem.Str.ofString "from_bytes")=some (.get (.builtin "classmethod_descriptor.__get__") (.builtin "int.from_bytes") .none (.type "int")):=by kernel_rfl
 unfold getMethod specialOf
 refine wpAny_bind (wpAny_bind (L0.here ((looks_findIn X hg).here ?_)))
 dsimp only
 rw[if_pos canon_tga]
 refine wpAny_bind (wpAny_mono (Q:=fun v=>Q (v,[])) (E:=E) ?_ (fun J J z=>wpAny_pure z) fun J J z=>z)
 refine cls_open X (Looks.of_pure hstub) L0 hg (looks_hook X (r:=none) (by rfl)) (by show subIn _ _ _=_; rfl) e ?_
 show wpAny _ _ (PySem.holding [.builtin "int.from_bytes"] (call (.builtin "classmethod_descriptor.__get__") [.builtin "int.from_bytes",.none,.type "int"]) >>= fun v=>PySem.ret v) _ _ _
 exact wpAny_bind (wpAny_holding (wpAny_call_entry KFB.slot_get KFB.type_fb KFB.entry_get (KFB.run_get ⟨_,rfl,wpAny_pure (wpAny_pure h)⟩) (KFB.args_get _ _ _)))
theorem keep_bound {u:Addr}{h:Heap}(ho:h.get? u=some KFB.bound):Looks M h (keeperOf (.ref u)) .machine :=
 (Looks.ld (part:=none) ho).andThen (by
  show Looks M h (pure Keeper.machine) .machine
  exact Looks.of_pure rfl)
theorem tree_fb {b:Array UInt8}{g:Bool}{t u:Tok}{P:Fin→Shared→Prop}(hl:b.size≤8)(h:P (.done (.ret (.int (ofLeI b.toList g) s.toks))) { s with toks:=s.toks+1 }) :
  wpAny M A (Builtin.«int.from_bytes» ⟨[.type "int",.bytes b t,.str (PySem.Str.ofString "little") u],[(PySem.Str.ofString "signed",.bool g)]⟩) P E s:=by
 unfold Builtin.«int.from_bytes»
 refine wpAny_bind (wpAny_of_eq (a:=true) KFB.type_int ?_)
 refine KFB.if_not rfl ?_
 refine wpAny_bind (wpAny_of_eq (a:=true) F.conv_sub_int ?_)
 refine KFB.if_not rfl ?_
 refine wpAny_bind (wpAny_of_eq (a:=[some (.bytes b t),some (.str (PySem.Str.ofString "little") u),some (.bool g)]) (by kernel_rfl) ?_)
 refine wpAny_bind (wpAny_of_eq (a:=PySem.Str.ofString "little") (by kernel_rfl) ?_)
 refine wpAny_bind (wpAny_truthy_bool ?_)
 refine wpAny_bind (wpAny_of_eq (a:=true) (by kernel_rfl) ?_)
 refine wpAny_bind (wpAny_of_eq (a:=b) rfl ?_)
 have hn:b.toList.reverse.foldl (fun (acc:Nat) (b:UInt8)=>acc*256+b.toNat) 0<256 ^ b.size:=by
  have h1:=fold_bound b.toList.reverse 0
  simpa using h1
 have h2:256 ^ b.size≤256 ^ 8:=Nat.pow_le_pow_right (by decide) hl
 have hp:(256:Int) ^ b.size=((256 ^ b.size:Nat):Int):=by rw[Int.natCast_pow]; rfl
 have hv:(if (g&&b.toList.reverse.head?.any (·≥ 128))=true then (b.toList.reverse.foldl (fun (acc:Int) (b:UInt8)=>acc*256+(b.toNat:Int)) ((0:Nat):Int))-256 ^ b.toList.reverse.length else b.toList.reverse.foldl (fun (acc:Int) (b:UInt8)=>acc*256+(b.toNat:Int)) ((0:Nat):Int))=ofLeI b.toList g:=by
  rw[KFB.foldI_eq]
  unfold ofLeI
  simp only[List.length_reverse,Array.length_toList]
  cases (g&&b.toList.reverse.head?.any (·≥ 128)) <;> simp
 show wpAny _ _ (mkIntGrown (if (g&&b.toList.reverse.head?.any (·≥ 128))=true then (b.toList.reverse.foldl (fun (acc:Int) (b:UInt8)=>acc*256+(b.toNat:Int)) ((0:Nat):Int))-256 ^ b.toList.reverse.length else b.toList.reverse.foldl (fun (acc:Int) (b:UInt8)=>acc*256+(b.toNat:Int)) ((0:Nat):Int)) >>= fun v=>_) _ _ _
 rw[hv]
 refine wpAny_bind (grownI ?_ ?_)
 ·unfold ofLeI
  simp only[Array.length_toList]
  split
  ·rw[hp]; lia
  ·lia
 ·refine KFB.if_so (by decide +kernel) ?_
  exact wpAny_bind (wpAny_pure (wpAny_pure h))
theorem check_fb {b:Array UInt8} {t u:Tok} {o:Str} {g:Bool}:checkBoundCall "int.from_bytes" ⟨[.type "int",.bytes b t,.str o u],[(PySem.Str.ofString "signed",.bool g)]⟩=pure ():=by first|kernel_rfl|rfl
theorem call_fb {x:Addr}{b:Array UInt8}{t u:Tok}{g:Bool}{Q:Value→Shared→Prop}(ho:s.heap.get? x=some KFB.bound)(hl:b.size≤8)
  (h:Q (.int (ofLeI b.toList g) s.toks) { s with toks:=s.toks+1 }):wpAny (model prog w) A (call (.ref x) [.bytes b t,.str (PySem.Str.ofString "little") u] [(PySem.Str.ofString "signed",.bool g)]) Q E s:=by
 refine wpAny_call (codeAny_of_tree ?_)
 show wpAny _ A.in1 (callAny (.ref x) ⟨[.bytes b t,.str (PySem.Str.ofString "little") u],[(PySem.Str.ofString "signed",.bool g)]⟩) _ _ s
 delta callAny
 dsimp only
 refine wpAny_bind (wpAny_load ho ?_)
 simp only[KFB.bound,show (Value.type "builtin_function_or_method" == Value.type "method"||Value.type "builtin_function_or_method" == Value.type "builtin_function_or_method"||Value.type "builtin_function_or_method" == Value.type "method-wrapper")=true by decide,if_true]
 refine KFB.if_so (by decide) ?_
 refine wpAny_bind (wpAny_of_eq (a:=()) check_fb ?_)
 refine wpAny_bind (wpAny_pure (wpAny_pure ?_))
 exact ⟨KFB.quiet_fb,codeAny_builtin KFB.entry_fb (tree_fb hl h)⟩
end
open PySem.Builtin
noncomputable def utf8A (s:Str):Option (List UInt8):=match s.cps.toList.all (fun c=>!Str.isSurrogate c)&&decide (s.length≤1048576) with
 | true=>some (s.cps.toList.flatMap Str.utf8Of)
 | false=>none
theorem enc_tree1 (x:Str) (t u:Tok):«str.encode» ⟨[.str x t,.str (PySem.Str.ofString "utf-8") u],[]⟩=(do PySem.ret (←(do mkBytes (←_codecs.encodeNarrow "str.encode" _codecs.utf8Codec none (.str x t) x)))):=by kernel_rfl
theorem enc_tree2 (x:Str) (t u:Tok):«str.encode» ⟨[.str x t,.str (PySem.Str.ofString "utf8") u],[]⟩=(do PySem.ret (←(do mkBytes (←_codecs.encodeNarrow "str.encode" _codecs.utf8Codec none (.str x t) x)))):=by kernel_rfl
theorem utf8Of_len (c:Nat):(Str.utf8Of c).length≤4:=by
 unfold Str.utf8Of
 (repeat' split) <;> simp
section
variable {prog:Program}{w:World}{M:Model}{A:Around}{E:Value→Shared→Prop}{s:Shared}
theorem fold_utf8 (l:List Nat)(acc:Array UInt8):List.foldl (fun (acc:Array UInt8) y=>acc++(Str.utf8Of y).toArray) acc l=acc++(l.flatMap Str.utf8Of).toArray:=by
 induction l generalizing acc with
 | nil=>simp
 | cons x l ih=>rw[List.foldl_cons,ih]; simp[Array.append_assoc]
theorem flat_len (l:List Nat):(l.flatMap Str.utf8Of).length≤4*l.length:=by
 induction l with
 | nil=>simp
 | cons x l ih=>rw[List.flatMap_cons,List.length_append]; have:=utf8Of_len x; rw[List.length_cons]; lia
set_option tactic.hygienic true in
theorem narrow_ok {id:String}{self:Value}{x:Str}{b:List UInt8}{Q:Array UInt8→Shared→Prop}(e:utf8A x=some b)(h:Q b.toArray s):wpAny M A (_codecs.encodeNarrow id _codecs.utf8Codec none self x) Q E s:=by
 unfold utf8A at e
 split at e
 ·rename_i hc; have hb:=sI e; clear e
  rw[Bool.and_eq_true] at hc
  obtain ⟨hc,hl⟩:=hc
  have hl:x.cps.size≤1048576:=of_decide_eq_true hl
  have e2:sizeLine=16777216:=rfl
  have hout:b.toArray.size≤4194304:=by
   have:=flat_len x.cps.toList
   rw[hb] at this
   simp only[List.size_toArray,Array.length_toList] at this ⊢
   lia
  have hbad:∀c∈x.cps.toList,_codecs.utf8Codec.bad c=false:=fun c hm=>by
   have:=List.all_eq_true.mp hc c hm
   have:Str.isSurrogate c=false:=by simpa using this
   exact this
  have hext:x.cps.extract 0=x.cps:=by simp
  have hfind:Array.findIdx? _codecs.utf8Codec.bad x.cps=none:=by
   rw[Array.findIdx?_eq_none_iff]
   intro c hm
   exact hbad c (Array.mem_toList_iff.mpr hm)
  unfold _codecs.encodeNarrow
  dsimp only
  refine wpAny_bind ?_
  rw[Std.Legacy.Range.forIn_eq_forIn_range']
  refine wpAny_forIn_list _ (fun rest st s'=>s'=s∧((st=(0,#[],{})∧rest.length=x.cps.size)∨st=(x.cps.size,b.toArray,{}))) _ ?_ ?_ _ _ ⟨rfl,.inl ⟨rfl,by simp[Str.length]⟩⟩
  ·rintro a rest st s' ⟨rfl,⟨rfl,hr⟩|rfl⟩
   ·refine wpAny_ite ?_
    rw[if_neg (by show ¬(0 > sizeLine); lia)]
    have hpos:0<x.cps.size:=by rw[←hr]; simp
    have hx:x.cps[0]?=some x.cps[0]:=by simp[hpos]
    dsimp only
    rw[hx]
    dsimp only
    refine wpAny_ite ?_
    rw[if_pos (by rw[hbad _ (Array.mem_toList_iff.mpr (Array.getElem_mem hpos))]; rfl)]
    refine wpAny_pure ⟨rfl,.inr ?_⟩
    rw[hext,hfind]
    simp only[Option.getD_none,Nat.zero_add,Array.extract_size]
    rw[←Array.foldl_toList]
    have:=fold_utf8 x.cps.toList #[]
    simp only[Array.empty_append,hb] at this
    exact congrArg (fun z=>(x.cps.size,z,_)) this
   ·refine wpAny_ite ?_
    rw[if_neg (by show ¬(_ > sizeLine); dsimp only; lia)]
    have hx:x.cps[x.cps.size]?=none:=by simp
    dsimp only
    rw[hx]
    exact wpAny_pure (wpAny_pure h)
  ·rintro st s' ⟨rfl,⟨rfl,hr⟩|rfl⟩
   ·have:x.cps=#[]:=by simpa using hr.symm
    rw[this] at hb
    rw[←hb] at h
    exact wpAny_pure h
   ·exact wpAny_pure h
 ·exact nS e
theorem enc_args (a b:Value):argsOk "str.encode" ⟨[a,b],[]⟩:=by unfold argsOk; kernel_rfl
set_option tactic.hygienic true in
theorem utf8A_len {x:Str}{b:List UInt8}(e:utf8A x=some b):b.length≤sizeLine:=by
 unfold utf8A at e
 split at e
 ·rename_i hc; obtain rfl:=sI e
  rw[Bool.and_eq_true] at hc
  have hl:x.cps.size≤1048576:=of_decide_eq_true hc.2
  have:=flat_len x.cps.toList
  have e2:sizeLine=16777216:=rfl
  have hl':x.cps.toList.length≤1048576:=by simpa using hl
  lia
 ·exact nS e
theorem call_encode {x:Str} {b:List UInt8} {t u:Tok} {n:Str} {Q:Value→Shared→Prop} (hn:n=PySem.Str.ofString "utf-8"∨n=PySem.Str.ofString "utf8") (e:utf8A x=some b) (h:∀t' k,Q (.bytes b.toArray t') { s with toks:=k }) :
  wpAny (model prog w) A (call (.builtin "str.encode") [.str x t,.str n u]) Q E s:=by
 refine wpAny_call_entry PySem.F.slot_str_encode (typeIs_str s x t) PySem.F.entry_str_encode ?_ (enc_args _ _)
 rcases hn with rfl|rfl
 ·rw[enc_tree1]
  exact wpAny_bind (wpAny_bind (narrow_ok e (wpAny_mkBytes (wpAny_pure ⟨_,rfl,h _ _⟩) (by rw[List.size_toArray]; exact utf8A_len e))))
 ·rw[enc_tree2]
  exact wpAny_bind (wpAny_bind (narrow_ok e (wpAny_mkBytes (wpAny_pure ⟨_,rfl,h _ _⟩) (by rw[List.size_toArray]; exact utf8A_len e))))
theorem dec_entry (c:UInt8) (cs:List UInt8) (t u:Tok):«bytes.decode» ⟨[.bytes (c::cs).toArray t,.str (PySem.Str.ofString "utf-8") u],[]⟩=(mkStr (PySem.Str.ofString "utf-8") >>= fun J=>mkStr (PySem.Str.ofString "utf-8") >>= fun e=>mkStr (PySem.Str.ofString "bytes.decode") >>= fun d =>
 call (.builtin "_codecs.decode.text") [.bytes (c::cs).toArray t,e,.none,d] >>= fun v=>PySem.ret v):=by kernel_rfl
theorem dec_nil (t u:Tok):«bytes.decode» ⟨[.bytes #[] t,.str (PySem.Str.ofString "utf-8") u],[]⟩=(rule "bytes.decode.empty" >>= fun J=>mkStr Str.empty >>= fun v=>PySem.ret v):=by kernel_rfl
theorem dec_args (a b:Value):argsOk "bytes.decode" ⟨[a,b],[]⟩:=by unfold argsOk; kernel_rfl
def Reads8 (b:List UInt8)(x:Str):Prop:=x.length≤sizeLine∧(b=[]∧x=Str.empty∨b≠[]∧∃n,∀id,_codecs.runDecoder id _codecs.utf8Decoder none true b.toArray 0 []=pure (x.cps,n))
theorem call_decode {x:Str}{b:List UInt8}{t u:Tok}{Q:Value→Shared→Prop}(e:Reads8 b x)(h:∀t' k,Q (.str x t') { s with toks:=k }) :
  wpAny (model prog w) A (call (.builtin "bytes.decode") [.bytes b.toArray t,.str (PySem.Str.ofString "utf-8") u]) Q E s:=by
 refine wpAny_call_entry FB.slot_bytes_decode (typeIs_bytes _ _ _) FB.entry_bytes_decode ?_ (dec_args _ _)
 obtain ⟨hl,⟨rfl,rfl⟩|⟨hb,n,hd⟩⟩:=e
 ·rw[dec_nil]
  exact wpAny_bind (wpAny_rule (wpAny_bind (wpAny_mkStr (wpAny_pure ⟨_,rfl,h _ _⟩) (by decide))))
 ·cases b with
  | nil=>exact absurd rfl hb
  | cons c cs =>
   rw[dec_entry]
   refine wpAny_bind (wpAny_mkStr ?_ (by decide))
   refine wpAny_bind (wpAny_mkStr ?_ (by decide))
   refine wpAny_bind (wpAny_mkStr ?_ (by decide))
   exact wpAny_bind (call_function_meets KBd.kind_text KBd.plain_text KBd.entry_text (KBd.args_text _ _ _ _) (KBd.meets_text hd) ⟨hl,wpAny_pure ⟨_,rfl,h _ _⟩⟩)
end
inductive Mt where
 | join|toBytes|fromBytes|encode|decode|get
noncomputable def methOf (v:AV) (m:Str):Option Mt:=match v with
 | .bytes b=>match sEqB m (PySem.Str.ofString "join")&&b.isEmpty with
  | true=>some .join
  | false=>gd (sEqB m (PySem.Str.ofString "decode")) <| some .decode
 | .int _=>gd (sEqB m (PySem.Str.ofString "to_bytes")) <| some .toBytes
 | .str _=>gd (sEqB m (PySem.Str.ofString "encode")) <| some .encode
 | .dict _=>gd (sEqB m (PySem.Str.ofString "get")) <| some .get
 | .bi b=>match b with
  | .int=>gd (sEqB m (PySem.Str.ofString "from_bytes")) <| some .fromBytes
  | _=>none
 | _=>none
noncomputable def bytesL:List AV→Option (List (List UInt8))
 | []=>some []
 | x::r=>ob x.asY fun b=>ob (bytesL r) fun l=>some (b::l)
noncomputable def runMt (C:Ctx) (mt:Mt) (v:AV) (vs:List AV) (kw:List (Str × AV)):Option AV:=match mt with
 | .join=>ob (one vs) fun a=>ob a.asL fun xs=>gd (isNil kw) <| ob (bytesL xs) fun bs=>gd (fitL bs.flatten.length) <| some (.bytes bs.flatten)
 | .toBytes=>ob v.asI fun x=>ob (two vs) fun p=>ob p.1.asI fun k=>ob p.2.asS fun o=>ob (one kw) fun q=>ob q.2.asB fun g =>
  gd (sEqB o (PySem.Str.ofString "little")&&sEqB q.1 (PySem.Str.ofString "signed")&&decide (0<k)&&decide (k≤8)&&fitsTo x k.toNat g) <| some (.bytes (KTBy.low x k.toNat))
 | .fromBytes=>ob (two vs) fun p=>ob p.1.asY fun b=>ob p.2.asS fun o=>ob (one kw) fun q=>ob q.2.asB fun g =>
  gd (sEqB o (PySem.Str.ofString "little")&&sEqB q.1 (PySem.Str.ofString "signed")&&decide (b.length≤8)) <| some (.int (ofLeI b g))
 | .encode=>ob v.asS fun x=>ob (one vs) fun a=>ob a.asS fun n=>gd (isNil kw) <| gd (sEqB n (PySem.Str.ofString "utf-8")||sEqB n (PySem.Str.ofString "utf8")) <| ob (utf8A x) fun b=>some (.bytes b)
 | .decode=>ob v.asY fun b=>ob (one vs) fun a=>ob a.asS fun n=>gd (isNil kw) <| gd (sEqB n (PySem.Str.ofString "utf-8")) <| ob (C.dec b) fun x=>some (.str x)
 | .get=>ob v.asD fun es=>ob (one vs) fun a=>ob a.asS fun k=>gd (isNil kw) <| match dGet k es with
   | some x=>some x
   | none=>some .none
noncomputable def notCall:PySem.Expr→Bool
 | .Call _ _ _ _=>false
 | _=>true
def DecOK (C:Ctx):Prop:=∀b x,C.dec b=some x→Reads8 b x
noncomputable def Mt.id:Mt→String
 | .join=>"bytes.join"
 | .toBytes=>"int.to_bytes"
 | .fromBytes=>"int.from_bytes"
 | .encode=>"str.encode"
 | .decode=>"bytes.decode"
 | .get=>"dict.get"
def Bound (mt:Mt)(u f:Value)(first:List Value)(h:Heap):Prop:=match mt with
 | .fromBytes=>first=[]∧∃x,f=.ref x∧h.get? x=some KFB.bound
 | mt=>f=.builtin mt.id∧first=[u]
section
variable {K:PW}{F:Fx}{A:Around}{C:Ctx}{R:Type}{σ:St}{env:AEnv}
theorem meth_ok (i:Inv K F σ env){v:AV}{m:Str}{mt:Mt}{u:Value}{pl:Sem Bool}(e:methOf v m=some mt)(r:VRel K σ.s.heap (Av F σ) u v)(Q:Value × List Value→Shared→Prop)(X:Value→Shared→Prop)
  (h:∀f first h' tk,(∀a o,σ.s.heap.get? a=some o→h'.get? a=some o)→Bound mt u f first h'→(∀x,mt=.fromBytes→f=.ref x→σ.s.heap.get? x=none)→Q (f,first) { σ.s with heap:=h',toks:=tk }):wpAny (model K.p K.w) A (getMethod u m pl) Q X σ.s:=by
 have same:∀f first,Bound mt u f first σ.s.heap→(mt≠.fromBytes)→Q (f,first) σ.s:=fun f first hb hm=>h f first σ.s.heap σ.s.toks (fun J J e=>e) hb fun x q=>absurd q hm
 have eqS:∀{x y:Str},sEqB x y=true→x=y:=fun q=>by rw[sEqB_eq] at q; exact of_decide_eq_true q
 cases v with
 | bytes b =>
  obtain ⟨x,t,rfl,_,_⟩:=r
  unfold methOf at e
  dsimp only at e
  cases q:sEqB m (PySem.Str.ofString "join")&&b.isEmpty with
  | true =>
   rw[q] at e
   obtain rfl:=sI e
   rw[Bool.and_eq_true] at q
   rw[eqS q.1]
   have hq:Q (.builtin "bytes.join",[.bytes x t]) σ.s:=same _ _ ⟨rfl,rfl⟩ nofun
   with_reducible exact getMethod_builtin (typeIs_bytes _ _ _) FB.plainAttrs_bytes slot_join type_join (fun J e=>nomatch e) hq
  | false =>
   rw[q] at e
   obtain ⟨q,e⟩:=gdE e
   obtain rfl:=sI e
   rw[eqS q]
   have hq:Q (.builtin "bytes.decode",[.bytes x t]) σ.s:=same _ _ ⟨rfl,rfl⟩ nofun
   with_reducible exact getMethod_builtin (typeIs_bytes _ _ _) FB.plainAttrs_bytes FB.slot_bytes_decode FB.type_bytes_decode (fun J e=>nomatch e) hq
 | int x =>
  obtain ⟨t,rfl⟩:=r
  obtain ⟨q,e⟩:=gdE e
  obtain rfl:=sI e
  rw[eqS q]
  have hq:Q (.builtin "int.to_bytes",[.int x t]) σ.s:=same _ _ ⟨rfl,rfl⟩ nofun
  with_reducible exact KTBy.method hq
 | str x =>
  obtain ⟨t,rfl,_⟩:=r
  obtain ⟨q,e⟩:=gdE e
  obtain rfl:=sI e
  rw[eqS q]
  have hq:Q (.builtin "str.encode",[.str x t]) σ.s:=same _ _ ⟨rfl,rfl⟩ nofun
  with_reducible exact getMethod_builtin (typeIs_str _ _ _) PySem.F.plainAttrs_str PySem.F.slot_str_encode PySem.F.type_str_encode (fun J e=>nomatch e) hq
 | dict es =>
  obtain ⟨d,ws,rfl,_,hs,hd,_⟩:=r
  obtain ⟨q,e⟩:=gdE e
  obtain rfl:=sI e
  rw[eqS q]
  have hq:Q (.builtin "dict.get",[.ref d]) σ.s:=same _ _ ⟨rfl,rfl⟩ nofun
  with_reducible exact getMethod_builtin hd.typeIs PySem.F.plainAttrs_dict PySem.F.slot_dict_get PySem.F.type_dict_get hd.mapOf.noDict hq
 | bi b =>
  cases b with
  | int =>
   obtain ⟨q,e⟩:=gdE e
   obtain rfl:=sI e
   rw[eqS q]
   subst r
   exact getm0 (h _ _ _ _ push_keep ⟨rfl,_,rfl,Heap.get?_push_size _ rfl⟩ fun x J e=>by (injection e with e; subst e); exact get_size _)
  | _=>exact nS e
 | _=>exact nS e
theorem bytesL_ok {h:Heap}{A':Addr→Prop}:∀{xs:List AV} {vs:List Value} {bs:List (List UInt8)},bytesL xs=some bs→RelL K h A' vs xs→BytesAre vs bs
 | [],vs,bs,e,r=>by subst r; obtain rfl:=sI e; exact .nil
 | x::xs,vs,bs,e,⟨v,r,q,h1,h2⟩=>by
  subst q
  obtain ⟨y,h0,e⟩:=obE e
  obtain ⟨l,hl,e⟩:=obE e
  rw[asY h0] at h1
  have ec:=sI e
  clear e h0
  obtain ⟨arr,t,rfl,rfl,_⟩:=h1
  rw[←ec]
  exact .cons arr t (bytesL_ok hl h2)
theorem kw_one {h:Heap}{A':Addr→Prop}{ku:List (Str × Value)}{q:Str × AV}{g:Bool}(eg:q.2=.bool g)(rk:ku.map (fun x=>x.1)=[q].map (fun x=>x.1)∧RelL K h A' (ku.map (fun x=>x.2)) ([q].map (fun x=>x.2))):ku=[(q.1,.bool g)]:=by
 obtain ⟨hk,w,ws,h2,h3,h4⟩:=rk
 rcases ku with _|⟨⟨a,b⟩,_|⟨c,r⟩⟩
 ·exact nomatch hk
 ·have h3:RelB K h A' A' w q.2:=h3
  rw[eg] at h3
  rw[show a=q.1 from (cI hk).1,show b=w from (cI h2).1,show w=.bool g from h3]
 ·exact nomatch (cI hk).2
theorem kw_no {P:Prop}{ku:List (Str × Value)}{kw:List (Str × AV)}(n:isNil kw=true)(rk:ku.map (fun x=>x.1)=kw.map (fun x=>x.1))(h:ku=[]→P):P:=by
 rw[nilE n] at rk
 cases ku with
 | nil=>exact h rfl
 | cons=>exact nomatch rk
theorem eqS' {x y:Str}(q:sEqB x y=true):x=y:=by rw[sEqB_eq] at q; exact of_decide_eq_true q
section
variable (i:Inv K F σ env){v:AV}{vs:List AV}{kw:List (Str × AV)}{c:AV}{m:Str}{u f:Value}{first us:List Value}{ku:List (Str × Value)}
 (r:VRel K σ.s.heap (Av F σ) u v) (rs:RelL K σ.s.heap (Av F σ) us vs) (rk:ku.map (fun x=>x.1)=kw.map (fun x=>x.1)∧RelL K σ.s.heap (Av F σ) (ku.map (fun x=>x.2)) (kw.map (fun x=>x.2))) (X:Value→Shared→Prop)
include r rs rk
theorem run_join (em:methOf v m=some .join) (e:runMt C .join v vs kw=some c):wpAny (model K.p K.w) A (PySem.call (.builtin "bytes.join") ([u]++us) ku) (Gives K F σ c) X σ.s:=by
 obtain ⟨a,h1,e⟩:=obE e
 obtain ⟨xs,h2,e⟩:=obE e
 obtain ⟨h3,e⟩:=gdE e
 obtain ⟨bs,hbs,e⟩:=obE e
 obtain ⟨hf,e⟩:=gdE e
 have hf:=of_decide_eq_true hf
 refine kw_no h3 rk.1 fun hk=>?_
 subst hk
 rw[oneE h1,asL h2] at rs
 obtain ⟨w,ws,rfl,⟨l,its,rfl,_,hl,hz,rl⟩,q⟩:=rs
 rw[show ws=[] from q,←sI e]
 cases v with
 | bytes b0 =>
  obtain ⟨arr,t,rfl,rfl,_⟩:=r
  have he:arr=#[]:=by
   unfold methOf at em
   dsimp only at em
   cases hj:sEqB m (PySem.Str.ofString "join")&&arr.toList.isEmpty with
   | true=>rw[Bool.and_eq_true] at hj; simpa using hj.2
   | false =>
    rw[hj] at em
    exact nomatch sI (gdE em).2
  subst he
  exact call_join hl (bytesL_ok hbs rl) hf fun a t' k ha=>.toks ⟨a,t',rfl,ha,hf⟩
 | bi b=>cases b <;> first|exact nS em|exact nomatch sI (gdE em).2
 | _=>first|exact nS em|exact nomatch sI (gdE em).2
theorem run_to (e:runMt C .toBytes v vs kw=some c):wpAny (model K.p K.w) A (PySem.call (.builtin "int.to_bytes") ([u]++us) ku) (Gives K F σ c) X σ.s:=by
 obtain ⟨x,h1,e⟩:=obE e
 obtain ⟨⟨a,b⟩,h2,e⟩:=obE e
 obtain ⟨k,h3,e⟩:=obE e
 obtain ⟨o,h4,e⟩:=obE e
 obtain ⟨q,h5,e⟩:=obE e
 obtain ⟨g,h6,e⟩:=obE e
 obtain ⟨hc,e⟩:=gdE e
 rw[asI h1] at r
 obtain ⟨t,rfl⟩:=r
 rw[twoE h2,show a=_ from asI h3,show b=_ from asS h4] at rs
 obtain ⟨w,ws,rfl,⟨t1,rfl⟩,w',ws',rfl,⟨t2,rfl,_⟩,q'⟩:=rs
 rw[oneE h5] at rk
 rw[kw_one (asB h6) rk,show ws'=[] from q',←sI e]
 simp only[Bool.and_eq_true,decide_eq_true_eq] at hc
 obtain ⟨⟨⟨⟨hc1,hc2⟩,hc4⟩,hc5⟩,hc6⟩:=hc
 rw[eqS' hc1,eqS' hc2]
 have ek:k=((k.toNat:Nat):Int):=by lia
 rw[ek]
 simp only[Int.toNat_natCast]
 have e2:sizeLine=16777216:=rfl
 exact call_to_bytes (by lia) (by lia) hc6 fun t' n=>.toks ⟨_,t',rfl,rfl,by rw[KTBy.low_length]; lia⟩
omit r in
theorem run_from {x:Addr}(hx:σ.s.heap.get? x=some KFB.bound)(e:runMt C .fromBytes v vs kw=some c):wpAny (model K.p K.w) A (PySem.call (.ref x) ([]++us) ku) (Gives K F σ c) X σ.s:=by
 obtain ⟨⟨a,b⟩,h2,e⟩:=obE e
 obtain ⟨y,h3,e⟩:=obE e
 obtain ⟨o,h4,e⟩:=obE e
 obtain ⟨q,h5,e⟩:=obE e
 obtain ⟨g,h6,e⟩:=obE e
 obtain ⟨hc,e⟩:=gdE e
 have ec:=sI e
 rw[twoE h2,show a=_ from asY h3,show b=_ from asS h4] at rs
 obtain ⟨w,ws,rfl,⟨arr,t1,rfl,rfl,_⟩,w',ws',rfl,⟨t2,rfl,_⟩,q'⟩:=rs
 rw[oneE h5] at rk
 rw[kw_one (asB h6) rk,show ws'=[] from q',←ec]
 simp only[Bool.and_eq_true,decide_eq_true_eq] at hc
 rw[eqS' hc.1.1,eqS' hc.1.2]
 exact call_fb hx (by simpa using hc.2) (.toks ⟨_,rfl⟩)
theorem run_encode (e:runMt C .encode v vs kw=some c):wpAny (model K.p K.w) A (PySem.call (.builtin "str.encode") ([u]++us) ku) (Gives K F σ c) X σ.s:=by
 obtain ⟨x,h1,e⟩:=obE e
 obtain ⟨a,h2,e⟩:=obE e
 obtain ⟨n,h3,e⟩:=obE e
 obtain ⟨h4,e⟩:=gdE e
 obtain ⟨hc,e⟩:=gdE e
 obtain ⟨b,hb,e⟩:=obE e
 refine kw_no h4 rk.1 fun hk=>?_
 subst hk
 rw[asS h1] at r
 obtain ⟨t,rfl,_⟩:=r
 rw[oneE h2,asS h3] at rs
 obtain ⟨w,ws,rfl,⟨t1,rfl,_⟩,q⟩:=rs
 rw[show ws=[] from q,←sI e]
 rw[Bool.or_eq_true] at hc
 exact call_encode (hc.imp eqS' eqS') hb fun t' k=>.toks ⟨_,t',rfl,by simp,utf8A_len hb⟩
theorem run_decode (D:DecOK C) (e:runMt C .decode v vs kw=some c):wpAny (model K.p K.w) A (PySem.call (.builtin "bytes.decode") ([u]++us) ku) (Gives K F σ c) X σ.s:=by
 obtain ⟨b,h1,e⟩:=obE e
 obtain ⟨a,h2,e⟩:=obE e
 obtain ⟨n,h3,e⟩:=obE e
 obtain ⟨h4,e⟩:=gdE e
 obtain ⟨hc,e⟩:=gdE e
 obtain ⟨x,hb,e⟩:=obE e
 have ec:=sI e
 have hd:=D _ _ hb
 refine kw_no h4 rk.1 fun hk=>?_
 subst hk
 rw[asY h1] at r
 obtain ⟨arr,t,rfl,rfl,_⟩:=r
 rw[oneE h2,asS h3] at rs
 obtain ⟨w,ws,rfl,⟨t1,rfl,_⟩,q⟩:=rs
 rw[show ws=[] from q,←ec,eqS' hc]
 exact call_decode hd fun t' k=>.toks ⟨t',rfl,hd.1⟩
theorem run_get (e:runMt C .get v vs kw=some c):wpAny (model K.p K.w) A (PySem.call (.builtin "dict.get") ([u]++us) ku) (Gives K F σ c) X σ.s:=by
 obtain ⟨es,h1,e⟩:=obE e
 obtain ⟨a,h2,e⟩:=obE e
 obtain ⟨k,h3,e⟩:=obE e
 obtain ⟨h4,e⟩:=gdE e
 refine kw_no h4 rk.1 fun hk=>?_
 subst hk
 rw[asD h1] at r
 obtain ⟨d,ws,rfl,_,hs,hd,_,rd⟩:=r
 rw[oneE h2,asS h3] at rs
 obtain ⟨w,ws',rfl,⟨t1,rfl,_⟩,q⟩:=rs
 rw[show ws'=[] from q]
 have hg:=dGet_ok (k:=k) rd
 refine call_meetsIn PySem.F.slot_dict_get hd.typeIs PySem.F.entry_dict_get (PySem.F.args_dict_get_2 _ _) (meets_dict_get (strKind K.p K.w) d (strKind_is _ _ k t1) hs) ⟨_,hd.mapOf,?_⟩
 cases hx:dGet k es with
 | some x =>
  rw[hx] at e hg
  obtain ⟨v,hv,rv⟩:=hg
  rw[hv,←sI e]
  exact .toks rv
 | none =>
  rw[hx] at e hg
  rw[show valueAt ws k=none from hg,←sI e]
  exact .toks rfl
end
theorem runMt_ok (D:DecOK C)(i:Inv K F σ env)(hh:A.handled=none){mt:Mt}{v:AV}{vs:List AV}{kw:List (Str × AV)}{c:AV}{m:Str}{u f:Value}{first us:List Value}{ku:List (Str × Value)}
  (em:methOf v m=some mt) (e:runMt C mt v vs kw=some c) (b:Bound mt u f first σ.s.heap) (r:VRel K σ.s.heap (Av F σ) u v) (rs:RelL K σ.s.heap (Av F σ) us vs) (rk:ku.map (fun x=>x.1)=kw.map (fun x=>x.1)∧RelL K σ.s.heap (Av F σ) (ku.map (fun x=>x.2)) (kw.map (fun x=>x.2))) (X:Value→Shared→Prop) :
  wpAny (model K.p K.w) A (PySem.call f (first++us) ku) (Gives K F σ c) X σ.s:=by
 cases mt with
 | fromBytes=>obtain ⟨rfl,x,rfl,hx⟩:=b; exact run_from rs rk X hx e
 | _=>obtain ⟨rfl,rfl⟩:=b; first|exact run_join r rs rk X em e|exact run_to r rs rk X e|exact run_encode r rs rk X e|exact run_decode r rs rk X D e|exact run_get r rs rk X e
end
end
noncomputable section
open PySem PySem.W PyProof.Rows
noncomputable def storeIx (C:Ctx) (x:Str):Option Nat:=match kindA C x with
 | some .local=>idxOf x C.names
 | some .cell=>idxOf x C.names
 | _=>none
section
variable {R:Type}
noncomputable def stNames (C:Ctx):List PySem.Expr→List AV→M R Unit
 | [],vs=>fun k X e=>match vs with
  | []=>k () e
  | _::_=>none
 | t::ts,vs=>match nameOf t with
  | some x=>match storeIx C x with
   | some i=>fun k X e=>match vs with
    | []=>none
    | v::vs=>bnd (storeM i v) (fun J=>stNames C ts vs) k X e
   | none=>stuck
  | none=>stuck
end
noncomputable def isNameT:PySem.Expr→Bool
 | .Name _ _=>true
 | _=>false
noncomputable def asg {R:Type} (C:Ctx) (t:PySem.Expr) (v:AV):M R Unit:=match t with
 | .Name x _=>match storeIx C x with
  | some i=>storeM i v
  | none=>stuck
 | .Tuple ts _ _=>match ts.all isNameT with
  | true=>fun k X e=>match v with
   | .tup vs=>match decide (ts.length=vs.length) with
    | true=>stNames C ts vs k X e
    | false=>none
   | .list vs=>match decide (ts.length=vs.length) with
    | true=>stNames C ts vs k X e
    | false=>none
   | _=>none
  | false=>stuck
 | _=>stuck
noncomputable def iterT (tup:Bool) (a:AV):Option (List AV):=match a with
 | .list xs=>some xs
 | .tup xs=>some xs
 | .dict es=>match tup with
  | true=>none
  | false=>some (es.map fun e=>.str e.1)
 | .str s=>match tup with
  | true=>none
  | false=>some (s.cps.toList.map fun c=>.str ⟨#[c]⟩)
 | _=>none
noncomputable def rngA (a b c:Int):Option (List AV):=gd (Builtin.Range.small a b c&&decide (c≠0)&&decide (c.natAbs<1073741824)&&decide (Builtin.Range.rangeSize a b c≤16777216)) <|
 some ((List.range (Builtin.Range.rangeSize a b c).toNat).map fun i=>.int (a+(i:Nat)*c))
noncomputable def rangeA:List AV→Option (List AV)
 | []=>none
 | a::r=>ob a.asI fun x=>match r with
  | []=>rngA 0 x 1
  | b::r=>ob b.asI fun y=>match r with
   | []=>rngA x y 1
   | c::r=>ob c.asI fun z=>gd (isNil r) <| rngA x y z
noncomputable def enumFrom:Nat→List AV→List AV
 | _,[]=>[]
 | n,x::r=>.tup [.int (n:Nat),x]::enumFrom (n+1) r
noncomputable def enumA (vs:List AV):Option (List AV):=ob (one vs) fun a=>ob a.asL fun xs=>some (enumFrom 0 xs)
noncomputable def itemsA (a:AV):Option (List AV):=ob a.asD fun es=>some (es.map fun e=>.tup [.str e.1,e.2])
noncomputable def asCN:PySem.Expr→Option (Str × List PySem.Expr × List Keyword)
 | .Call f as ks _=>match f with
  | .Name x _=>some (x,as,ks)
  | _=>none
 | _=>none
theorem asCN_eq {e:PySem.Expr}{x:Str}{as:List PySem.Expr}{ks:List Keyword}(h:asCN e=some (x,as,ks)):∃np p,e=.Call (.Name x np) as ks p:=by
 cases e with
 | Call f as ks p =>
  cases f with
  | Name x np=>have h:=pI (sI h); have h2:=pI h.2; rw[←h.1,←h2.1,←h2.2]; exact ⟨_,_,rfl⟩
  | _=>exact nS h
 | _=>exact nS h
noncomputable def asCA:PySem.Expr→Option (PySem.Expr × Str × Pos × List PySem.Expr × List Keyword × Pos)
 | .Call f as ks p0=>match f with
  | .Attribute o m ap=>some (o,m,ap,as,ks,p0)
  | _=>none
 | _=>none
theorem asCA_eq {e o:PySem.Expr}{m:Str}{ap p0:Pos}{as:List PySem.Expr}{ks:List Keyword}(h:asCA e=some (o,m,ap,as,ks,p0)):e=.Call (.Attribute o m ap) as ks p0:=by
 cases e with
 | Call f as ks p =>
  cases f with
  | Attribute x m np=>have h1:=pI (sI h); have h2:=pI h1.2; have h3:=pI h2.2; have h4:=pI h3.2; have h5:=pI h4.2; rw[←h1.1,←h2.1,←h3.1,←h4.1,←h5.1,←h5.2]
  | _=>exact nS h
 | _=>exact nS h
noncomputable def isTupT:PySem.Expr→Bool
 | .Tuple _ _ _=>true
 | .List _ _=>true
 | _=>false
noncomputable def isTup1:PySem.Expr→Bool
 | .Tuple _ _ _=>true
 | _=>false
noncomputable def srcOf (C:Ctx) (x:Str):Option Bn:=gd (isG C x) <| ob (C.glob x) AV.asBi
noncomputable def genOf (C:Ctx) (x:Str):Option Addr:=gd (isG C x) <| ob (C.glob x) fun v=>ob v.asO fun a=>gd (C.isGn a) (some a)
noncomputable def isFr:Option NameKind→Bool
 | some .free=>true
 | _=>false
noncomputable def isFreeN (sc:Scope) (x:Str):Bool:=isFr (lookS x sc.names)
noncomputable def maskN (sc:Scope):List (Option Str)→List (Option Str)
 | []=>[]
 | o::r=>(match o with
  | some x=>match isFreeN sc x with
   | true=>some x
   | false=>none
  | none=>none)::maskN sc r
noncomputable def locN:List (Str × NameKind)→List Str
 | []=>[]
 | p::r=>match p with
  | (n,k)=>match k with
   | .local=>n::locN r
   | _=>locN r
noncomputable def relabelN (outer:List (Str × NameKind)):List (Str × NameKind)→List (Str × NameKind)
 | []=>[]
 | p::r=>match p with
  | (n,k)=>(n,match k with
   | .free=>match lookS n outer with
    | some .cell=>.cell
    | _=>.free
   | k=>k)::relabelN outer r
noncomputable def innerC (C:Ctx) (sc:Scope):Ctx:={ C with sc:={ sc with names:=relabelN C.sc.names sc.names },names:=maskN sc C.names++(locN sc.names).map some }
noncomputable def notIn (x:Str):List Str→Bool
 | []=>true
 | y::r=>match sEqB x y with
  | true=>false
  | false=>notIn x r
noncomputable def nodupS:List Str→Bool
 | []=>true
 | x::r=>notIn x r&&nodupS r
noncomputable def isFn:ScopeKind→Bool
 | .function=>true
 | _=>false
noncomputable def isLc:Option NameKind→Bool
 | some .local=>true
 | _=>false
noncomputable def isCf:Option NameKind→Bool
 | some .cell=>true
 | some .free=>true
 | _=>false
noncomputable def nameChk1 (C:Ctx) (sc:Scope) (p:Str × NameKind):Bool:=match p.2 with
 | .cell=>false
 | .local=>isLc (lookS p.1 sc.names)&&!sEqB p.1 (PySem.Str.ofString "__debug__")
 | .free=>isFr (lookS p.1 sc.names)&&isCf (kindA C p.1)&&(slotIx C p.1).isSome&&!sEqB p.1 (PySem.Str.ofString "__classdict__")
 | _=>true
noncomputable def nameChk (C:Ctx) (sc:Scope) (l:List (Str × NameKind)):Bool:=l.all (nameChk1 C sc)
noncomputable def someB {α:Type}:List α→Bool
 | []=>false
 | _::_=>true
noncomputable def compChk (C:Ctx) (sc:Scope):Bool:=isFn sc.kind&&nameChk C sc sc.names&&nodupS (locN sc.names)&&someB (locN sc.names)
noncomputable def padN:Nat→AEnv
 | 0=>[]
 | n+1=>none::padN n
noncomputable def cut:AEnv→AEnv→AEnv
 | [],_=>[]
 | _::r,e=>match e with
  | []=>[]
  | s::e=>s::cut r e
section
variable {R:Type}
noncomputable def compL (asgn:AV→M R Unit) (tests:M R Bool) (elt:M R AV):List AV→M R (List AV)
 | []=>ret []
 | x::r=>bnd (asgn x) fun J=>bnd tests fun c=>ifM c (bnd elt fun y=>bnd (compL asgn tests elt r) fun ys=>ret (y::ys)) (compL asgn tests elt r)
noncomputable def enterM {α:Type} (m:Nat) (inner:M R α):M R α:=fun k X e=>inner (fun a e'=>k a (cut e e')) (fun a e'=>X a (cut e e')) (e++padN m)
end
section
variable {R:Type}
noncomputable def gdM {α:Type} (c:Bool) (m:M R α):M R α:=match c with
 | true=>m
 | false=>stuck
noncomputable def itrG (e1:PySem.Expr→M R AV) (es:List PySem.Expr→M R (List AV)) (C:Ctx) (tup:Bool) (e:PySem.Expr):M R (List AV):=match asCN e with
 | some (x,as,ks)=>match genOf C x with
  | some a=>gdM (isNil ks&&as.all plainArg&&!tup) <| bnd (es as) fun vs=>liftO (C.gen a vs)
  | none=>match srcOf C x with
   | some .range=>gdM (isNil ks&&as.all plainArg&&!tup) <| bnd (es as) fun vs=>liftO (rangeA vs)
   | some .enumerate=>gdM (isNil ks&&as.all plainArg&&tup) <| bnd (es as) fun vs=>liftO (enumA vs)
   | _=>bnd (e1 e) fun v=>liftO (iterT tup v)
 | none=>match asCA e with
  | some (o,m,ap,as,ks,p0)=>match sEqB m (PySem.Str.ofString "items") with
   | true=>gdM (isNil as&&isNil ks&&(notCall o&&(ap.endLine == p0.line))&&tup) <| bnd (e1 o) fun v=>liftO (itemsA v)
   | false=>bnd (e1 e) fun v=>liftO (iterT tup v)
  | none=>bnd (e1 e) fun v=>liftO (iterT tup v)
noncomputable def tstG (t1:PySem.Expr→M R Bool) (ifs:List PySem.Expr):M R Bool:=match ifs with
 | []=>ret true
 | c::r=>match r with
  | []=>t1 c
  | _::_=>stuck
noncomputable def compG (C:Ctx) (sc:Scope) (target:PySem.Expr) (tests:M R Bool) (elt:M R AV) (xs:List AV):M R AV :=
 bnd (enterM (locN sc.names).length (compL (asg (innerC C sc) target) tests elt xs)) fun ys=>ret (.list ys)
noncomputable def notSetE:PySem.Expr→Bool
 | .Set _ _ _=>false
 | _=>true
noncomputable def oneGen:List Comprehension→Option (PySem.Expr × PySem.Expr × List PySem.Expr)
 | []=>none
 | g::r=>match r with
  | []=>match g with
   | ⟨t,i,ifs,a⟩=>gd (decide (a=0)&&notSetE i&&(isTupT t == isTup1 t)) <| some (t,i,ifs)
  | _::_=>none
noncomputable def ownIx (C:Ctx) (o:PySem.Expr):Option Nat:=ob (nameOf o) fun x=>gd (!isG C x) (slotIx C x)
section
variable {R:Type}
noncomputable def ownSub (j:Nat) (mo mi:M R AV):M R AV:=fun k X e=>match slotAt e j with
 | some (.own _)=>mi (fun iv e'=>match slotAt e' j with
  | some (.own c)=>(bnd (liftO (itemA c.frozen iv)) ret) k X e'
  | _=>none) X e
 | _=>(bnd mo fun a=>bnd mi fun b=>bnd (liftO (itemA a b)) ret) k X e
end
noncomputable def okKeys:List (Option PySem.Expr)→List PySem.Expr→Bool
 | [],vs=>match vs with
  | []=>true
  | _::_=>false
 | k::ks,vs=>match k with
  | none=>false
  | some _=>match vs with
   | []=>false
   | _::vs=>okKeys ks vs
noncomputable def putA (k:Str) (v:AV):List (Str × AV)→List (Str × AV)
 | []=>[(k,v)]
 | e::r=>match sEqB k e.1 with
  | true=>(e.1,v)::r
  | false=>e::putA k v r
noncomputable def mergeA:List (Str × AV)→List (Str × AV)→List (Str × AV)
 | es,[]=>es
 | es,e::r=>mergeA (putA e.1 e.2 es) r
end
section
variable {R:Type}
mutual
noncomputable def ev:Nat→Ctx→PySem.Expr→M R AV
 | 0,_,_=>stuck
 | n+1,C,e=>match e with
  | .Constant c _ _=>bnd (liftO (constA c)) ret
  | .Name x _=>nmM C x
  | .BinOp l op r _=>bnd (ev n C l) fun a=>bnd (ev n C r) fun b=>bnd (liftO (binA op a b)) ret
  | .UnaryOp op x _=>match op with
   | .USub=>bnd (ev n C x) fun a=>bnd (liftO (negA a)) ret
   | _=>stuck
  | .IfExp t a b _=>bnd (tst n C t) fun c=>ifM c (ev n C a) (ev n C b)
  | .BoolOp op vs _=>evB n C op vs
  | .Compare l ops cs _=>bnd (ev n C l) fun a=>bnd (chn n C a ops cs) fun b=>ret (.bool b)
  | .Tuple es _ _=>bnd (evs n C es) fun vs=>bnd (liftO (tupA vs)) ret
  | .List es _=>bnd (evs n C es) fun vs=>bnd (liftO (listA vs)) ret
  | .Dict ks vs _=>match Nat.ble vs.length 15&&okKeys ks vs with
   | true=>bnd (prs n C ks vs) fun ps=>ret (.dict (mergeA [] ps))
   | false=>stuck
  | .ListComp elt gens sc _=>match oneGen gens with
   | some g=>match g with
    | (t,it,ifs)=>match compChk C sc with
     | true=>bnd (itrG (ev n C) (evs n C) C (isTupT t) it) fun xs=>compG C sc t (tstG (tst n (innerC C sc)) ifs) (ev n (innerC C sc) elt) xs
     | false=>stuck
   | none=>stuck
  | .Subscript o s _=>match s with
   | .Slice lo hi st _=>match st with
    | none=>bnd (ev n C o) fun a=>bnd (evO n C lo) fun x=>bnd (evO n C hi) fun y=>bnd (liftO (sliceA a x y)) ret
    | some _=>stuck
   | s=>match ownIx C o with
    | some j=>ownSub j (ev n C o) (ev n C s)
    | none=>bnd (ev n C o) fun a=>bnd (ev n C s) fun b=>bnd (liftO (itemA a b)) ret
  | .Attribute o a _=>match o with
   | .Name x p=>bnd (ev n C (.Name x p)) fun v=>match v with
    | .obj b=>bnd (liftO (C.attr b a)) ret
    | _=>stuck
   | _=>stuck
  | .Call f as ks p0=>match f with
   | .Attribute o m ap=>match notCall o&&as.all plainArg&&ks.all named&&(ap.endLine == p0.line)&&decide (as.length+ks.length<28) with
    | true=>bnd (ev n C o) fun v=>bnd (liftO (methOf v m)) fun mt=>bnd (evs n C as) fun vs=>bnd (kws n C ks) fun kw=>bnd (liftO (runMt C mt v vs kw)) ret
    | false=>stuck
   | .Name x p=>match as.all plainArg&&ks.all named with
    | true=>bnd (ev n C (.Name x p)) fun g=>match g with
     | .obj a=>bnd (evs n C as) fun vs=>bnd (kws n C ks) fun kw=>okO (C.call a vs kw)
     | .bi b=>match ks with
      | []=>bnd (evs n C as) fun vs=>bnd (liftO (callB C b vs)) ret
      | _::_=>stuck
     | _=>stuck
    | false=>stuck
   | _=>stuck
  | _=>stuck
noncomputable def evO:Nat→Ctx→Option PySem.Expr→M R (Option Int)
 | 0,_,_=>stuck
 | n+1,C,e=>match e with
  | some e=>bnd (ev n C e) fun a=>bnd (liftO (partA a)) ret
  | none=>ret none
noncomputable def evs:Nat→Ctx→List PySem.Expr→M R (List AV)
 | 0,_,_=>stuck
 | n+1,C,es=>match es with
  | []=>ret []
  | e::r=>match plainArg e with
   | true=>bnd (ev n C e) fun v=>bnd (evs n C r) fun vs=>ret (v::vs)
   | false=>stuck
noncomputable def kws:Nat→Ctx→List Keyword→M R (List (Str × AV))
 | 0,_,_=>stuck
 | n+1,C,es=>match es with
  | []=>ret []
  | k::r=>match k with
   | ⟨nm,e,_⟩=>match nm with
    | some x=>bnd (ev n C e) fun v=>bnd (kws n C r) fun vs=>ret ((x,v)::vs)
    | none=>stuck
noncomputable def prs:Nat→Ctx→List (Option PySem.Expr)→List PySem.Expr→M R (List (Str × AV))
 | 0,_,_,_=>stuck
 | n+1,C,ks,vs=>match ks with
  | []=>match vs with
   | []=>ret []
   | _::_=>stuck
  | k::ks=>match k with
   | none=>stuck
   | some k=>match vs with
    | []=>stuck
    | v::vs=>bnd (ev n C k) fun a=>match a with
     | .str s=>bnd (ev n C v) fun b=>bnd (prs n C ks vs) fun r=>ret ((s,b)::r)
     | _=>stuck
noncomputable def evB:Nat→Ctx→BoolOp→List PySem.Expr→M R AV
 | 0,_,_,_=>stuck
 | n+1,C,op,es=>match es with
  | []=>stuck
  | e::r=>match r with
   | []=>ev n C e
   | e'::r'=>bnd (ev n C e) fun v=>bnd (liftO (truthA v)) fun t=>match op with
    | .And=>ifM t (evB n C op (e'::r')) (ret v)
    | .Or=>ifM t (ret v) (evB n C op (e'::r'))
noncomputable def chn:Nat→Ctx→AV→List CmpOp→List PySem.Expr→M R Bool
 | 0,_,_,_,_=>stuck
 | n+1,C,a,ops,cs=>match ops with
  | []=>stuck
  | op::or=>match cs with
   | []=>stuck
   | c::cr=>match or with
    | []=>match cr with
     | []=>bnd (ev n C c) fun b=>bnd (liftO (cmpA op a b)) fun t=>ret t
     | _::_=>stuck
    | _::_=>bnd (ev n C c) fun b=>bnd (liftO (cmpA op a b)) fun t=>ifM t (chn n C b or cr) (ret false)
noncomputable def tst:Nat→Ctx→PySem.Expr→M R Bool
 | 0,_,_=>stuck
 | n+1,C,e=>match e with
  | .UnaryOp op x _=>match op with
   | .Not=>bnd (tst n C x) fun b=>ret (!b)
   | _=>stuck
  | .BoolOp op vs _=>allT n C op vs
  | .IfExp t a b _=>bnd (tst n C t) fun c=>ifM c (tst n C a) (tst n C b)
  | .Compare l ops cs _=>bnd (ev n C l) fun a=>chn n C a ops cs
  | .Name x p=>bnd (ev n C (.Name x p)) fun v=>liftO (truthA v)
  | .Call f as ks p=>bnd (ev n C (.Call f as ks p)) fun v=>liftO (truthA v)
  | _=>stuck
noncomputable def allT:Nat→Ctx→BoolOp→List PySem.Expr→M R Bool
 | 0,_,_,_=>stuck
 | n+1,C,op,es=>match es with
  | []=>ret (match op with|.And=>true|.Or=>false)
  | e::r=>bnd (tst n C e) fun b=>match op with
   | .And=>ifM b (allT n C op r) (ret false)
   | .Or=>ifM b (ret true) (allT n C op r)
end
end
end
noncomputable section
open PySem PySem.W PySem.Calls PyProof.Rows
theorem lookS_eq {α:Type}(x:Str):∀l:List (Str × α),lookS x l=l.lookup x
 | []=>rfl
 | y::r=>by
  obtain ⟨k,v⟩:=y
  unfold lookS
  rw[sEqB_eq,List.lookup_cons,lookS_eq x r]
  by_cases h:x=k
  ·subst h; simp
  ·have:(x == k)=false:=beq_eq_false_iff_ne.mpr h
   simp[h,this]
def Acc (E:Env)(x:Str)(p:Place):Prop :=
 (E.kindOf x=some .local∧p=.ns E.locals x)∨((E.kindOf x=some .cell∨(E.kindOf x=some .free∧(x == ("__classdict__":Str))=false))∧∃c,E.cells.lookup x=some c∧p=.cell c)
structure FOK (F:Fx) (C:Ctx) (E:Env):Prop where
 kind:E.scope.kind=.function
 glb:E.globals=mainGlobals
 blt:E.builtins=builtinsNs
 sc:C.sc=E.scope
 len:C.names.length=F.pl.length
 fix:C.fix=F.fix
 slot:∀x i,slotIx C x=some i→∃p,F.pl[i]?=some p∧Acc E x p∧(x == ("__debug__":Str))=false
def GOK (K:PW) (base:Heap) (C:Ctx):Prop:=∀x av,C.glob x=some av→(x == ("__debug__":Str))=false∧∃v,VRel K base (fun J=>False) v av ∧
 ∀(E:Env) (s:Shared) (A:Around) (Q:Value→Shared→Prop) (X:Value→Shared→Prop),E.globals=mainGlobals→E.builtins=builtinsNs→(∀a o,base.get? a=some o→s.heap.get? a=some o)→Q v s→wpAny (model K.p K.w) A (loadGlobal E x) Q X s
structure Room (A:Around) (d:Nat):Prop where
 hd:A.handled=none
 dp:A.depth+d+60<recursionLimit
 un:A.units+20*d+400<cLine
def RelK (K:PW)(h:Heap)(A:Addr→Prop)(ku:List (Str × Value))(kw:List (Str × AV)):Prop:=ku.map (fun x=>x.1)=kw.map (fun x=>x.1)∧RelL K h A (ku.map (fun x=>x.2)) (kw.map (fun x=>x.2))
structure CallOK (K:PW) (base:Heap) (A:Around) (C:Ctx):Prop where
 isfn:∀a vs kw r,C.call a vs kw=some r→∃o fd,base.get? a=some o∧o.data=.func fd
 run:∀{bb:Bool} (R:Type) F σ env a vs kw us ku,F.base=base→Inv K F σ env→RelL K σ.s.heap (Av F σ) us vs→RelK K σ.s.heap (Av F σ) ku kw→At K bb F A σ env (R:=R) (okO (C.call a vs kw)) (PySem.call (.ref a) us ku) (Val K F)
def AttrOK (K:PW)(base:Heap)(C:Ctx):Prop:=∀a x av,C.attr a x=some av→∃v,VRel K base (fun J=>False) v av∧∀(A:Around) (s:Shared) (Q:Value→Shared→Prop) (X:Value→Shared→Prop),(∀a o,base.get? a=some o→s.heap.get? a=some o) →
 (∀tk,Q v { s with toks:=tk })→wpAny (model K.p K.w) A (getAttr (.ref a) x true) Q X s
structure GenOK (K:PW) (base:Heap) (A:Around) (C:Ctx):Prop where
 isfn:∀a,C.isGn a=true→∃o fd,base.get? a=some o∧o.data=.func fd
 run:∀{bb:Bool} (R:Type) F σ env a vs us xs (target:PySem.Expr) (k:List AV→AEnv→Option R) (res:R) (Q X:Value→Shared→Prop),F.base=base→Inv K F σ env→C.gen a vs=some xs→RelL K σ.s.heap (Av F σ) us vs→isTupT target=false →
  ItK K bb F A σ target k res Q→k xs env=some res→wpAny (model K.p K.w) A (PySem.call (.ref a) us []) (fun v s₁=>wpAny (model K.p K.w) A (pyIter v) Q X s₁) X σ.s
structure Good (K:PW) (F:Fx) (A:Around) (C:Ctx) (E:Env) (d:Nat):Prop where
 fok:FOK F C E
 gok:GOK K F.base C
 room:Room A d
 call:CallOK K F.base A C
 isa:IsaOK K F.base C
 dec:DecOK C
 attr:AttrOK K F.base C
 gen:GenOK K F.base A C
 me:E.frame=some F.me
 big:∃a o,F.base.get? a=some o∧sysModules≤a
section
variable {bb:Bool}{K:PW}{F:Fx}{A:Around}{C:Ctx}{E:Env}{d:Nat}{R:Type}{σ:St}{env:AEnv}
theorem Inv.big (i:Inv K F σ env)(h:∃a o,F.base.get? a=some o∧sysModules≤a):(σ.s.heap.objs.size == sysModules)=false:=by
 obtain ⟨a,o,e,l⟩:=h
 have:=Heap.lt_size (i.old a o e)
 exact beq_eq_false_iff_ne.mpr (Nat.ne_of_gt (Nat.lt_of_le_of_lt l this))
theorem Room.u (r:Room A d):A.units<cLine:=by have:=r.un; lia
theorem Inv.ofBase (i:Inv K F σ env){v:Value}{x:AV}(r:VRel K F.base (fun J=>False) v x):VRel K σ.s.heap (Av F σ) v x :=
 r.kp ⟨fun a o e J=>i.old a o e,fun a q=>.inr (i.new a q)⟩
theorem Inv.slotLt (i:Inv K F σ env){j:Nat}{p:Place}(h:F.pl[j]?=some p):j<env.length:=by
 rw[i.len]; exact (List.getElem?_eq_some_iff.mp h).1
theorem nodup_inj {α β:Type}{f:α→β}:∀{l:List α},(l.map f).Nodup→∀{x y:α},x∈l→y∈l→f x=f y→x=y
 | [],_,_,_,h,_,_=>nomatch h
 | z::l,h,x,y,hx,hy,e=>by
  rw[List.map_cons,List.nodup_cons] at h
  rcases List.mem_cons.mp hx with rfl|hx' <;> rcases List.mem_cons.mp hy with rfl|hy'
  ·rfl
  ·exact absurd (e▸List.mem_map_of_mem hy') h.1
  ·exact absurd (e▸List.mem_map_of_mem hx') h.1
  ·exact nodup_inj h.2 hx' hy' e
noncomputable def offJ (ob:List (Nat × Addr)) (j:Nat):List (Nat × Addr):=ob.filter fun x=>!decide (x.1=j)
theorem offJ_mem {ob:List (Nat × Addr)}{j:Nat}{x:Nat × Addr}:x∈offJ ob j ↔ x∈ob∧x.1≠j:=by unfold offJ; rw[List.mem_filter]; simp
theorem own_off {F:Fx}{s:Shared}{ob:List (Nat × Addr)}{j:Nat}{a:Addr}(q:Own F ⟨s,offJ ob j⟩ a):Own F ⟨s,ob⟩ a:=q.elim .inl fun q=>.inr (by
 obtain ⟨y,hy,rfl⟩:=List.mem_map.mp q
 exact List.mem_map_of_mem (offJ_mem.mp hy).1)
theorem av_off {F:Fx}{s:Shared}{ob:List (Nat × Addr)}{j:Nat}{a:Addr}(q:Av F ⟨s,offJ ob j⟩ a):Av F ⟨s,ob⟩ a:=q.elim (fun q=>.inl (own_off q)) .inr
theorem Inv.off (i:Inv K F σ env){j:Nat}{x:Option Slot}(h:∀p,F.pl[j]?=some p→∃v,Holds σ.s.heap p v∧SlotRel K F ⟨σ.s,offJ σ.ob j⟩ j v x):Inv K F ⟨σ.s,offJ σ.ob j⟩ (setSlot env j x)∧Ext bb F σ ⟨σ.s,offJ σ.ob j⟩:=by
 have st:Hst σ.s.heap (Av F σ) σ.s.heap (Av F ⟨σ.s,offJ σ.ob j⟩):=Hst.of_sub fun a q=>av_off q
 refine ⟨⟨by rw[setSlot_length]; exact i.len,fun k q hq=>?_,i.pln,List.Sublist.nodup (List.Sublist.map _ List.filter_sublist) i.obn,List.Sublist.nodup (List.Sublist.map _ List.filter_sublist) i.obu,
  fun x hx=>i.obp x (offJ_mem.mp hx).1,fun b q=>i.upd b (own_off q),fun b q=>i.dom b (av_off q),fun b q=>i.new b (av_off q),i.old,i.gens⟩,
  ⟨fun b o e J J=>e,fun a o e J=>⟨o.slots,e⟩,fun x hx=>.inl (own_off (.inr (List.mem_map_of_mem hx))),fun J x hx=>(offJ_mem.mp hx).1,fun x hx J=>(offJ_mem.mp hx).1,rfl,fun J o e=>⟨o,e⟩,fun J J e=>e⟩⟩
 by_cases hk:k=j
 ·subst hk
  obtain ⟨v,hv,r⟩:=h q hq
  rw[slotAt_set_self (by rw[i.len]; exact (List.getElem?_eq_some_iff.mp hq).1)]
  exact ⟨v,hv,r⟩
 ·rw[slotAt_set_ne hk]
  obtain ⟨u,hu,hr⟩:=i.slots k q hq
  exact ⟨u,hu,hr.kp st fun a m=>⟨offJ_mem.mpr ⟨m,hk⟩,fun J e=>e⟩⟩
theorem Inv.freeze (i:Inv K F σ env){j:Nat}{p:Place}{c:OC}{v:Value}(hp:F.pl[j]?=some p)(hh:Holds σ.s.heap p (some v))(hs:SlotRel K F σ j (some v) (some (.own c))) :
  ∃ob',Inv K F ⟨σ.s,ob'⟩ (setSlot env j (some (.pure c.frozen)))∧Ext bb F σ ⟨σ.s,ob'⟩∧VRel K σ.s.heap (Av F ⟨σ.s,ob'⟩) v c.frozen:=by
 obtain ⟨a,e,hm,r⟩:=hs
 obtain rfl:=sI e
 have na:¬Av F ⟨σ.s,offJ σ.ob j⟩ a:=fun q=>by
  rcases q with (q|q)|q
  ·exact i.obp _ hm q
  ·obtain ⟨y,hy,e⟩:=List.mem_map.mp q
   have hy':=offJ_mem.mp hy
   have:y=(j,a):=nodup_inj i.obn hy'.1 hm e
   exact hy'.2 (by rw[this])
  ·exact i.upd a (.inr (List.mem_map_of_mem hm)) q
 have st:Hst σ.s.heap (Av F σ) σ.s.heap (Av F ⟨σ.s,offJ σ.ob j⟩):=Hst.of_sub fun a q=>av_off q
 have rv:VRel K σ.s.heap (Av F ⟨σ.s,offJ σ.ob j⟩) (.ref a) c.frozen:=by
  cases c with
  | list xs=>obtain ⟨vs,h1,h2,h3⟩:=r; exact ⟨a,vs,rfl,na,h1,h2,RelL.kp st _ h3⟩
  | dict es=>obtain ⟨vs,h0,h1,h2,h3⟩:=r; exact ⟨a,vs,rfl,na,h0,h1,h2,RelD.kp st _ h3⟩
 obtain ⟨i',ex⟩:=i.off (bb:=bb) (j:=j) (x:=some (.pure c.frozen)) fun q hq=>⟨some (.ref a),by rw[hp] at hq; obtain rfl:=sI hq; exact hh,_,rfl,rv⟩
 exact ⟨_,i',ex,rv⟩
theorem load_at {x:Str}{p:Place}{v:Value}{Q X:Value→Shared→Prop}{s:Shared}(hk:E.scope.kind=.function)(a:Acc E x p)(h:Holds s.heap p (some v))(q:Q v s):wpAny (model K.p K.w) A (loadName E x) Q X s:=by
 rcases a with ⟨a,rfl⟩|⟨a,c,hc,rfl⟩
 ·obtain ⟨m,hn,hm⟩:=h
  exact wpAny_loadName_local hk a hn hm q
 ·rcases a with a|⟨a,hn⟩
  ·exact wpAny_loadName_cell hk a hc h q
  ·exact wpAny_loadName_free hk a hc h q hn
theorem read_ok (G:Good K F A C E d)(i:Inv K F σ env){x:Str}{pos:Pos}{j:Nat}(hj:slotIx C x=some j):At K bb F A σ env (R:=R) (readM j) (eval (.Name x pos) E) (Val K F):=fun k X res e=>by
 obtain ⟨p,hp,a,hd⟩:=G.fok.slot x j hj
 obtain ⟨v,hv,hr⟩:=i.slots j p hp
 unfold readM at e
 cases hs:slotAt env j with
 | none=>rw[hs] at e; exact nS e
 | some sl =>
  rw[hs] at e hr
  cases sl with
  | pure y =>
   obtain ⟨w,rfl,rw'⟩:=hr
   exact wpAny_Name (load_at G.fok.kind a hv ⟨y,env,σ.ob,i,Ext.refl F σ,rw',e⟩) hd
  | own c =>
   obtain ⟨b,q,r⟩:=id hr
   subst q
   obtain ⟨ob',i',ex,rv⟩:=i.freeze hp hv hr
   exact wpAny_Name (load_at G.fok.kind a hv ⟨_,_,ob',i',ex,rv,e⟩) hd
theorem nm_ok (G:Good K F A C E d)(i:Inv K F σ env){x:Str}{pos:Pos}:At K bb F A σ env (R:=R) (nmM C x) (eval (.Name x pos) E) (Val K F):=by
 unfold nmM
 cases hg:isG C x with
 | true =>
  refine At.liftO fun av hq k X res e=>?_
  obtain ⟨hd,v,rv,hl⟩:=G.gok x av hq
  have hk:E.kindOf x=some .globalImplicit:=by
   unfold isG kindA at hg
   rw[lookS_eq,G.fok.sc] at hg
   show E.scope.names.lookup x=_
   revert hg
   cases E.scope.names.lookup x with
   | none=>exact fun q=>nT' q
   | some k=>cases k <;> first|exact fun q=>nT' q|exact fun J=>rfl
  exact Name_function_global G.fok.kind hk (hl E σ.s A _ _ G.fok.glb G.fok.blt i.old ⟨av,env,σ.ob,i,Ext.refl F σ,i.ofBase rv,e⟩) hd
 | false =>
  cases hj:slotIx C x with
  | none=>exact At.stuck
  | some j=>exact read_ok G i hj
end
section
variable {bb:Bool}{K:PW}{F:Fx}{A:Around}{C:Ctx}{E:Env}{d:Nat}{R α β:Type}{σ:St}{env:AEnv}
theorem At.operate {m:M R α}{t:Sem Value}{vs:List Value}{post:Value→α→St→Prop}(h:At K bb F A σ env m t post):At K bb F A σ env m (PySem.operate vs t) post :=
 fun k x res e=>wpAny_operating (h k x res e)
noncomputable def pairsOf (E:Env) (pos:Pos):List (Option PySem.Expr)→List PySem.Expr→List (Sem Value × Sem Value)
 | [],_=>[]
 | k::ks,vs=>match k with
  | none=>[]
  | some k=>match vs with
   | []=>[]
   | v::vs=>(eval k E,do let x ←eval v E; standAt pos; pure x)::pairsOf E pos ks vs
structure Snd (K:PW) (F:Fx) (A:Around) (C:Ctx) (E:Env) (n:Nat):Prop where
 ev:∀{bb:Bool} (R:Type) e σ env,Inv K F σ env→At (R:=R) K bb F A σ env (ev n C e) (eval e E) (Val K F)
 evO:∀{bb:Bool} (R:Type) e σ env,Inv K F σ env→At (R:=R) K bb F A σ env (evO n C e) (valueOrNone (evalOpt e E)) (fun v o J=>IsPart v o)
 evs:∀{bb:Bool} (R:Type) es pos σ env,Inv K F σ env→At (R:=R) K bb F A σ env (evs n C es) (spliced (backTo pos (starEach es E))) (fun vs xs σ=>RelL K σ.s.heap (Av F σ) vs xs)
 kws:∀{bb:Bool} (R:Type) ks pos σ env,Inv K F σ env→At (R:=R) K bb F A σ env (kws n C ks) (evalAll ((backToKw pos (keywordEach ks E)).map (fun x=>x.2)))
  (fun vs kw σ=>(keywordEach ks E).map (fun x=>x.1)=kw.map (fun x=>some x.1)∧RelL K σ.s.heap (Av F σ) vs (kw.map (fun x=>x.2)))
 prs:∀{bb:Bool} (R:Type) ks vs pos σ env,Inv K F σ env→At (R:=R) K bb F A σ env (prs n C ks vs) (evalPairs (pairsOf E pos ks vs)) (fun us ps σ=>∃kvs,Carries (PySem.strKind K.p K.w) us kvs∧RelD K σ.s.heap (Av F σ) kvs ps)
 evB:∀{bb:Bool} (R:Type) op es pos σ env,Inv K F σ env→At (R:=R) K bb F A σ env (evB n C op es) (boolOp pos op (evalEach es E)) (Val K F)
 chn:∀{bb:Bool} (R:Type) a va ops cs pos σ env,Inv K F σ env→VRel K σ.s.heap (Av F σ) va a →
  At (R:=R) K bb F A σ env (chn n C a ops cs) (compareChain pos va ops (markedEach ops cs (evalEach cs E))) (fun v b J=>v=.bool b) ∧
  At (R:=R) K bb F A σ env (chn n C a ops cs) (testChain pos va ops (markedEach ops cs (evalEach cs E))) (fun v b J=>v=b)
 tst:∀{bb:Bool} (R:Type) e σ env,Inv K F σ env→At (R:=R) K bb F A σ env (tst n C e) (isTrue e E (eval e E)) (fun v b J=>v=b)
 allT:∀{bb:Bool} (R:Type) op es σ env,Inv K F σ env→At (R:=R) K bb F A σ env (allT n C op es) (allTrue op es E) (fun v b J=>v=b)
theorem gives_end {t:Sem Value}(i:Inv K F σ env){o:Option AV}(h:∀c,o=some c→∀X,wpAny (model K.p K.w) A t (Gives K F σ c) X σ.s):At K bb F A σ env (R:=R) (bnd (liftO o) ret) t (Val K F) :=
 At.liftO fun c hc=>At.gives i (h c hc)
theorem constA_ok (i:Inv K F σ env){c:Const}{x1:Nat}{x2:Pos}{a:AV}(e:constA c=some a)(hE:E.scope.kind=.function):∀X,wpAny (model K.p K.w) A (eval (.Constant c x1 x2) E) (Gives K F σ a) X σ.s:=fun X=>by
 cases c with
 | none=>obtain rfl:=sI e; exact wpAny_pure (.same rfl)
 | bool b=>obtain rfl:=sI e; exact wpAny_pure (.same rfl)
 | int x=>obtain rfl:=sI e; exact wpAny_Constant_int (.toks ⟨_,rfl⟩)
 | str s=>obtain ⟨h,e⟩:=gdE e; obtain rfl:=sI e; exact Constant_str (.toks ⟨_,rfl,of_decide_eq_true h⟩)
 | bytes s=>obtain ⟨h,e⟩:=gdE e; obtain rfl:=sI e; exact Constant_bytes (.toks ⟨_,_,rfl,by simp,of_decide_eq_true h⟩)
 | _=>exact nS e
theorem IsPart.of (i:Inv K F σ env){a:AV}{o:Option Int}{v:Value}(e:partA a=some o)(r:VRel K σ.s.heap (Av F σ) v a):IsPart v o:=by
 cases a with
 | none=>subst r; obtain rfl:=sI e; exact .none
 | int x=>obtain ⟨t,rfl⟩:=r; obtain rfl:=sI e; exact .int _ t
 | _=>exact nS e
theorem arm_starEach_plain {e:PySem.Expr}{r:List PySem.Expr}(h:plainArg e=true):starEach (e::r) E=(false,eval e E)::starEach r E:=by
 cases e <;> first|rfl|exact nT' h
theorem evs_step {n:Nat}(S:Snd K F A C E n)(R:Type)(es:List PySem.Expr)(pos:Pos)(σ:St)(env:AEnv)(i:Inv K F σ env) :
  At (R:=R) K bb F A σ env (evs (n+1) C es) (spliced (backTo pos (starEach es E))) (fun vs xs σ=>RelL K σ.s.heap (Av F σ) vs xs):=by
 cases es with
 | nil=>exact At.ret i rfl
 | cons e r =>
  show At K bb F A σ env (match plainArg e with
   | true=>bnd (ev n C e) fun v=>bnd (evs n C r) fun vs=>ret (v::vs)
   | false=>stuck) _ _
  cases hp:plainArg e with
  | false=>exact At.stuck
  | true =>
   rw[arm_starEach_plain hp]
   show At K bb F A σ env (bnd (ev n C e) fun v=>bnd (evs n C r) fun vs=>ret (v::vs)) (spliced ((false,eval e E)::backTo pos (starEach r E))) _
   rw[spliced]
   refine At.bind (S.ev _ _ _ _ i) fun va a σ₁ env₁ i₁ ex₁ ra=>?_
   simp only[Bool.false_eq_true,if_false,pure_bind]
   refine At.bind (At.holding (S.evs _ _ _ _ _ i₁)) fun vs xs σ₂ env₂ i₂ ex₂ rs=>?_
   exact At.ret i₂ ⟨va,vs,rfl,VRel.ext ex₂ ra,rs⟩
theorem kws_step {n:Nat}(S:Snd K F A C E n)(R:Type)(ks:List Keyword)(pos:Pos)(σ:St)(env:AEnv)(i:Inv K F σ env) :
  At (R:=R) K bb F A σ env (kws (n+1) C ks) (evalAll ((backToKw pos (keywordEach ks E)).map (fun x=>x.2)))
  (fun vs kw σ=>(keywordEach ks E).map (fun x=>x.1)=kw.map (fun x=>some x.1)∧RelL K σ.s.heap (Av F σ) vs (kw.map (fun x=>x.2))):=by
 cases ks with
 | nil=>exact At.ret i ⟨rfl,rfl⟩
 | cons k r =>
  obtain ⟨nm,e,kp⟩:=k
  cases nm with
  | none=>exact At.stuck
  | some x =>
   show At K bb F A σ env (bnd (ev n C e) fun v=>bnd (kws n C r) fun vs=>ret ((x,v)::vs)) (evalAll ((do let v ←eval e E; standAt pos; pure v)::(backToKw pos (keywordEach r E)).map (fun x=>x.2))) _
   rw[evalAll]
   simp only[bind_assoc,pure_bind]
   refine At.bind (S.ev _ _ _ _ i) fun va a σ₁ env₁ i₁ ex₁ ra=>?_
   refine At.stand ?_
   refine At.bind (At.holding (S.kws _ _ _ _ _ i₁)) fun vs xs σ₂ env₂ i₂ ex₂ rs=>?_
   exact At.ret i₂ ⟨by show some x::_=some x::_; rw[rs.1],va,vs,rfl,VRel.ext ex₂ ra,rs.2⟩
theorem prs_step {n:Nat}(S:Snd K F A C E n)(R:Type)(ks:List (Option PySem.Expr))(vs:List PySem.Expr)(pos:Pos)(σ:St)(env:AEnv)(i:Inv K F σ env) :
  At (R:=R) K bb F A σ env (prs (n+1) C ks vs) (evalPairs (pairsOf E pos ks vs)) (fun us ps σ=>∃kvs,Carries (PySem.strKind K.p K.w) us kvs∧RelD K σ.s.heap (Av F σ) kvs ps):=by
 cases ks with
 | nil =>
  cases vs with
  | nil=>exact At.ret i ⟨[],trivial,rfl⟩
  | cons=>exact At.stuck
 | cons k ks =>
  cases k with
  | none=>exact At.stuck
  | some k =>
   cases vs with
   | nil=>exact At.stuck
   | cons v vs =>
    show At K bb F A σ env (bnd (ev n C k) fun a=>match a with
     | .str s=>bnd (ev n C v) fun b=>bnd (prs n C ks vs) fun r=>ret ((s,b)::r)
     | _=>stuck) (evalPairs ((eval k E,do let x ←eval v E; standAt pos; pure x)::pairsOf E pos ks vs)) _
    rw[evalPairs]
    refine At.bind (S.ev _ _ _ _ i) fun va a σ₁ env₁ i₁ ex₁ ra=>?_
    cases a with
    | str s =>
     obtain ⟨t,rfl,hl⟩:=ra
     show At K bb F A σ₁ env₁ _ (do
      let vv ←PySem.holding [.str s t] (do let x ←eval v E; standAt pos; pure x)
      return (.str s t,vv)::(←PySem.holding [.str s t,vv] (evalPairs (pairsOf E pos ks vs)))) _
     have hv:At K bb F A (R:=R) σ₁ env₁ (ev n C v) (PySem.holding [.str s t] (do let x ←eval v E; standAt pos; pure x)) (Val K F):=by
      refine At.holding ?_
      intro k X res q
      exact wpAny_bind (wpAny_mono (S.ev R v σ₁ env₁ i₁ k X res q) (fun b s' h=>wpAny_bind (wpAny_standAt (wpAny_pure h))) fun J J h=>h)
     refine At.bind hv fun vb b σ₂ env₂ i₂ ex₂ rb=>?_
     refine At.bind (At.holding (S.prs _ _ _ _ _ _ i₂)) fun us ps σ₃ env₃ i₃ ex₃ rs=>?_
     obtain ⟨kvs,hc,hr⟩:=rs
     exact At.ret i₃ ⟨(s,vb)::kvs,⟨strKind_is _ _ s t,rfl,hc⟩,vb,kvs,rfl,hl,VRel.ext ex₃ rb,hr⟩
    | _=>exact At.stuck
theorem evB_step {n:Nat}(S:Snd K F A C E n)(R:Type)(op:BoolOp)(es:List PySem.Expr)(pos:Pos)(σ:St)(env:AEnv)(i:Inv K F σ env) :
  At (R:=R) K bb F A σ env (evB (n+1) C op es) (boolOp pos op (evalEach es E)) (Val K F):=by
 cases es with
 | nil=>exact At.stuck
 | cons e r =>
  cases r with
  | nil=>exact S.ev _ _ _ _ i
  | cons e' r' =>
   show At K bb F A σ env (bnd (ev n C e) fun v=>bnd (liftO (truthA v)) fun t=>match op with
    | .And=>ifM t (evB n C op (e'::r')) (ret v)
    | .Or=>ifM t (ret v) (evB n C op (e'::r'))) (do
     let v ←eval e E
     standAt pos
     let t ←PySem.holding [v] (truthy v)
     match op,t with
     | .And,false|.Or,true=>pure v
     | _,_=>boolOp pos op (evalEach (e'::r') E)) _
   refine At.bind (S.ev _ _ _ _ i) fun va a σ₁ env₁ i₁ ex₁ ra=>?_
   refine At.stand ?_
   refine At.bind (truth_at i₁ ra) fun c' c σ₂ env₂ i₂ ex₂ hc=>?_
   subst hc
   cases op with
   | And =>
    cases c' with
    | true=>exact S.evB _ _ _ _ _ _ i₂
    | false=>exact At.ret i₂ (ra.ext ex₂)
   | Or =>
    cases c' with
    | true=>exact At.ret i₂ (ra.ext ex₂)
    | false=>exact S.evB _ _ _ _ _ _ i₂
theorem item_type {a:AV}(h:(∃b c,itemA a b=some c)∨∃x y c,sliceA a x y=some c){v:Value}(ra:RelB K σ.s.heap (Av F σ) (fun J=>False) v a) :
  ∃T id,typeLookup (.type T) "__getitem__"=pure (some (.builtin id))∧σ.s.TypeIs v T:=by
 cases a with
 | bytes b=>obtain ⟨x,t,rfl,_⟩:=ra; exact ⟨"bytes",_,FB.slot_bytes_getitem.lookup,typeIs_bytes _ _ _⟩
 | list b=>obtain ⟨x,t,rfl,_,hl,_⟩:=ra; exact ⟨"list",_,slot_list_getitem.lookup,hl.isList.typeIs⟩
 | tup b=>obtain ⟨x,t,rfl,_,hl,_⟩:=ra; exact ⟨"tuple",_,slot_tuple_getitem.lookup,hl.typeIs⟩
 | dict b=>obtain ⟨x,t,rfl,_,_,hl,_⟩:=ra; exact ⟨"dict",_,slot_dict_getitem.lookup,hl.typeIs⟩
 | _=>rcases h with ⟨b,c,h⟩|⟨x,y,c,h⟩ <;> exact nS h
theorem sub_eq (s:PySem.Expr)(v w:Value):∃vs,subscripted s false v w=PySem.operate vs (getItem v w):=by
 cases s with
 | Slice lo hi st p=>cases st <;> exact ⟨_,rfl⟩
 | _=>exact ⟨_,rfl⟩
theorem subs_tail (i:Inv K F σ env) {o s:PySem.Expr} {v w:Value} {c:AV} (hT:∃T id,typeLookup (.type T) "__getitem__"=pure (some (.builtin id))∧σ.s.TypeIs v T)
  (h:∀X,wpAny (model K.p K.w) A (getItem v w) (Gives K F σ c) X σ.s) :
  At K bb F A σ env (R:=R) (ret c) (do let r ←subscripted s (←getitemInPython v) v w; letTemporaryGo o v r; pure r) (Val K F):=by
 refine At.gives i fun X=>?_
 obtain ⟨T,id,hl,hT⟩:=hT
 rw[getitemInPython_of_ne hT.not_modules]
 have fin:∀vs,wpAny (model K.p K.w) A (PySem.operate vs (getItem v w)) (fun r s₃=>wpAny (model K.p K.w) A (letTemporaryGo o v r >>= fun J=>pure r) (Gives K F σ c) X s₃) X σ.s:=fun vs =>
  wpAny_operating (wpAny_mono (h X) (fun r s₃ h₃=>wpAny_bind (wpAny_letTemporaryGo (wpAny_pure h₃))) fun J J x=>x)
 refine wpAny_bind (wpAny_bind (wpAny_specialOf hT hl (wpAny_pure ?_)))
 obtain ⟨vs,e⟩:=sub_eq s v w
 rw[e]
 exact wpAny_bind (fin vs)
theorem slice_ok {n:Nat}(S:Snd K F A C E n)(R:Type)(lo hi:Option PySem.Expr)(sp:Pos)(σ:St)(env:AEnv)(i:Inv K F σ env) :
  At (R:=R) K bb F A σ env (bnd (evO n C lo) fun x=>bnd (evO n C hi) fun y=>ret (x,y)) (eval (.Slice lo hi none sp) E)
   (fun v p σ=>∃sl vl vu,v=.ref sl∧σ.s.heap.IsSliceOf sl vl vu .none∧IsPart vl p.1∧IsPart vu p.2):=by
 rw[arm_eval_Slice]
 refine At.bind (S.evO _ _ _ _ i) fun vl l σ₂ env₂ i₂ ex₂ rl=>?_
 refine At.bind (At.holding (S.evO _ _ _ _ i₂)) fun vu u σ₃ env₃ i₃ ex₃ ru=>?_
 intro k X res q
 refine wpAny_bind (wpAny_holding (wpAny_pure ?_))
 refine wpAny_newObj_type ?_ (by show 3≤sizeLine+2; decide)
 obtain ⟨i₄,ex₄⟩:=i₃.heap (n:=σ₃.s.toks) (push_keep (h:=σ₃.s.heap) (o:={ cls:=.type "slice",data:=.fields [vl,vu,Value.none].toArray }))
 exact ⟨(l,u),env₃,σ₃.ob,i₄,ex₄,⟨_,vl,vu,rfl,Heap.IsSliceOf.new _ _ _ _,rl,ru⟩,q⟩
theorem starEach_plain:∀{as:List PySem.Expr},as.all plainArg=true→∀pos,(backTo pos (starEach as E)).any (fun x=>x.1)=false
 | [],_,_=>rfl
 | e::r,h,pos=>by
  rw[List.all_cons,Bool.and_eq_true] at h
  rw[arm_starEach_plain h.1]
  show (false||(backTo pos (starEach r E)).any (fun x=>x.1))=false
  rw[starEach_plain h.2 pos]; rfl
theorem kws_named:∀{ks:List Keyword},ks.all named=true→∀pos,(backToKw pos (keywordEach ks E)).all (·.1.isSome)=true
 | [],_,_=>rfl
 | k::r,h,pos=>by
  obtain ⟨nm,e,kp⟩:=k
  rw[List.all_cons,Bool.and_eq_true] at h
  show (nm.isSome&&(backToKw pos (keywordEach r E)).all (·.1.isSome))=true
  rw[kws_named h.2 pos,Bool.and_true]
  exact h.1
theorem kws_names (ks:List Keyword)(pos:Pos):(backToKw pos (keywordEach ks E)).map (fun x=>x.1)=(keywordEach ks E).map (fun x=>x.1):=by
 unfold backToKw
 rw[List.map_map]; rfl
theorem filterMap_id {α β:Type}{l:List (Option α × β)}{ns:List α}(h:l.map (fun x=>x.1)=ns.map some):l.filterMap (fun x=>x.1)=ns:=by
 induction l generalizing ns with
 | nil=>cases ns with
  | nil=>rfl
  | cons=>injection h
 | cons x l ih =>
  cases ns with
  | nil=>injection h
  | cons n ns =>
   rw[List.map_cons,List.map_cons] at h
   injection h with h1 h2
   rw[List.filterMap_cons,h1]
   simp[ih h2]
theorem evalArgs_eq {f:Value}{l:List (Bool × Sem Value)}{kw:List (Option Str × Sem Value)}(h:l.any (fun x=>x.1)=false)(hk:kw.all (·.1.isSome)=true) :
  evalArgs f true l kw=(do
   let vs ←spliced l
   PySem.holding (vs++[]) (do
    let us ←evalAll (kw.map (fun x=>x.2))
    pure ⟨vs,(kw.filterMap (fun x=>x.1)).zip us⟩)):=by
 unfold evalArgs
 cases l with
 | nil =>
  simp only[hk,if_true,bind_assoc,pure_bind]
  rfl
 | cons x r =>
  obtain ⟨b,x⟩:=x
  cases b with
  | true=>exact nT h
  | false =>
   simp only[hk,if_true,bind_assoc,pure_bind]
   rfl
theorem args_ok {n:Nat}(S:Snd K F A C E n)(R:Type){f:Value}{as:List PySem.Expr}{ks:List Keyword}{pos:Pos}(i:Inv K F σ env)(hp:(as.all plainArg&&ks.all named)=true) :
  At (R:=R) K bb F A σ env (bnd (evs n C as) fun vs=>bnd (kws n C ks) fun kw=>ret (vs,kw)) (evalArgs f true (backTo pos (starEach as E)) (backToKw pos (keywordEach ks E)))
   (fun a p σ=>RelL K σ.s.heap (Av F σ) a.pos p.1∧RelK K σ.s.heap (Av F σ) a.kw p.2):=by
 rw[Bool.and_eq_true] at hp
 have e:evalArgs f true (backTo pos (starEach as E)) (backToKw pos (keywordEach ks E))=(do
   let vs ←spliced (backTo pos (starEach as E))
   PySem.holding (vs++[]) (do
    let us ←evalAll ((backToKw pos (keywordEach ks E)).map (fun x=>x.2))
    pure ⟨vs,((backToKw pos (keywordEach ks E)).filterMap (fun x=>x.1)).zip us⟩)):=evalArgs_eq (starEach_plain hp.1 pos) (kws_named hp.2 pos)
 rw[e]
 refine At.bind (S.evs _ _ _ _ _ i) fun vs xs σ₁ env₁ i₁ ex₁ rs=>?_
 refine At.holding (At.bind (S.kws _ _ _ _ _ i₁) fun us kw σ₂ env₂ i₂ ex₂ rk=>?_)
 refine At.ret i₂ ⟨RelL.ext ex₂ rs,?_⟩
 have hn:(backToKw pos (keywordEach ks E)).filterMap (fun x=>x.1)=kw.map (fun x=>x.1):=filterMap_id (by rw[kws_names,rk.1,List.map_map]; rfl)
 have hl:=RelL.length _ rk.2
 rw[List.length_map] at hl
 rw[hn]
 refine ⟨?_,?_⟩
 ·show (List.zip _ us).map Prod.fst=_
  rw[List.map_fst_zip (by rw[List.length_map,hl]; exact Nat.le_refl _)]
 ·show RelL K _ _ ((List.zip _ us).map Prod.snd) _
  rw[List.map_snd_zip (by rw[List.length_map,hl]; exact Nat.le_refl _)]
  exact rk.2
theorem callFn (G:Good K F A C E d){n:Nat}(S:Snd K F A C E n){a:Addr}{as:List PySem.Expr}{ks:List Keyword}{pos:Pos}(i:Inv K F σ env)(hp:(as.all plainArg&&ks.all named)=true) :
  At (R:=R) K bb F A σ env (bnd (evs n C as) fun vs=>bnd (kws n C ks) fun kw=>okO (C.call a vs kw)) (callWith pos (.ref a) [] (backTo pos (starEach as E)) (backToKw pos (keywordEach ks E))) (Val K F):=by
 have hp':=hp
 rw[Bool.and_eq_true] at hp'
 show At K bb F A σ env (bnd (bnd (evs n C as) fun vs=>bnd (kws n C ks) fun kw=>ret (vs,kw)) fun p=>okO (C.call a p.1 p.2)) _ _
 intro k X res q
 have hst:(backToKw pos (keywordEach ks E)).any (·.1.isNone)=false:=by
  have:=kws_named (E:=E) hp'.2 pos
  rw[Bool.eq_false_iff]
  intro h
  obtain ⟨x,hx,hx'⟩:=List.any_eq_true.mp h
  have:=List.all_eq_true.mp this x hx
  cases hq:x.1 with
  | none=>rw[hq] at this; exact nT' this
  | some y=>rw[hq] at hx'; exact nT' hx'
 refine callWith_of (P:=fun h=>∃o fd,h.get? a=some o∧o.data=.func fd) (by rw[starEach_plain hp'.1 pos,hst]; rfl) (fun h ⟨o,fd,ho,hd⟩=>⟨.frame,.inl rfl,(Looks.ld (part:=none) ho).andThen (by rw[hd]; exact .now)⟩) ?_
 refine wpAny_mono (args_ok S R (f:=.ref a) i hp (fun p e'=>okO (C.call a p.1 p.2) k X e') X res q) (fun ar s' ⟨p,env',ob',i',ex',⟨r1,r2⟩,q'⟩=>?_) fun J J h=>h
 cases hr:C.call a p.1 p.2 with
 | none=>rw[hr] at q'; exact nS q'
 | some r =>
  obtain ⟨o,fd,ho,hd⟩:=G.call.isfn _ _ _ _ hr
  refine ⟨⟨o,fd,i'.old _ _ ho,hd⟩,?_⟩
  exact wpAny_mono (G.call.run R F ⟨s',ob'⟩ env' a p.1 p.2 ar.pos ar.kw rfl i' r1 r2 k X res q') (fun J J=>Res.trans ex') fun J J=>Res.trans ex'
theorem callBi (G:Good K F A C E d){n:Nat}(S:Snd K F A C E n){b:Bn}{as:List PySem.Expr}{pos:Pos}(i:Inv K F σ env)(hp:as.all plainArg=true) :
  At (R:=R) K bb F A σ env (bnd (evs n C as) fun vs=>bnd (liftO (callB C b vs)) ret) (callWith pos b.val [] (backTo pos (starEach as E)) (backToKw pos (keywordEach [] E))) (Val K F):=by
 intro k X res q
 refine callWith_of (P:=fun h=>True) (by rw[starEach_plain hp pos]; rfl) (fun h J=>⟨.machine,.inr (.inl rfl),by cases b <;> exact Looks.of_pure rfl⟩) ?_
 rw[evalArgs_eq (starEach_plain hp pos) rfl]
 refine wpAny_bind (wpAny_mono (S.evs R as pos σ env i (fun vs e'=>bnd (liftO (callB C b vs)) ret k X e') X res q) (fun us s' ⟨vs,env',ob',i',ex',r,q'⟩=>?_) fun J J h=>h)
 refine wpAny_holding (wpAny_bind (wpAny_pure (wpAny_pure ⟨trivial,?_⟩)))
 have A1:At (R:=R) K bb F A ⟨s',ob'⟩ env' (bnd (liftO (callB C b vs)) ret) (PySem.call b.val us []) (Val K F):=gives_end i' fun c hc X=>callB_ok G.isa i' G.room.hd hc r X
 exact wpAny_mono (A1 k X res q') (fun J J=>Res.trans ex') fun J J=>Res.trans ex'
theorem starEach_plain' {as:List PySem.Expr}(h:as.all plainArg=true)(pos:Pos):(backTo pos (starEach as E)).all (!·.1)=true:=by
 have:=starEach_plain (E:=E) h pos
 rw[List.all_eq_true]
 intro x hx
 cases hq:x.1 with
 | false=>rfl
 | true=>rw[List.any_eq_false] at this; exact absurd hq (this x hx)
theorem base_whole {o:PySem.Expr}{m:Str}{t:Sem Value}(h:notCall o=true):attributeBase o m E t=t:=by
 cases o <;> first|rfl|exact nT' h
theorem callMt (G:Good K F A C E d){n:Nat}(S:Snd K F A C E n){o:PySem.Expr}{m:Str}{ap pos:Pos}{as:List PySem.Expr}{ks:List Keyword}(i:Inv K F σ env)
  (hp:(notCall o&&as.all plainArg&&ks.all named&&(ap.endLine == pos.line)&&decide (as.length+ks.length<28))=true) :
  At (R:=R) K bb F A σ env (bnd (ev n C o) fun v=>bnd (liftO (methOf v m)) fun mt=>bnd (evs n C as) fun vs=>bnd (kws n C ks) fun kw=>bnd (liftO (runMt C mt v vs kw)) ret) (eval (.Call (.Attribute o m ap) as ks pos) E) (Val K F):=by
 simp only[Bool.and_eq_true,decide_eq_true_eq] at hp
 obtain ⟨⟨⟨⟨h1,h2⟩,h3⟩,h4⟩,h5⟩:=hp
 rw[arm_eval_Call,base_whole h1]
 refine At.bind (S.ev _ _ _ _ i) fun u v σ₁ env₁ i₁ ex₁ r=>?_
 refine At.stand ?_
 refine At.liftO fun mt hm=>?_
 have hform:methodCallForm (as.length+ks.length) (backTo pos (starEach as E)) (backToKw pos (keywordEach ks E))=true:=by
  unfold methodCallForm
  rw[starEach_plain' h2,kws_named h3,Bool.true_and,Bool.true_and]
  refine decide_eq_true ?_
  split <;> lia
 unfold methodCall
 rw[hform]
 intro k X res q
 refine wpAny_bind (wpAny_holding ?_)
 show wpAny _ _ (getMethod u m _) _ _ _
 refine meth_ok i₁ hm r _ _ fun f first h' tk hk hb hx=>?_
 obtain ⟨i₂,ex₂⟩:=i₁.heap (n:=tk) hk
 have hpos:methodCallPos true o E ap pos=pure pos:=by unfold methodCallPos; simp[h4]
 refine wpAny_bind (wpAny_of_eq hpos ?_)
 have hst:(backToKw pos (keywordEach ks E)).any (·.1.isNone)=false:=by
  have:=kws_named (E:=E) h3 pos
  rw[Bool.eq_false_iff]
  intro h
  obtain ⟨x,hx,hx'⟩:=List.any_eq_true.mp h
  have:=List.all_eq_true.mp this x hx
  cases hq:x.1 with
  | none=>rw[hq] at this; exact nT' this
  | some y=>rw[hq] at hx'; exact nT' hx'
 refine callWith_of (P:=fun h=>Bound mt u f first h) (by rw[starEach_plain h2 pos,hst]; rfl) (fun h hb=>?_) ?_
 ·cases mt with
  | fromBytes=>obtain ⟨_,x,rfl,hx'⟩:=hb; exact ⟨.machine,.inr (.inl rfl),keep_bound hx'⟩
  | _=>obtain ⟨rfl,_⟩:=hb; exact ⟨.machine,.inr (.inl rfl),Looks.of_pure rfl⟩
 refine wpAny_mono (args_ok S R (f:=f) i₂ (by rw[h2,h3]; rfl) (fun p e'=>bnd (liftO (runMt C mt v p.1 p.2)) ret k X e') X res q) (fun ar s' ⟨p,env',ob',i',ex',⟨r1,r2⟩,q'⟩=>?_) fun J J=>Res.trans ex₂
 have hb':Bound mt u f first s'.heap:=by
  cases mt with
  | fromBytes =>
   obtain ⟨e1,x,e2,e3⟩:=hb
   have fr:=i₁.fresh (hx x rfl e2)
   exact ⟨e1,x,e2,ex'.keep x _ e3 (fun q=>fr (.inl q)) fun q=>fr (.inr (F.fru _ q))⟩
  | _=>exact hb
 refine ⟨hb',?_⟩
 have A1:At (R:=R) K bb F A ⟨s',ob'⟩ env' (bnd (liftO (runMt C mt v p.1 p.2)) ret) (PySem.call f (first++ar.pos) ar.kw) (Val K F):=gives_end i' fun c hc X=>runMt_ok G.dec i' G.room.hd hm hc hb' (VRel.ext (ex₂.trans ex') r) r1 r2 X
 exact wpAny_mono (A1 k X res q') (fun J J=>Res.trans (ex₂.trans ex')) fun J J=>Res.trans (ex₂.trans ex')
theorem evO_step {n:Nat}(S:Snd K F A C E n)(R:Type)(e:Option PySem.Expr)(σ:St)(env:AEnv)(i:Inv K F σ env):At (R:=R) K bb F A σ env (evO (n+1) C e) (valueOrNone (evalOpt e E)) (fun v o J=>IsPart v o):=by
 cases e with
 | none=>exact At.ret i .none
 | some e =>
  show At K bb F A σ env (bnd (ev n C e) fun a=>bnd (liftO (partA a)) ret) (eval e E) _
  intro k X res q
  refine wpAny_mono (S.ev R e σ env i (fun a e'=>bnd (liftO (partA a)) ret k X e') X res q) (fun v s' ⟨a,env',ob',i',ex',r,q'⟩=>?_) fun J J h=>h
  cases hp:partA a with
  | none=>simp only[hp] at q'; exact nS q'
  | some o =>
   have q'':k o env'=some res:=by simp only[hp] at q'; exact q'
   exact ⟨o,env',ob',i',ex',IsPart.of i' hp r,q''⟩
theorem behind {n:Nat}(S:Snd K F A C E n)(R:Type)(op:CmpOp)(c:PySem.Expr)(σ:St)(env:AEnv)(i:Inv K F σ env):At (R:=R) K bb F A σ env (ev n C c) (markedBehindIn op c (eval c E)) (Val K F):=by
 cases hb:behindInMarks op c with
 | false=>rw[markedBehindIn_of_false hb]; exact S.ev _ _ _ _ i
 | true =>
  cases c with
  | Set elts k p =>
   cases n with
   | zero=>exact At.stuck
   | succ n=>exact At.stuck
  | _=>exact nT' hb
theorem chn_step (G:Good K F A C E d){n:Nat}(S:Snd K F A C E n)(R:Type)(a:AV)(va:Value)(ops:List CmpOp)(cs:List PySem.Expr)(pos:Pos)(σ:St)(env:AEnv)(i:Inv K F σ env)(ra:VRel K σ.s.heap (Av F σ) va a) :
  At (R:=R) K bb F A σ env (chn (n+1) C a ops cs) (compareChain pos va ops (markedEach ops cs (evalEach cs E))) (fun v b J=>v=.bool b) ∧
  At (R:=R) K bb F A σ env (chn (n+1) C a ops cs) (testChain pos va ops (markedEach ops cs (evalEach cs E))) (fun v b J=>v=b):=by
 have hu:=G.room.u
 cases ops with
 | nil=>exact ⟨At.stuck,At.stuck⟩
 | cons op or =>
  cases cs with
  | nil=>exact ⟨At.stuck,At.stuck⟩
  | cons c cr =>
   cases or with
   | nil =>
    cases cr with
    | cons c' cr =>
     exact ⟨At.stuck,At.stuck⟩
    | nil =>
     have e:(chn (n+1) C a [op] [c]:M R Bool)=bnd (ev n C c) fun b=>bnd (liftO (cmpA op a b)) fun t=>ret t:=rfl
     rw[e]
     constructor
     ·show At K bb F A σ env _ (do
       let rv ←PySem.holding [va] (markedBehindIn op c (eval c E))
       standAt pos
       PySem.operate [va,rv] (compareOp op va rv)) _
      refine At.bind (At.holding (behind S R op c _ _ i)) fun vb b σ₁ env₁ i₁ ex₁ rb=>?_
      refine At.stand (At.operate ?_)
      refine At.liftO fun t ht=>At.leaf fun X=>wpAny_mono (cmpA_ok i₁ hu ht (VRel.ext ex₁ ra) rb X) (fun v s' ⟨hv,tk,hs⟩=>?_) fun J J h=>h
      subst hs
      obtain ⟨i₂,ex₂⟩:=i₁.toks tk
      exact ⟨σ₁.ob,i₂,ex₂,hv⟩
     ·show At K bb F A σ env _ (do
       let rv ←PySem.holding [va] (markedBehindIn op c (eval c E))
       standAt pos
       let c ←PySem.operate [va,rv] (compareOp op va rv)
       PySem.holding [c] (truthy c)) _
      refine At.bind (At.holding (behind S R op c _ _ i)) fun vb b σ₁ env₁ i₁ ex₁ rb=>?_
      refine At.stand ?_
      refine At.liftO fun t ht=>At.leaf fun X=>wpAny_bind (wpAny_operating (wpAny_mono (cmpA_ok i₁ hu ht (VRel.ext ex₁ ra) rb _) (fun v s' ⟨hv,tk,hs⟩=>?_) fun J J h=>h))
      subst hs hv
      obtain ⟨i₂,ex₂⟩:=i₁.toks tk
      exact wpAny_holding (wpAny_truthy_bool ⟨σ₁.ob,i₂,ex₂,rfl⟩)
   | cons op' or =>
    have e:(chn (n+1) C a (op::op'::or) (c::cr):M R Bool)=bnd (ev n C c) fun b=>bnd (liftO (cmpA op a b)) fun t=>ifM t (chn n C b (op'::or) cr) (ret false):=rfl
    rw[e]
    constructor
    ·show At K bb F A σ env _ (do
       let rv ←PySem.holding [va] (eval c E)
       standAt pos
       let c ←PySem.holding [va,rv] (compareOp op va rv)
       release [va,rv] [c]
       if ←PySem.holding [c,rv] (truthy c) then compareChain pos rv (op'::or) (markedEach (op'::or) cr (evalEach cr E)) else pure c) _
     refine At.bind (At.holding (S.ev _ _ _ _ i)) fun vb b σ₁ env₁ i₁ ex₁ rb=>?_
     refine At.stand ?_
     refine At.liftO fun t ht k X res q=>wpAny_bind (wpAny_holding (wpAny_mono (cmpA_ok i₁ hu ht (VRel.ext ex₁ ra) rb _) (fun v s' ⟨hv,tk,hs⟩=>?_) fun J J h=>h))
     subst hs hv
     obtain ⟨i₂,ex₂⟩:=i₁.toks tk
     refine wpAny_bind (wpAny_release ?_)
     refine wpAny_bind (wpAny_holding (wpAny_truthy_bool ?_))
     cases t with
     | false=>exact wpAny_pure ⟨false,env₁,σ₁.ob,i₂,ex₂,rfl,q⟩
     | true =>
      refine wpAny_mono ((S.chn R b vb (op'::or) cr pos ⟨_,σ₁.ob⟩ env₁ i₂ (VRel.ext ex₂ rb)).1 k X res q) (fun J J=>Res.trans ex₂) fun J J=>Res.trans ex₂
    ·show At K bb F A σ env _ (do
       let rv ←PySem.holding [va] (eval c E)
       standAt pos
       let c ←PySem.holding [va,rv] (compareOp op va rv)
       release [va,rv] [c]
       if ←PySem.holding [c,rv] (truthy c) then testChain pos rv (op'::or) (markedEach (op'::or) cr (evalEach cr E)) else pure false) _
     refine At.bind (At.holding (S.ev _ _ _ _ i)) fun vb b σ₁ env₁ i₁ ex₁ rb=>?_
     refine At.stand ?_
     refine At.liftO fun t ht k X res q=>wpAny_bind (wpAny_holding (wpAny_mono (cmpA_ok i₁ hu ht (VRel.ext ex₁ ra) rb _) (fun v s' ⟨hv,tk,hs⟩=>?_) fun J J h=>h))
     subst hs hv
     obtain ⟨i₂,ex₂⟩:=i₁.toks tk
     refine wpAny_bind (wpAny_release ?_)
     refine wpAny_bind (wpAny_holding (wpAny_truthy_bool ?_))
     cases t with
     | false=>exact wpAny_pure ⟨false,env₁,σ₁.ob,i₂,ex₂,rfl,q⟩
     | true =>
      refine wpAny_mono ((S.chn R b vb (op'::or) cr pos ⟨_,σ₁.ob⟩ env₁ i₂ (VRel.ext ex₂ rb)).2 k X res q) (fun J J=>Res.trans ex₂) fun J J=>Res.trans ex₂
theorem allT_step {n:Nat}(S:Snd K F A C E n)(R:Type)(op:BoolOp)(es:List PySem.Expr)(σ:St)(env:AEnv)(i:Inv K F σ env):At (R:=R) K bb F A σ env (allT (n+1) C op es) (allTrue op es E) (fun v b J=>v=b):=by
 cases es with
 | nil=>cases op <;> exact At.ret i rfl
 | cons e r =>
  cases op with
  | And =>
   show At K bb F A σ env (bnd (tst n C e) fun b=>ifM b (allT n C .And r) (ret false)) _ _
   rw[arm_allTrue_cons]
   refine At.bind (S.tst _ _ _ _ i) fun v b σ₁ env₁ i₁ ex₁ hv=>?_
   subst hv
   cases v with
   | true=>exact S.allT _ _ _ _ _ i₁
   | false=>exact At.ret i₁ rfl
  | Or =>
   show At K bb F A σ env (bnd (tst n C e) fun b=>ifM b (ret true) (allT n C .Or r)) _ _
   rw[arm_allTrue_cons]
   refine At.bind (S.tst _ _ _ _ i) fun v b σ₁ env₁ i₁ ex₁ hv=>?_
   subst hv
   cases v with
   | true=>exact At.ret i₁ rfl
   | false=>exact S.allT _ _ _ _ _ i₁
theorem truth_tail {n:Nat}(S:Snd K F A C E n)(R:Type)(e:PySem.Expr)(σ:St)(env:AEnv)(i:Inv K F σ env):At (R:=R) K bb F A σ env (bnd (ev n C e) fun v=>liftO (truthA v)) (do
  let v ←eval e E
  standAt e.pos
  PySem.holding [v] (truthy v)) (fun v b J=>v=b):=by
 refine At.bind (S.ev _ _ _ _ i) fun va a σ₁ env₁ i₁ ex₁ ra=>?_
 exact At.stand (truth_at i₁ ra)
theorem tst_step {n:Nat}(S:Snd K F A C E n)(R:Type)(e:PySem.Expr)(σ:St)(env:AEnv)(i:Inv K F σ env):At (R:=R) K bb F A σ env (tst (n+1) C e) (isTrue e E (eval e E)) (fun v b J=>v=b):=by
 cases e with
 | UnaryOp op x pos =>
  cases op with
  | Not =>
   show At K bb F A σ env (bnd (tst n C x) fun b=>ret (!b)) _ _
   rw[arm_isTrue_UnaryOp]
   refine At.bind (S.tst _ _ _ _ i) fun v b σ₁ env₁ i₁ ex₁ hv=>?_
   subst hv
   exact At.ret i₁ rfl
  | _=>exact At.stuck
 | BoolOp op vs pos=>exact S.allT _ _ _ _ _ i
 | IfExp t a b pos =>
  show At K bb F A σ env (bnd (tst n C t) fun c=>ifM c (tst n C a) (tst n C b)) _ _
  rw[arm_isTrue_IfExp]
  refine At.bind (S.tst _ _ _ _ i) fun v c σ₁ env₁ i₁ ex₁ hv=>?_
  subst hv
  exact At.ifM (fun J=>S.tst _ _ _ _ i₁) (fun J=>S.tst _ _ _ _ i₁)
 | Compare l ops cs pos =>
  show At K bb F A σ env (bnd (ev n C l) fun a=>chn n C a ops cs) _ _
  rw[arm_isTrue_Compare]
  exact At.bind (S.ev _ _ _ _ i) fun va a σ₁ env₁ i₁ ex₁ ra=>(S.chn _ _ _ _ _ _ _ _ i₁ ra).2
 | Name x p=>exact truth_tail S R _ _ _ i
 | Call f as ks p=>exact truth_tail S R _ _ _ i
 | _=>exact At.stuck
end
section
variable {bb:Bool}{K:PW}{F:Fx}{A:Around}{C:Ctx}{E:Env}{d:Nat}{R:Type}{σ:St}{env:AEnv}
theorem Inv.change (i:Inv K F σ env){W:Addr}{j:Nat}{x:Option Slot}{h':Heap}{tk:Nat}(own:Own F σ W)(hs:∀a,a≠W→h'.get? a=σ.s.heap.get? a)(hw:∃o,h'.get? W=some o)
  (hj:∀p,F.pl[j]?=some p→Ext bb F σ ⟨{ σ.s with heap:=h',toks:=tk },σ.ob⟩→∃v,Holds h' p v∧SlotRel K F ⟨{ σ.s with heap:=h',toks:=tk },σ.ob⟩ j v x)
  (ho:∀k p v,k≠j→F.pl[k]?=some p→Holds σ.s.heap p v→Holds h' p v) (hob:∀k a,k≠j→(k,a)∈σ.ob→a≠W) :
  Inv K F ⟨{ σ.s with heap:=h',toks:=tk },σ.ob⟩ (setSlot env j x)∧Ext bb F σ ⟨{ σ.s with heap:=h',toks:=tk },σ.ob⟩:=by
 have nW:¬F.up W:=i.upd _ own
 have there:∀a o,σ.s.heap.get? a=some o→∃o',h'.get? a=some o':=fun a o e=>by
  by_cases q:a=W
  ·rw[q]; exact hw
  ·exact ⟨o,(hs a q).trans e⟩
 have ex:Ext bb F σ ⟨{ σ.s with heap:=h',toks:=tk },σ.ob⟩:=⟨fun a o e na J=>(hs a fun q=>na (q▸own)).trans e,fun a o e f=>⟨o.slots,(hs a fun q=>nW (q▸F.fru _ f)).trans e⟩,
  fun y hy=>.inl (.inr (List.mem_map_of_mem hy)),fun J J h=>h,fun J h J=>h,rfl,there,fun J J e=>e⟩
 refine ⟨⟨by rw[setSlot_length]; exact i.len,fun k q hq=>?_,i.pln,i.obn,i.obu,i.obp,i.upd,fun a q=>let ⟨o,e⟩:=i.dom a q; there a o e,i.new,fun a o e=>?_,i.gens⟩,ex⟩
 ·by_cases hk:k=j
  ·subst hk
   obtain ⟨v,hv,r⟩:=hj q hq ex
   rw[slotAt_set_self (i.slotLt hq)]
   exact ⟨v,hv,r⟩
  ·rw[slotAt_set_ne hk]
   obtain ⟨u,hu,hr⟩:=i.slots k q hq
   exact ⟨u,ho k q u hk hq hu,hr.kp ex.hst fun a m=>⟨m,fun o e=>(hs a (hob k a hk m)).trans e⟩⟩
 ·refine (hs a fun q=>?_).trans (i.old a o e)
  have:=i.new W (.inl own)
  rw[q,this] at e; exact nS e
theorem pl_ne (i:Inv K F σ env){j k:Nat}{p q:Place}(hp:F.pl[j]?=some p)(hq:F.pl[k]?=some q)(hk:k≠j):q≠p:=fun e=>by
 subst e
 have h1:=List.getElem?_eq_some_iff.mp hq
 have h2:=List.getElem?_eq_some_iff.mp hp
 have hw:=List.pairwise_iff_getElem.mp i.pln
 rcases Nat.lt_or_gt_of_ne hk with hlt|hlt
 ·exact hw k j h1.1 h2.1 hlt (h1.2.trans h2.2.symm)
 ·exact hw j k h2.1 h1.1 hlt (h2.2.trans h1.2.symm)
theorem Inv.write (i:Inv K F σ env){j:Nat}{p:Place}{v:Value}{x:Slot}{h':Heap}{tk:Nat}(hp:F.pl[j]?=some p)(r:Ext bb F σ ⟨{ σ.s with heap:=h',toks:=tk },σ.ob⟩→SlotRel K F ⟨{ σ.s with heap:=h',toks:=tk },σ.ob⟩ j (some v) (some x))(hs:∀a,a≠p.addr→h'.get? a=σ.s.heap.get? a)
  (hh:Holds h' p (some v)) (ho:∀q w,q≠p→q.addr=p.addr→Holds σ.s.heap q w→Holds h' q w) :
  Inv K F ⟨{ σ.s with heap:=h',toks:=tk },σ.ob⟩ (setSlot env j (some x))∧Ext bb F σ ⟨{ σ.s with heap:=h',toks:=tk },σ.ob⟩:=by
 have hpm:Pl F p.addr:=.inr ⟨p,List.mem_of_getElem? hp,rfl⟩
 refine i.change (.inl hpm) hs hh.some (fun q hq ex=>?_) (fun k q u hk hq hu=>?_) fun k a J m e=>i.obp _ m (by show Pl F a; rw[e]; exact hpm)
 ·rw[hp] at hq; obtain rfl:=sI hq
  exact ⟨_,hh,r ex⟩
 ·by_cases e:q.addr=p.addr
  ·exact ho q u (pl_ne i hp hq hk) e hu
  ·exact hu.at fun o eo=>(hs _ e).trans eo
theorem store_gen (G:Good K F A C E d)(i:Inv K F σ env){x:Str}{j:Nat}{v:Value}{a:Slot}(hj:slotIx C x=some j)(hnf:E.kindOf x≠some .free)
  (r:∀p h' tk,F.pl[j]?=some p→(∀a,a≠p.addr→h'.get? a=σ.s.heap.get? a)→Ext bb F σ ⟨{ σ.s with heap:=h',toks:=tk },σ.ob⟩→SlotRel K F ⟨{ σ.s with heap:=h',toks:=tk },σ.ob⟩ j (some v) (some a)) :
  At K bb F A σ env (R:=R) (fun k J e=>k () (setSlot e j (some a))) (storeName E x v) (fun J J J=>True):=fun k X res e=>by
 obtain ⟨p,hp,acc,hd⟩:=G.fok.slot x j hj
 obtain ⟨w,hv,hr⟩:=i.slots j p hp
 rcases acc with ⟨hk,rfl⟩|⟨hk,c,hc,rfl⟩
 ·obtain ⟨m,hn,hm⟩:=hv
  refine wpAny_storeName_local hk hn (fun h' hn' hs'=>?_) (by show (E.scope.kind == .class||(E.scope.kind == .module&&E.locals != E.globals))=false; rw[G.fok.kind]; rfl)
  obtain ⟨i',ex⟩:=i.write (tk:=σ.s.toks+1) hp (r _ _ _ hp (fun b hb=>hs'.2 b hb)) (fun b hb=>hs'.2 b hb) ⟨_,hn',by simp⟩ (fun q u hne ha hu=>by
   cases q with
   | ns L y =>
    have:L=E.locals:=ha
    subst this
    obtain ⟨m₂,hn₂,rfl⟩:=hu
    refine ⟨_,hn',?_⟩
    have:y≠x:=fun e=>hne (by rw[e])
    simp only[this,if_false]
    exact Ns_unique hn hn₂ y
   | cell c =>
    have:c=E.locals:=ha
    subst this
    obtain ⟨o,ho,hd⟩:=hu
    obtain ⟨o',es,ep,ho',hd',_⟩:=hn
    rw[ho] at ho'; obtain rfl:=sI ho'
    rw[hd] at hd'; injection hd')
  exact ⟨(),_,σ.ob,i',ex,trivial,e⟩
 ·rcases hk with hk|⟨hk,_⟩
  ·refine wpAny_storeName_cell G.fok.kind hk hc hv fun h' hv' hs'=>?_
   obtain ⟨i',ex⟩:=i.write (tk:=σ.s.toks) hp (r _ _ _ hp (fun b hb=>hs'.2 b hb)) (fun b hb=>hs'.2 b hb) hv' (fun q u hne ha hu=>by
    cases q with
    | ns L y =>
     have:L=c:=ha
     subst this
     obtain ⟨m,⟨o',es,ep,ho',hd',_⟩,_⟩:=hu
     obtain ⟨o,ho,hd⟩:=hv
     rw[ho] at ho'; obtain rfl:=sI ho'
     rw[hd] at hd'; injection hd'
    | cell c' =>
     have:c'=c:=ha
     subst this
     exact absurd rfl hne)
   exact ⟨(),_,σ.ob,i',ex,trivial,e⟩
  ·exact absurd hk hnf
theorem store_ok (G:Good K F A C E d)(i:Inv K F σ env){x:Str}{j:Nat}{v:Value}{a:AV}(hj:slotIx C x=some j)(hnf:E.kindOf x≠some .free)(r:VRel K σ.s.heap (Av F σ) v a) :
 At K bb F A σ env (R:=R) (storeM j a) (storeName E x v) (fun J J J=>True):=store_gen G i hj hnf fun p h' tk J J ex=>⟨v,rfl,r.ext ex⟩
theorem storeOwn_ok (G:Good K F A C E d)(i:Inv K F σ env){x:Str}{j:Nat}{b:Addr}{c:OC}(hj:slotIx C x=some j)(hnf:E.kindOf x≠some .free)(hm:(j,b)∈σ.ob)(r:ORel K σ.s.heap (Av F σ) b c) :
  At K bb F A σ env (R:=R) (putM j c) (storeName E x (.ref b)) (fun J J J=>True):=store_gen G i hj hnf fun p h' tk hp hs ex=>by
 have hb:b≠p.addr:=fun q=>i.obp _ hm (.inr ⟨p,List.mem_of_getElem? hp,q.symm⟩)
 exact ⟨b,rfl,hm,r.kp ex.hst fun o eo=>(hs b hb).trans eo⟩
theorem Inv.adopt (i:Inv K F σ env){j:Nat}{o:Obj}{c:OC}(hf:o.isFreed=false)(hj:∀c,slotAt env j≠some (.own c))(hfx:j∉F.fix)(hr:∀h A',Hst σ.s.heap (Av F σ) h A'→h.get? σ.s.heap.objs.size=some o→ORel K h A' σ.s.heap.objs.size c) :
  ∃ob',Inv K F ⟨{ σ.s with heap:=σ.s.heap.push o },ob'⟩ env∧Ext false F σ ⟨{ σ.s with heap:=σ.s.heap.push o },ob'⟩∧(j,σ.s.heap.objs.size)∈ob' ∧
   ORel K (σ.s.heap.push o) (Av F ⟨{ σ.s with heap:=σ.s.heap.push o },ob'⟩) σ.s.heap.objs.size c:=by
 have fr:=i.fresh (get_size σ.s.heap)
 have hn:(σ.s.heap.push o).get? σ.s.heap.objs.size=some o:=Heap.get?_push_size _ hf
 have own:∀a,Own F ⟨{ σ.s with heap:=σ.s.heap.push o },(j,σ.s.heap.objs.size)::offJ σ.ob j⟩ a→Own F σ a∨a=σ.s.heap.objs.size:=by
  rintro a (q|q)
  ·exact .inl (.inl q)
  ·cases q with
   | head=>exact .inr rfl
   | tail _ q=>exact .inl (own_off (s:=σ.s) (.inr q))
 have av:∀a,Av F ⟨{ σ.s with heap:=σ.s.heap.push o },(j,σ.s.heap.objs.size)::offJ σ.ob j⟩ a→Av F σ a∨a=σ.s.heap.objs.size:=fun a q=>q.elim (fun q=>(own a q).elim (fun q=>.inl (.inl q)) .inr) fun q=>.inl (.inr q)
 have ex:Ext false F σ ⟨{ σ.s with heap:=σ.s.heap.push o },(j,σ.s.heap.objs.size)::offJ σ.ob j⟩:=⟨fun a x e J J=>push_keep a x e,fun a x e J=>⟨x.slots,push_keep a x e⟩,fun x hx=>by
  cases hx with
  | head=>exact .inr (get_size _)
  | tail _ hx=>exact .inl (.inr (List.mem_map_of_mem (offJ_mem.mp hx).1)),nofun,fun x hx hf=>by
  cases hx with
  | head=>exact absurd hf hfx
  | tail _ hx=>exact (offJ_mem.mp hx).1,rfl,fun a x e=>⟨x,push_keep a x e⟩,fun J J e=>e⟩
 refine ⟨_,⟨i.len,fun k p hp=>?_,i.pln,?_,?_,?_,?_,?_,?_,fun a x e=>push_keep a x (i.old a x e),i.gens⟩,ex,.head _,hr _ _ ex.hst hn⟩
 ·obtain ⟨v,hv,r⟩:=i.slots k p hp
  refine ⟨v,hv.at fun x e=>push_keep _ x e,?_⟩
  by_cases hk:k=j
  ·subst hk
   cases hq:slotAt env k with
   | none=>rw[hq] at r; exact r
   | some sl =>
    rw[hq] at r
    cases sl with
    | pure x=>obtain ⟨w,e,r⟩:=r; exact ⟨w,e,r.ext ex⟩
    | own c=>exact absurd hq (hj c)
  ·exact r.kp ex.hst fun a m=>⟨.tail _ (offJ_mem.mpr ⟨m,hk⟩),fun x e=>push_keep a x e⟩
 ·show (σ.s.heap.objs.size::(offJ σ.ob j).map (fun x=>x.2)).Nodup
  exact List.nodup_cons.mpr ⟨fun q=>fr (.inl (own_off (s:=σ.s) (.inr q))),List.Sublist.nodup (List.Sublist.map _ List.filter_sublist) i.obn⟩
 ·show (j::(offJ σ.ob j).map (fun x=>x.1)).Nodup
  refine List.nodup_cons.mpr ⟨fun q=>?_,List.Sublist.nodup (List.Sublist.map _ List.filter_sublist) i.obu⟩
  obtain ⟨y,hy,e⟩:=List.mem_map.mp q
  exact (offJ_mem.mp hy).2 e
 ·intro x hx
  cases hx with
  | head=>exact fun q=>fr (.inl (.inl q))
  | tail _ hx=>exact i.obp x (offJ_mem.mp hx).1
 ·intro a q
  rcases own a q with q|rfl
  ·exact i.upd a q
  ·exact fun q=>fr (.inr q)
 ·intro a q
  rcases av a q with q|rfl
  ·obtain ⟨x,e⟩:=i.dom a q; exact ⟨x,push_keep _ _ e⟩
  ·exact ⟨o,hn⟩
 ·intro a q
  rcases av a q with q|rfl
  ·exact i.new a q
  ·cases e:F.base.get? σ.s.heap.objs.size with
   | none=>rfl
   | some x=>have:=i.old _ _ e; rw[get_size] at this; exact nS this
end
section
variable {bb:Bool}{K:PW}{F:Fx}{A:Around}{C:Ctx}{E:Env}{d:Nat}{R:Type}{σ:St}{env:AEnv}
theorem storeIx_ok (G:Good K F A C E d){x:Str}{j:Nat}(h:storeIx C x=some j):slotIx C x=some j∧E.kindOf x≠some .free:=by
 unfold storeIx at h
 have hk:E.kindOf x=kindA C x:=by
  unfold kindA Env.kindOf
  rw[lookS_eq,G.fok.sc]
 unfold slotIx isSlot
 rw[hk]
 cases q:kindA C x with
 | none=>rw[q] at h; exact nS h
 | some k =>
  rw[q] at h
  cases k with
  | «local»=>exact ⟨h,nofun⟩
  | cell=>exact ⟨h,nofun⟩
  | _=>exact nS h
theorem bindName_ok (G:Good K F A C E d)(i:Inv K F σ env){x:Str}{j:Nat}{v:Value}{a:AV}(hj:storeIx C x=some j)(r:VRel K σ.s.heap (Av F σ) v a) :
  At K bb F A σ env (R:=R) (storeM j a) (bindName E x v) (fun J J J=>True):=fun k X res e=>by
 obtain ⟨h1,h2⟩:=storeIx_ok G hj
 exact wpAny_bindName (store_ok G i h1 h2 r k X res e)
theorem nameOf_ok {t:PySem.Expr}{x:Str}(h:nameOf t=some x):∃p,t=.Name x p:=by
 cases t <;> cases h
 exact ⟨_,rfl⟩
theorem stNames_ok (G:Good K F A C E d):∀(ts:List PySem.Expr) {vs:List AV} {us:List Value} {σ:St} {env:AEnv},Inv K F σ env→RelL K σ.s.heap (Av F σ) us vs →
  At K bb F A σ env (R:=R) (stNames C ts vs) (assignInOrder ((assignEach ts E).map (fun x=>x.2)) us) (fun J J J=>True)
 | [],vs,us,σ,env,i,r=>by
  cases vs with
  | nil=>subst r; exact At.ret i trivial
  | cons=>exact At.stuck
 | t::ts,vs,us,σ,env,i,r=>by
  cases vs with
  | nil =>
   have e:(stNames C (t::ts) []:M R Unit)=stuck:=by
    unfold stNames
    cases nameOf t with
    | none=>rfl
    | some x=>dsimp only; cases storeIx C x <;> rfl
   rw[e]; exact At.stuck
  | cons v vs =>
   obtain ⟨u,us',rfl,h1,h2⟩:=r
   unfold stNames
   dsimp only
   cases hn:nameOf t with
   | none=>exact At.stuck
   | some x =>
    dsimp only
    cases hj:storeIx C x with
    | none=>exact At.stuck
    | some j =>
     obtain ⟨p,rfl⟩:=nameOf_ok hn
     show At K bb F A σ env (bnd (storeM j v) fun J=>stNames C ts vs) (do PySem.holding us' (do standAt p; bindName E x u); assignInOrder ((assignEach ts E).map (fun x=>x.2)) us') _
     refine At.bind (At.holding (At.stand (bindName_ok G i hj h1))) fun J J σ₁ env₁ i₁ ex₁ J=>?_
     exact stNames_ok G ts i₁ (RelL.ext ex₁ h2)
theorem assignEach_names:∀{ts:List PySem.Expr},ts.all isNameT=true→(assignEach ts E).findIdx? (fun x=>x.1)=none∧(assignEach ts E).length=ts.length
 | [],_=>⟨rfl,rfl⟩
 | t::ts,h=>by
  rw[List.all_cons,Bool.and_eq_true] at h
  obtain ⟨h1,h2⟩:=assignEach_names (ts:=ts) h.2
  cases t with
  | Name x p =>
   show ((false,assign (.Name x p) E)::assignEach ts E).findIdx? (fun x=>x.1)=none∧((false,assign (.Name x p) E)::assignEach ts E).length=_
   rw[List.findIdx?_cons]
   simp[h1,h2]
  | _=>cases h.1
theorem IRel.of {t:PySem.Expr}{h:Heap}{A:Addr→Prop}{v:Value}{x:AV}(r:VRel K h A v x):IRel K t h A v x:=by
 cases t with
 | Tuple=>exact RelB.un r
 | _=>exact r
theorem unpack_list {prog:Program}{w:World}{X:Value→Shared→Prop}{s:Shared}{t:Addr}{items:Array Value}{targets:List (Bool × (Value→Sem Unit))}{Q:Unit→Shared→Prop}(hh:A.handled=none)(ht:s.heap.IsList t items)
  (hn:targets.length=items.size) (hstar:targets.findIdx? (fun x=>x.1)=none)
  (h:∀h',Heap.ExtBut s.heap.objs.size s.heap h'→wpAny (model prog w) A (assignInOrder (targets.map (fun x=>x.2)) items.toList) Q X { s with heap:=h' }) :
  wpAny (model prog w) A (unpack (.ref t) targets) Q X s:=by
 unfold unpack
 rw[hn,hstar]
 exact wpAny_bind (wpAny_holding (PySem.W.kun_itemsOf hh ht h))
theorem asg_seq {C:Ctx}{R:Type}(ts:List PySem.Expr)(k:Nat)(p:Pos)(vs:List AV):(asg C (.Tuple ts k p) (.tup vs):M R Unit)=(match ts.all isNameT&&decide (ts.length=vs.length) with
   | true=>stNames C ts vs
   | false=>stuck)∧(asg C (.Tuple ts k p) (.list vs):M R Unit)=(match ts.all isNameT&&decide (ts.length=vs.length) with
   | true=>stNames C ts vs
   | false=>stuck):=by
 unfold asg
 dsimp only
 cases ts.all isNameT with
 | false=>exact ⟨rfl,rfl⟩
 | true =>
  dsimp only[Bool.true_and]
  cases decide (ts.length=vs.length) <;> exact ⟨rfl,rfl⟩
theorem asg_none {C:Ctx}{R:Type}(ts:List PySem.Expr)(k:Nat)(p:Pos){v:AV}(n1:∀vs,v≠.tup vs)(n2:∀vs,v≠.list vs):(asg C (.Tuple ts k p) v:M R Unit)=stuck:=by
 unfold asg
 dsimp only
 cases ts.all isNameT with
 | false=>rfl
 | true =>
  cases v with
  | tup vs=>exact absurd rfl (n1 vs)
  | list vs=>exact absurd rfl (n2 vs)
  | _=>rfl
theorem asg_ok (G:Good K F A C E d)(i:Inv K F σ env){t:PySem.Expr}{v:AV}{u:Value}(r:IRel K t σ.s.heap (Av F σ) u v) :
  At K bb F A σ env (R:=R) (asg C t v) (assign t E u) (fun J J J=>True):=by
 cases t with
 | Name x p =>
  show At K bb F A σ env (match storeIx C x with
   | some i=>storeM i v
   | none=>stuck) _ _
  cases hj:storeIx C x with
  | none=>exact At.stuck
  | some j =>
   rw[arm_assign_Name]
   exact At.stand (bindName_ok G i hj r)
 | Tuple ts k p =>
  have body:∀(vs:List AV) (us:Array Value) (a:Addr) (hu:u=.ref a) (rl:RelL K σ.s.heap (Av F σ) us.toList vs)
    (un:∀(targets:List (Bool × (Value→Sem Unit))) (Q:Unit→Shared→Prop) (X:Value→Shared→Prop),targets.length=us.size→targets.findIdx? (fun x=>x.1)=none →
     (∀h',Heap.ExtBut σ.s.heap.objs.size σ.s.heap h'→wpAny (model K.p K.w) A (assignInOrder (targets.map (fun x=>x.2)) us.toList) Q X { σ.s with heap:=h' })→wpAny (model K.p K.w) A (unpack (.ref a) targets) Q X σ.s),
    At K bb F A σ env (R:=R) (match ts.all isNameT&&decide (ts.length=vs.length) with
     | true=>stNames C ts vs
     | false=>stuck) (assign (.Tuple ts k p) E u) (fun J J J=>True):=fun vs us a hu rl un=>by
   subst hu
   cases hc:ts.all isNameT&&decide (ts.length=vs.length) with
   | false=>exact At.stuck
   | true =>
    rw[Bool.and_eq_true,decide_eq_true_eq] at hc
    rw[arm_assign_Tuple]
    refine At.stand fun k X res q=>?_
    obtain ⟨h1,h2⟩:=assignEach_names (E:=E) hc.1
    have hlen:=RelL.length _ rl
    rw[Array.length_toList] at hlen
    refine un _ _ _ (by rw[h2,hlen,hc.2]) h1 fun h' he=>?_
    have hk:∀b o,σ.s.heap.get? b=some o→h'.get? b=some o:=fun b o e=>he b o (Nat.ne_of_lt (Heap.lt_size e)) e
    obtain ⟨i₁,ex₁⟩:=i.heap (n:=σ.s.toks) hk
    refine wpAny_mono (stNames_ok G ts i₁ (RelL.ext ex₁ rl) k X res q) (fun J J=>Res.trans ex₁) fun J J=>Res.trans ex₁
  cases v with
  | tup vs =>
   rw[(asg_seq ts k p vs).1]
   obtain ⟨a,us,hu,na,ht,hl,rl⟩:=r
   exact body vs us a hu rl fun targets Q X h1 h2 h3=>unpack_tuple G.room.hd ht h1 h2 h3
  | list vs =>
   rw[(asg_seq ts k p vs).2]
   obtain ⟨a,us,hu,na,ht,hl,rl⟩:=r
   exact body vs us a hu rl fun targets Q X h1 h2 h3=>unpack_list G.room.hd ht.isList h1 h2 h3
  | _ =>
   rw[asg_none ts k p]
   ·exact At.stuck
   all_goals exact fun J h=>nomatch h
 | _=>exact At.stuck
end
inductive FL where
 | next
 | brk
 | cont
 | ret (v:AV)
noncomputable def FlowRel (K:PW) (F:Fx):Flow→FL→St→Prop:=fun f fl σ=>match fl with
 | .next=>f=.next
 | .brk=>f=.brk
 | .cont=>f=.cont
 | .ret a=>∃v,f=.ret v∧VRel K σ.s.heap (Av F σ) v a
noncomputable def notComp:PySem.Expr→Bool
 | .ListComp _ _ _ _=>false
 | .SetComp _ _ _ _=>false
 | .DictComp _ _ _ _ _=>false
 | _=>true
noncomputable def notTup:PySem.Expr→Bool
 | .Tuple _ _ _=>false
 | _=>true
section
variable {bb:Bool}{K:PW}{F:Fx}{A:Around}{C:Ctx}{E:Env}{d:Nat}{R:Type}{σ:St}{env:AEnv}
theorem swaps_no {value:PySem.Expr}{t:Option PySem.Expr}{l:Nat}(h:notComp value=true):swapsWith value t l E=pure false:=by
 cases value <;> first|rfl|exact nT' h
theorem swapsSole_no {value t:PySem.Expr}{l:Nat}(h:notComp value=true):swapsWithSole [t] value l E=pure false:=by
 show swapsWith value (some t) l E=pure false
 exact swaps_no h
theorem swapped_no {value t:PySem.Expr}(h:(isNameT t||notTup value)=true):swappedStores [t] value E=pure none:=by
 cases t <;> first|rfl|(cases value <;> first|rfl|exact nT' h)
theorem assign_ok (G:Good K F A C E d){n:Nat}(S:Snd K F A C E n)(i:Inv K F σ env){t value:PySem.Expr}{pos:Pos}(h1:notComp value=true)(h2:(isNameT t||notTup value)=true) :
  At K bb F A σ env (R:=R) (bnd (ev n C value) fun v=>bnd (asg C t v) fun J=>ret .next) (exec (.Assign [t] value pos) E) (FlowRel K F):=by
 rw[arm_exec_Assign,swapsSole_no h1]
 refine At.stand ?_
 show At K bb F A σ env _ (do
  let v ←eval value E
  assignStores E v (←swappedStores [t] value E) ((assignEach [t] E).map (fun x=>x.2))) _
 rw[swapped_no h2]
 refine At.bind (S.ev _ _ _ _ i) fun u v σ₁ env₁ i₁ ex₁ r=>?_
 have hst:∀x p,t=.Starred x p→asg C t v=(stuck:M R Unit):=fun x p e=>by subst e; rfl
 by_cases hs:∃x p,t=.Starred x p
 ·obtain ⟨x,p,e⟩:=hs
  rw[hst x p e]
  exact At.stuck
 ·have he:(assignEach [t] E).map (fun x=>x.2)=[assign t E]:=by
   cases t <;> first|rfl|exact absurd ⟨_,_,rfl⟩ hs
  rw[pure_bind]
  show At K bb F A σ₁ env₁ _ (do assignAll u ((assignEach [t] E).map (fun x=>x.2)); pure Flow.next) _
  rw[he]
  exact At.bind (asg_ok G i₁ (IRel.of r)) fun J J σ₂ env₂ i₂ ex₂ J=>At.ret i₂ rfl
theorem return_ok {n:Nat}(S:Snd K F A C E n)(i:Inv K F σ env){e:PySem.Expr}{pos:Pos} :
  At K bb F A σ env (R:=R) (bnd (ev n C e) fun v=>ret (.ret v)) (exec (.Return (some e) pos) E) (FlowRel K F):=by
 rw[arm_exec_Return]
 refine At.stand ?_
 exact At.bind (S.ev _ _ _ _ i) fun u v σ₁ env₁ i₁ ex₁ r=>At.ret i₁ ⟨u,rfl,r⟩
theorem return0_ok (i:Inv K F σ env){pos:Pos}:At K bb F A σ env (R:=R) (ret (.ret .none)) (exec (.Return none pos) E) (FlowRel K F):=by
 rw[arm_exec_Return]
 exact At.stand (At.ret i ⟨_,rfl,rfl⟩)
theorem if_ok {n:Nat}(S:Snd K F A C E n)(i:Inv K F σ env){test:PySem.Expr}{body els:List Stmt}{pos:Pos}{mb me:M R FL}
  (hb:∀σ env,Inv K F σ env→At K bb F A σ env mb (execs body E) (FlowRel K F)) (he:∀σ env,Inv K F σ env→At K bb F A σ env me (execs els E) (FlowRel K F)) :
  At K bb F A σ env (bnd (tst n C test) fun c=>ifM c mb me) (exec (.If test body els pos) E) (FlowRel K F):=by
 rw[arm_exec_If]
 refine At.stand ?_
 refine At.bind (S.tst _ _ _ _ i) fun v c σ₁ env₁ i₁ ex₁ hv=>?_
 subst hv
 exact At.ifM (fun J=>hb _ _ i₁) (fun J=>he _ _ i₁)
theorem load_ok (G:Good K F A C E d)(i:Inv K F σ env){x:Str}{j:Nat}(hj:slotIx C x=some j):At K bb F A σ env (R:=R) (readM j) (loadName E x) (Val K F):=fun k X res e=>by
 obtain ⟨p,hp,a,hd⟩:=G.fok.slot x j hj
 obtain ⟨v,hv,hr⟩:=i.slots j p hp
 unfold readM at e
 cases hs:slotAt env j with
 | none=>rw[hs] at e; exact nS e
 | some sl =>
  rw[hs] at e hr
  cases sl with
  | pure y =>
   obtain ⟨w,rfl,rw'⟩:=hr
   exact load_at G.fok.kind a hv ⟨y,env,σ.ob,i,Ext.refl F σ,rw',e⟩
  | own c =>
   obtain ⟨b,q,r⟩:=id hr
   subst q
   obtain ⟨ob',i',ex,rv⟩:=i.freeze hp hv hr
   exact load_at G.fok.kind a hv ⟨_,_,ob',i',ex,rv,e⟩
noncomputable def augA (op:Operator) (a b:AV):Option AV:=match op with
 | .Add=>ob a.asI fun x=>ob b.asI fun y=>some (.int (x+y))
 | .Sub=>ob a.asI fun x=>ob b.asI fun y=>some (.int (x-y))
 | _=>none
theorem augA_ok (i:Inv K F σ env){op:Operator}{a b c:AV}{u v:Value}(e:augA op a b=some c)(ra:VRel K σ.s.heap (Av F σ) u a)(rb:VRel K σ.s.heap (Av F σ) v b) :
  ∀X,wpAny (model K.p K.w) A (inplaceOp op u v) (Gives K F σ c) X σ.s:=fun X=>by
 cases op with
 | Add =>
  obtain ⟨x,h1,e⟩:=obE e
  obtain ⟨y,h2,e⟩:=obE e
  obtain ⟨t,t',rfl,rfl⟩:=two_ints ra rb h1 h2
  rw[←sI e]
  exact PySem.P.iadd_int (.toks ⟨_,rfl⟩)
 | Sub =>
  obtain ⟨x,h1,e⟩:=obE e
  obtain ⟨y,h2,e⟩:=obE e
  obtain ⟨t,t',rfl,rfl⟩:=two_ints ra rb h1 h2
  rw[←sI e]
  exact PySem.P.isub_int (.toks ⟨_,rfl⟩)
 | _=>exact nS e
theorem aug_ok (G:Good K F A C E d){n:Nat}(S:Snd K F A C E n)(i:Inv K F σ env){x:Str}{np pos:Pos}{op:Operator}{value:PySem.Expr}{j:Nat}(hj:storeIx C x=some j) :
  At K bb F A σ env (R:=R) (bnd (readM j) fun a=>bnd (ev n C value) fun b=>bnd (liftO (augA op a b)) fun c=>bnd (storeM j c) fun J=>ret .next) (exec (.AugAssign (.Name x np) op value pos) E) (FlowRel K F):=by
 obtain ⟨h1,h2⟩:=storeIx_ok G hj
 rw[arm_exec_AugAssign]
 refine At.stand ?_
 refine At.bind (load_ok G i h1) fun u a σ₁ env₁ i₁ ex₁ ra=>?_
 refine At.bind (At.holding (S.ev _ _ _ _ i₁)) fun v b σ₂ env₂ i₂ ex₂ rb=>?_
 refine At.stand ?_
 refine At.liftO fun c hc=>?_
 intro k X res q
 refine wpAny_bind (wpAny_operating (wpAny_mono (augA_ok i₂ hc (VRel.ext ex₂ ra) rb _) (fun r s' ⟨⟨h',tk,e,hk⟩,rc⟩=>?_) fun J J h=>h))
 subst e
 obtain ⟨i₃,ex₃⟩:=i₂.heap (n:=tk) hk
 have A1:At K bb F A ⟨_,σ₂.ob⟩ env₂ (R:=R) (bnd (storeM j c) fun J=>ret .next) (do standAt np; bindName E x r; pure Flow.next) (FlowRel K F) :=
  At.stand (At.bind (bindName_ok G i₃ hj rc) fun J J σ₄ env₄ i₄ ex₄ J=>At.ret i₄ rfl)
 exact wpAny_mono (A1 k X res q) (fun J J=>Res.trans ex₃) fun J J=>Res.trans ex₃
theorem setSlot_set {x y:Option Slot}:∀{env:AEnv} {i:Nat},setSlot (setSlot env i x) i y=setSlot env i y
 | [],i=>rfl
 | z::r,0=>rfl
 | z::r,i+1=>by show z::setSlot (setSlot r i x) i y=z::setSlot r i y; rw[setSlot_set]
theorem slotAt_out:∀{env:AEnv} {j:Nat},env.length≤j→slotAt env j=none
 | [],_,_=>rfl
 | x::r,0,h=>by simp at h
 | x::r,j+1,h=>slotAt_out (env:=r) (by simpa using h)
theorem Inv.clear (i:Inv K F σ env)(j:Nat):∃env' ob',Inv K F ⟨σ.s,ob'⟩ env'∧(∀bb,Ext bb F σ ⟨σ.s,ob'⟩)∧(∀c,slotAt env' j≠some (.own c))∧∀y,setSlot env' j y=setSlot env j y:=by
 by_cases h:∃c,slotAt env j=some (.own c)
 ·obtain ⟨c,hc⟩:=h
  cases hp:F.pl[j]? with
  | none =>
   rw[slotAt_out (by rw[i.len]; exact List.getElem?_eq_none_iff.mp hp)] at hc; exact nS hc
  | some p =>
   obtain ⟨v,hv,hr⟩:=i.slots j p hp
   rw[hc] at hr
   obtain ⟨a,e,hm,r⟩:=id hr
   subst e
   obtain ⟨ob',i',ex,_⟩:=i.freeze (bb:=true) hp hv hr
   refine ⟨_,ob',i',fun bb=>⟨ex.keep,ex.kfr,ex.obs,fun J=>ex.sub rfl,fun x hx J=>ex.sub rfl x hx,ex.os,ex.alive,ex.gk⟩,fun c e=>?_,fun y=>setSlot_set⟩
   rw[slotAt_set_self (i.slotLt hp)] at e
   cases e
 ·exact ⟨env,σ.ob,i,fun J=>Ext.refl F σ,fun c e=>h ⟨c,e⟩,fun J=>rfl⟩
theorem ownNew_ok (G:Good K F A C E d)(i:Inv K F σ env){x:Str}{np:Pos}{j:Nat}{o:Obj}{c:OC}(hj:storeIx C x=some j)(hfx:j∉F.fix)(hf:o.isFreed=false)
  (hr:∀h A',Hst σ.s.heap (Av F σ) h A'→h.get? σ.s.heap.objs.size=some o→ORel K h A' σ.s.heap.objs.size c) {k:Unit→AEnv→Option R} {X:AX→AEnv→Option R} {res:R} (q:putM j c k X env=some res) :
  wpAny (model K.p K.w) A (assign (.Name x np) E (.ref σ.s.heap.objs.size)) (Res K false F σ (fun J J J=>True) k res) (Res K false F σ (XRel F) X res) { σ.s with heap:=σ.s.heap.push o }:=by
 obtain ⟨h1,h2⟩:=storeIx_ok G hj
 obtain ⟨env₁,ob₁,i₁,ex₁,hno,hset⟩:=i.clear j
 obtain ⟨ob₂,i₂,ex₂,hm,ro⟩:=i₁.adopt (j:=j) (o:=o) (c:=c) hf hno hfx fun h A' hst hn=>hr h A' ((ex₁ false).hst.kpT hst) hn
 have exx:=(ex₁ false).trans ex₂
 have q₂:putM j c k X env₁=some res:=by unfold putM at q ⊢; rw[hset]; exact q
 rw[arm_assign_Name]
 refine wpAny_bind (wpAny_standAt (wpAny_bindName ?_))
 refine wpAny_mono (storeOwn_ok (R:=R) (bb:=false) G i₂ h1 h2 hm ro k X res q₂) (fun J J r=>r.post fun J J ex J=>⟨exx.trans ex,trivial⟩) fun J J=>Res.trans exx
set_option tactic.hygienic true in
theorem ownList_ok (G:Good K F A C E d){n:Nat}(S:Snd K F A C E n)(i:Inv K F σ env){x:Str}{np lp pos:Pos}{es:List PySem.Expr}{j:Nat}(hj:storeIx C x=some j)(hfx:j∉F.fix) :
  At K false F A σ env (R:=R) (bnd (evs n C es) fun vs=>bnd (liftO (match fitL vs.length with|true=>some vs|false=>none)) fun vs=>bnd (putM j (.list vs)) fun J=>ret FL.next) (exec (.Assign [.Name x np] (.List es lp) pos) E) (FlowRel K F):=by
 rw[arm_exec_Assign,swapsSole_no rfl]
 refine At.stand ?_
 show At K false F A σ env _ (do
  let v ←eval (.List es lp) E
  assignStores E v (←swappedStores [.Name x np] (.List es lp) E) ((assignEach [.Name x np] E).map (fun x=>x.2))) _
 rw[swapped_no rfl,arm_eval_List]
 intro k X res q
 refine wpAny_bind (wpAny_bind (wpAny_standAt ?_))
 refine wpAny_bind (wpAny_mono (S.evs R es lp σ env i (fun vs e'=>bnd (liftO (match fitL vs.length with|true=>some vs|false=>none)) (fun vs=>bnd (putM j (.list vs)) fun J=>ret FL.next) k X e') X res q) (fun us s' ⟨vs,env',ob',i',ex',r,q'⟩=>?_) fun J J h=>h)
 cases hf:fitL vs.length with
 | false=>simp only[hf] at q'; exact nS q'
 | true =>
  simp only[hf] at q'
  have hl:vs.length≤16777216:=of_decide_eq_true hf
  refine wpAny_newObj_type ?_ (by show us.toArray.size≤sizeLine; rw[List.size_toArray,RelL.length _ r]; exact hl)
  rw[pure_bind]
  show wpAny _ _ (do assign (.Name x np) E (.ref s'.heap.objs.size); pure Flow.next) _ _ _
  refine wpAny_bind (wpAny_mono (ownNew_ok (np:=np) G i' hj hfx (o:={ cls:=.type "list",data:=.seq us.toArray }) (c:=.list vs) rfl (fun h A' hst hn=>⟨us.toArray,⟨0,hn⟩,hl,by simpa using RelL.kp hst _ r⟩) (k:=fun J e'=>k .next e') (X:=X) q')
   (fun _ _ ⟨_,env'',ob'',i'',ex'',_,q''⟩=>wpAny_pure ⟨.next,env'',ob'',i'',ex'.trans ex'',rfl,q''⟩) fun J J=>Res.trans ex')
theorem execs_nil_ok (i:Inv K F σ env):At K bb F A σ env (R:=R) (ret FL.next) (execs [] E) (FlowRel K F):=At.ret i rfl
set_option tactic.hygienic true in
theorem execs_cons_ok (i:Inv K F σ env){s:Stmt}{rest:List Stmt}{m mr:M R FL}(h:At K bb F A σ env m (exec s E) (FlowRel K F))
  (hr:∀σ env,Inv K F σ env→At K bb F A σ env mr (execs rest E) (FlowRel K F)) :
  At K bb F A σ env (bnd m fun fl=>match fl with
   | .next=>mr
   | .brk=>ret .brk
   | .cont=>ret .cont
   | .ret v=>ret (.ret v)) (execs (s::rest) E) (FlowRel K F):=by
 rw[arm_execs_cons]
 refine At.bind h fun f fl σ₁ env₁ i₁ ex₁ hf=>?_
 cases fl with
 | next=>subst hf; exact hr _ _ i₁
 | brk=>subst hf; exact At.ret i₁ rfl
 | cont=>subst hf; exact At.ret i₁ rfl
 | ret v=>obtain ⟨u,rfl,r⟩:=hf; exact At.ret i₁ ⟨u,rfl,r⟩
end
noncomputable def whileL {R:Type} (t:M R Bool) (b:M R FL):Nat→M R FL
 | 0=>stuck
 | k+1=>bnd t fun c=>ifM c (bnd b fun fl=>match fl with
  | .next=>whileL t b k
  | .cont=>whileL t b k
  | .brk=>ret .next
  | .ret v=>ret (.ret v)) (ret .next)
section
variable {bb:Bool}{K:PW}{F:Fx}{A:Around}{C:Ctx}{E:Env}{d:Nat}{R:Type}{σ:St}{env:AEnv}
set_option tactic.hygienic true in
theorem while_ok {n:Nat}(S:Snd K F A C E n)(i:Inv K F σ env){test:PySem.Expr}{body:List Stmt}{pos:Pos}{mb:M R FL}(N:Nat)
  (hb:∀σ env,Inv K F σ env→At K bb F A σ env mb (execs body E) (FlowRel K F)) :
  At K bb F A σ env (whileL (tst n C test) mb N) (exec (.While test body [] pos) E) (FlowRel K F):=by
 intro k X res q
 refine wpAny_While (codeAny_whileLoop (fun m s=>∃ob env',Inv K F ⟨s,ob⟩ env'∧Ext bb F σ ⟨s,ob⟩∧whileL (tst n C test) mb m k X env'=some res) ?_ N ⟨σ.ob,env,i,Ext.refl F σ,q⟩)
 rintro m s ⟨ob,env',i',ex,q⟩
 cases m with
 | zero=>exact nS q
 | succ m =>
  refine wpAny_mono (S.tst (bb:=bb) R test ⟨s,ob⟩ env' i' (fun c e'=>(ifM c (bnd mb fun fl=>match fl with
   | .next=>whileL (tst n C test) mb m
   | .cont=>whileL (tst n C test) mb m
   | .brk=>ret .next
   | .ret v=>ret (.ret v)) (ret .next):M R FL) k X e') X res q) (fun v s₁ ⟨c,env₁,ob₁,i₁,ex₁,hv,q₁⟩=>?_) fun J J=>Res.no
  subst hv
  cases v with
  | false =>
   simp only[Bool.false_eq_true,if_false]
   exact wpAny_execs_nil ⟨.next,env₁,ob₁,i₁,ex.trans ex₁,rfl,q₁⟩
  | true =>
   simp only[if_true]
   refine wpAny_mono (hb ⟨s₁,ob₁⟩ env₁ i₁ (fun fl e'=>(match fl with
    | .next=>whileL (tst n C test) mb m
    | .cont=>whileL (tst n C test) mb m
    | .brk=>ret .next
    | .ret v=>ret (.ret v):M R FL) k X e') X res q₁) (fun f s₂ ⟨fl,env₂,ob₂,i₂,ex₂,hf,q₂⟩=>?_) fun J J=>Res.no
   have ex':=(ex.trans ex₁).trans ex₂
   cases fl with
   | next=>subst hf; exact ⟨m,Nat.lt_succ_self m,ob₂,env₂,i₂,ex',q₂⟩
   | cont=>subst hf; exact ⟨m,Nat.lt_succ_self m,ob₂,env₂,i₂,ex',q₂⟩
   | brk=>subst hf; exact ⟨.next,env₂,ob₂,i₂,ex',rfl,q₂⟩
   | ret v=>obtain ⟨u,rfl,r⟩:=hf; exact ⟨.ret v,env₂,ob₂,i₂,ex',⟨u,rfl,r⟩,q₂⟩
noncomputable def tryThrough {R α:Type} (b:M R α):M R α:=fun k J e=>b k (fun J J=>none) e
set_option tactic.hygienic true in
theorem try_ok (i:Inv K F σ env){body:List Stmt}{h₀:ExceptHandler}{hs:List ExceptHandler}{pos:Pos}{mb:M R FL}
  (hb:At K bb F A σ env mb (execs body E) (FlowRel K F)):At K bb F A σ env (tryThrough mb) (exec (.Try body (h₀::hs) [] [] pos) E) (FlowRel K F):=by
 intro k X res q
 refine wpAny_Try_except (wpAny_mono (hb k (fun J J=>none) res q) (fun f s₁ ⟨fl,env₁,ob₁,i₁,ex₁,hf,q₁⟩=>?_) fun J J=>Res.no)
 cases f with
 | next=>exact wpAny_execs_nil ⟨fl,env₁,ob₁,i₁,ex₁,hf,q₁⟩
 | brk=>exact ⟨fl,env₁,ob₁,i₁,ex₁,hf,q₁⟩
 | cont=>exact ⟨fl,env₁,ob₁,i₁,ex₁,hf,q₁⟩
 | ret v=>exact ⟨fl,env₁,ob₁,i₁,ex₁,hf,q₁⟩
end
section
variable {bb:Bool}{K:PW}{F:Fx}{A:Around}{C:Ctx}{E:Env}{d:Nat}{R:Type}{σ σ':St}{env:AEnv}{W:Addr→Prop}
theorem Good.wide (G:Good K F A C E d)(W:Addr→Prop):Good K (F.wide W) A C E d :=
 ⟨⟨G.fok.kind,G.fok.glb,G.fok.blt,G.fok.sc,G.fok.len,G.fok.fix,G.fok.slot⟩,G.gok,G.room,G.call,G.isa,G.dec,G.attr,G.gen,G.me,G.big⟩
theorem Ext.ofWide (x:Ext bb (F.wide W) σ σ'):Ext bb F σ σ':=⟨x.keep,x.kfr,x.obs,x.sub,x.fix,x.os,x.alive,x.gk⟩
theorem Ext.toWide (x:Ext bb F σ σ'):Ext bb (F.wide W) σ σ':=⟨x.keep,x.kfr,x.obs,x.sub,x.fix,x.os,x.alive,x.gk⟩
theorem Inv.widen (i:Inv K F σ env){s':Shared}(hk:∀a o,σ.s.heap.get? a=some o→s'.heap.get? a=some o)(hg:s'.gens=σ.s.gens)(ho:s'.os=σ.s.os)
  (hW:∀a,W a→σ.s.heap.get? a=none∧∃o,s'.heap.get? a=some o):Inv K (F.wide W) ⟨s',σ.ob⟩ env∧Ext bb F σ ⟨s',σ.ob⟩:=by
 have ex:Ext bb F σ ⟨s',σ.ob⟩:=Ext.grow F σ hk ho hg
 have av:∀a,Av (F.wide W) ⟨s',σ.ob⟩ a→Av F σ a∨W a:=fun a q=>q.elim (fun q=>.inl (.inl q)) fun q=>q.elim (fun q=>.inl (.inr q)) .inr
 have st:Hst σ.s.heap (Av F σ) s'.heap (Av (F.wide W) ⟨s',σ.ob⟩):=⟨fun a o e J=>hk a o e,fun a q=>(av a q).elim .inl fun q=>.inr (hW a q).1⟩
 refine ⟨⟨i.len,fun j p hp=>?_,i.pln,i.obn,i.obu,i.obp,fun a q=>?_,fun a q=>?_,fun a q=>?_,fun a o e=>hk a o (i.old a o e),hg▸i.gens⟩,ex⟩
 ·obtain ⟨v,hv,r⟩:=i.slots j p hp
  exact ⟨v,hv.at fun o e=>hk _ o e,r.kp st fun a m=>⟨m,fun o e=>hk a o e⟩⟩
 ·rintro (h|h)
  ·exact i.upd a q h
  ·obtain ⟨o,e⟩:=i.dom a (.inl q)
   rw[(hW a h).1] at e; exact nS e
 ·rcases av a q with q|q
  ·obtain ⟨o,e⟩:=i.dom a q; exact ⟨o,hk a o e⟩
  ·exact (hW a q).2
 ·rcases av a q with q|q
  ·exact i.new a q
  ·cases e:F.base.get? a with
   | none=>exact e
   | some o=>have:=i.old a o e; rw[(hW a q).1] at this; exact nS this
theorem Inv.narrow (i:Inv K (F.wide W) σ env):Inv K F σ env:=by
 have sub:∀a,Av F σ a→Av (F.wide W) σ a:=fun a q=>q.elim .inl fun q=>.inr (.inl q)
 exact ⟨i.len,fun j p hp=>let ⟨v,hv,r⟩:=i.slots j p hp; ⟨v,hv,r.kp (Hst.of_sub sub) fun a m=>⟨m,fun J e=>e⟩⟩,i.pln,i.obn,i.obu,i.obp,fun a q h=>i.upd a q (.inl h),fun a q=>i.dom a (sub a q),fun a q=>i.new a (sub a q),i.old,i.gens⟩
theorem Inv.upStep (i:Inv K F σ env){s':Shared}(hg:AllBare s'.gens)(hW:∀a,W a→F.up a∧¬F.fr a)(hk:∀b o,¬W b→σ.s.heap.get? b=some o→s'.heap.get? b=some o)(hl:∀a,W a→∃o,s'.heap.get? a=some o) :
  Inv K F ⟨s',σ.ob⟩ env:=by
 have off:∀a,Own F σ a→¬W a:=fun a q h=>i.upd a q (hW a h).1
 have st:Hst σ.s.heap (Av F σ) s'.heap (Av F ⟨s',σ.ob⟩):=⟨fun a o e na=>hk a o (fun h=>na (.inr (hW a h).1)) e,fun a q=>.inl q⟩
 refine ⟨i.len,fun j p hp=>?_,i.pln,i.obn,i.obu,i.obp,i.upd,fun a q=>?_,i.new,fun a o e=>?_,hg⟩
 ·obtain ⟨v,hv,r⟩:=i.slots j p hp
  exact ⟨v,hv.at fun o e=>hk _ o (off _ (.inl (.inr ⟨p,List.mem_of_getElem? hp,rfl⟩))) e,r.kp st fun a m=>⟨m,fun o e=>hk a o (off a (.inr (List.mem_map_of_mem m))) e⟩⟩
 ·by_cases h:W a
  ·exact hl a h
  ·obtain ⟨o,e⟩:=i.dom a q; exact ⟨o,hk a o h e⟩
 ·refine hk a o (fun h=>?_) (i.old a o e)
  have:=i.new a (.inr (hW a h).1)
  rw[this] at e; exact nS e
theorem Inv.leave (i:Inv K (F.wide W) σ env){s':Shared}(hg:AllBare s'.gens)(hW:∀a,W a→¬F.up a)(hk:∀b o,¬W b→σ.s.heap.get? b=some o→s'.heap.get? b=some o) :
  Inv K F ⟨s',σ.ob⟩ env:=by
 have off:∀a,Own F σ a→¬W a:=fun a q h=>i.upd a q (.inr h)
 have sub:∀a,Av F σ a→Av (F.wide W) σ a:=fun a q=>q.elim .inl fun q=>.inr (.inl q)
 have st:Hst σ.s.heap (Av (F.wide W) σ) s'.heap (Av F ⟨s',σ.ob⟩):=⟨fun a o e na=>hk a o (fun h=>na (.inr (.inr h))) e,fun a q=>.inl (sub a q)⟩
 have nW:∀a,Av F σ a→¬W a:=fun a q h=>q.elim (fun q=>off a q h) fun q=>hW a h q
 refine ⟨i.len,fun j p hp=>?_,i.pln,i.obn,i.obu,i.obp,fun a q h=>i.upd a q (.inl h),fun a q=>?_,fun a q=>i.new a (sub a q),fun a o e=>?_,hg⟩
 ·obtain ⟨v,hv,r⟩:=i.slots j p hp
  exact ⟨v,hv.at fun o e=>hk _ o (off _ (.inl (.inr ⟨p,List.mem_of_getElem? hp,rfl⟩))) e,r.kp st fun a m=>⟨m,fun o e=>hk a o (off a (.inr (List.mem_map_of_mem m))) e⟩⟩
 ·obtain ⟨o,e⟩:=i.dom a (sub a q); exact ⟨o,hk a o (nW a q) e⟩
 ·refine hk a o (fun h=>?_) (i.old a o e)
  have:=i.new a (.inr (.inr h))
  rw[show F.base.get? a=none from this] at e; exact nS e
theorem Ext.chg {σ₀:St}(x:Ext bb F σ₀ σ){s':Shared}(ho:s'.os=σ.s.os)(hgk:∀(g:Nat) st,σ₀.s.gens[g]?=some st→σ.s.gens[g]?=some st→s'.gens[g]?=some st)(hW:∀a,W a→σ₀.s.heap.get? a=none)(hk:∀b o,¬W b→σ.s.heap.get? b=some o→s'.heap.get? b=some o) :
  Ext bb F σ₀ ⟨s',σ.ob⟩ where
 keep a o e na nf:=hk a o (fun h=>by rw[hW a h] at e; exact nS e) (x.keep a o e na nf)
 kfr a o e f:=by
  obtain ⟨sl,q⟩:=x.kfr a o e f
  exact ⟨sl,hk a _ (fun h=>by rw[hW a h] at e; exact nS e) q⟩
 obs:=x.obs
 sub:=x.sub
 fix:=x.fix
 os:=ho.trans x.os
 alive a o e:=let ⟨o',e'⟩:=x.alive a o e; ⟨o',hk a o' (fun h=>by rw[hW a h] at e; exact nS e) e'⟩
 gk g st e:=hgk g st e (x.gk g st e)
end
section
variable {bb:Bool}{K:PW}{F:Fx}{A:Around}{C:Ctx}{E:Env}{d:Nat}{R:Type}{σ σ₀:St}{env:AEnv}{target:PySem.Expr}{I:Addr}{xs:List AV}{fp wr:List Addr}{gi:Nat→Prop}{St':Nat→Shared→(Addr→Prop)→Prop}{i:Nat}
theorem Lp.body (T:Tn K F A target I xs fp wr gi St')(L:Lp K F fp St' i σ env){σ':St}{env':AEnv}(iv:Inv K F σ' env')(x:Ext bb F σ σ'):Lp K F fp St' i σ' env' where
 inv:=iv
 fpo b hb:=by
  obtain ⟨n1,n2,o,e⟩:=L.fpo b hb
  exact ⟨fun q=>(x.own q).elim n1 fun l=>(by rw[e] at l; exact nS' l),n2,o,x.keep b o e n1 n2⟩
 st:=T.frame i _ _ _ _ L.st x.hst (fun b hb o e=>by
  obtain ⟨n1,n2,o',e'⟩:=L.fpo b hb
  exact x.keep b o e n1 n2) x.gk
theorem Lp.moved (T:Tn K F A target I xs fp wr gi St')(L:Lp K F fp St' i σ env){s':Shared}{j:Nat}(m:Moves wr gi σ.s s')(hs:St' j s' (Av F σ)):Lp K F fp St' j ⟨s',σ.ob⟩ env:=by
 refine ⟨L.inv.upStep (W:=fun a=>a∈wr) (m.gens L.inv.gens) T.hw m.keep fun a ha=>T.live _ _ _ hs a ha,fun b hb=>?_,hs⟩
 obtain ⟨n1,n2,o,e⟩:=L.fpo b hb
 refine ⟨n1,n2,?_⟩
 by_cases hw:b∈wr
 ·exact T.live _ _ _ hs b hw
 ·exact ⟨o,m.keep b o hw e⟩
theorem Lp.turn (T:Tn K F A target I xs fp wr gi St')(L:Lp K F fp St' i σ env)(hi:i<xs.length){Q:Value→Shared→Prop}{X:Value→Shared→Prop}
  (h:∀x v s',xs[i]?=some x→Lp K F fp St' (i+1) ⟨s',σ.ob⟩ env→IRel K target s'.heap (Av F ⟨s',σ.ob⟩) v x→Moves wr gi σ.s s'→Q v s') :
  wpAny (model K.p K.w) A (pyNext (.ref I)) (fun r s₁=>∃v,r=some v∧wpAny (model K.p K.w) A (letOwnedTupleGo target (.ref I) v) (fun J s'=>Q v s') X s₁) X σ.s :=
 wpAny_mono (T.turn i σ.s (Av F σ) X hi L.inv.gens (fun b hb=>.inr (T.hw b hb).1) L.inv.dom L.st) (fun r s₁ ⟨v,e,hr⟩=>⟨v,e,wpAny_mono hr (fun _ s₂ ⟨m,hs,x,hx,hv⟩=>h x v s₂ hx (L.moved T m hs) hv m) fun J J h=>h⟩) fun J J h=>h
theorem Lp.done (T:Tn K F A target I xs fp wr gi St')(L:Lp K F fp St' i σ env)(hi:xs.length=i){Q:Option Value→Shared→Prop}{X:Value→Shared→Prop}
  (h:∀s',Moves wr gi σ.s s'→Q none s'):wpAny (model K.p K.w) A (pyNext (.ref I)) Q X σ.s :=
 wpAny_mono (T.done σ.s (Av F σ) X L.inv.gens L.inv.dom (hi▸L.st)) (fun r s₁ ⟨e,m⟩=>e▸h s₁ m) fun J J h=>h
theorem Tn.move {F':Fx}(T:Tn K F A target I xs fp wr gi St')(hw:∀b∈wr,F'.up b∧¬F'.fr b):Tn K F' A target I xs fp wr gi St' :=
 ⟨T.sub,hw,T.live,T.frame,T.turn,T.done,T.self⟩
noncomputable def forL {R:Type} (asgn:AV→M R Unit) (body:M R FL):List AV→M R FL
 | []=>ret .next
 | x::r=>bnd (asgn x) fun J=>bnd body fun fl=>match fl with
  | .next=>forL asgn body r
  | .cont=>forL asgn body r
  | .brk=>ret .next
  | .ret v=>ret (.ret v)
def ItAt (K:PW)(bb:Bool)(F:Fx)(A:Around){R:Type}(σ:St)(env:AEnv)(m:M R (List AV))(target:PySem.Expr)(t:Sem Value):Prop :=
 ∀(k:List AV→AEnv→Option R) (X:AX→AEnv→Option R) (res:R),m k X env=some res→∀(Q EX:Value→Shared→Prop),ItK K bb F A σ target k res Q →
  (∀e s',Res K bb F σ (XRel F) X res e s'→EX e s') →
  wpAny (model K.p K.w) A t (fun v s₁=>wpAny (model K.p K.w) A (pyIter v) Q EX s₁) EX σ.s
theorem ItK.later {σ':St}{k:List AV→AEnv→Option R}{res:R}{Q:Value→Shared→Prop}(hQ:ItK K bb F A σ target k res Q)(ex:Ext bb F σ σ'):ItK K bb F A σ' target k res Q :=
 fun I s'' xs env'' ob'' fp wr gi St' L ex' T hw hg hl q'=>hQ I s'' xs env'' ob'' fp wr gi St' L (ex.trans ex') T (fun b hb=>by
  cases e:σ.s.heap.get? b with
  | none=>rfl
  | some o=>obtain ⟨o',e'⟩:=ex.alive b o e; rw[hw b hb] at e'; exact nS e') (fun g h=>by
  cases e:σ.s.gens[g]? with
  | none=>rfl
  | some o=>have:=ex.gk g o e; rw[hg g h] at this; exact nS this) hl q'
theorem ItAt.stuck {t:Sem Value}:ItAt K bb F A (R:=R) σ env stuck target t:=fun k X res e=>by exact nS e
theorem AvWide {W:Addr→Prop}{a:Addr}(q:Av F σ a):Av (F.wide W) σ a:=q.elim .inl fun q=>.inr (.inl q)
theorem FlowRel.narrow {W:Addr→Prop}{f:Flow}{fl:FL}(r:FlowRel K (F.wide W) f fl σ):FlowRel K F f fl σ:=by
 cases fl with
 | ret a=>obtain ⟨v,e,r⟩:=r; exact ⟨v,e,r.kp (Hst.of_sub fun a q=>AvWide q)⟩
 | _=>exact r
set_option tactic.hygienic true in
theorem for_ok (G:Good K F A C E d){mi:M R (List AV)}{mb:M R FL}{iter:PySem.Expr}{body:List Stmt}{pos:Pos}(i:Inv K F σ env)(hit:ItAt K bb F A σ env mi target (eval iter E))
  (hb:∀W σ env,Inv K (F.wide W) σ env→At K bb (F.wide W) A σ env mb (execs body E) (FlowRel K (F.wide W))) (hfs:∀x,foldedSetIterable iter E x=pure x) :
  At K bb F A σ env (bnd mi fun xs=>forL (asg C target) mb xs) (exec (.For target iter body [] pos) E) (FlowRel K F):=by
 intro k X res q
 refine wpAny_For (hit _ X res q _ _ (fun I s₀ xs env₀ ob₀ fp wr gi St' L₀ ex₀ T hw hgi hl q₀=>?_) fun e s' h=>h) hfs
 have hwu:∀a,a∈wr→¬F.up a:=fun a ha h=>by
  obtain ⟨o,e⟩:=i.dom a (.inr h)
  rw[hw a ha] at e; exact nS e
 have chg:∀{s s':Shared} {ob:List (Nat × Addr)},Ext bb F σ ⟨s,ob⟩→Moves wr gi s s'→Ext bb F σ ⟨s',ob⟩:=fun ex m=>ex.chg (W:=fun a=>a∈wr) m.os (fun g st e e'=>m.gk g st (fun h=>by rw[hgi g h] at e; exact nS e) e') hw m.keep
 refine codeAny_forLoop_any (fun n s=>∃ob env' j,n=xs.length+1-j∧j≤xs.length∧Lp K (F.wide (·∈wr)) fp St' j ⟨s,ob⟩ env'∧Ext bb F σ ⟨s,ob⟩∧forL (asg C target) mb (xs.drop j) k X env'=some res) ?_
  (xs.length+1) ⟨ob₀,env₀,0,rfl,Nat.zero_le _,L₀,ex₀,q₀⟩
 rintro n s ⟨ob,env',j,rfl,hj,L,ex,q⟩
 by_cases hlt:j<xs.length
 ·refine wpAny_mono (L.turn T hlt (X:=fun J J=>False) (Q:=fun v s'=>∃x,xs[j]?=some x∧Lp K (F.wide (·∈wr)) fp St' (j+1) ⟨s',ob⟩ env' ∧
   IRel K target s'.heap (Av (F.wide (·∈wr)) ⟨s',ob⟩) v x∧Moves wr gi s s') (fun x v s' a b c d=>⟨x,a,b,c,d⟩)) (fun r s₁ ⟨v,e,hr⟩=>?_) fun J J f=>f.elim
  subst e
  dsimp only
  refine wpAny_mono hr (fun _ s₂ ⟨x,hx,L',hr,hk⟩=>?_) fun J J f=>f.elim
  have ex':Ext bb F σ ⟨s₂,ob⟩:=chg ex hk
  have hd:xs.drop j=x::xs.drop (j+1):=by
   rw[List.drop_eq_getElem_cons hlt]
   have:xs[j]=x:=by rw[List.getElem?_eq_getElem hlt] at hx; exact Option.some.inj hx
   rw[this]
  rw[hd] at q
  refine wpAny_mono (asg_ok (R:=R) (bb:=bb) (G.wide (·∈wr)) L'.inv hr (fun J e'=>bnd mb (fun fl=>match fl with
   | .next=>forL (asg C target) mb (xs.drop (j+1))
   | .cont=>forL (asg C target) mb (xs.drop (j+1))
   | .brk=>ret .next
   | .ret v=>ret (.ret v)) k X e') X res q) (fun _ s₃ ⟨_,env₃,ob₃,i₃,ex₃,_,q₃⟩=>?_) fun J J=>Res.no
  refine wpAny_mono (hb (·∈wr) ⟨s₃,ob₃⟩ env₃ i₃ (fun fl e'=>(match fl with
   | .next=>forL (asg C target) mb (xs.drop (j+1))
   | .cont=>forL (asg C target) mb (xs.drop (j+1))
   | .brk=>ret .next
   | .ret v=>ret (.ret v):M R FL) k X e') X res q₃) (fun f s₄ ⟨fl,env₄,ob₄,i₄,ex₄,hf,q₄⟩=>?_) fun J J=>Res.no
  have exx:=(ex'.trans ex₃.ofWide).trans ex₄.ofWide
  cases fl with
  | next=>subst hf; exact ⟨xs.length+1-(j+1),by lia,ob₄,env₄,j+1,rfl,hlt,(L'.body T i₃ ex₃).body T i₄ ex₄,exx,q₄⟩
  | cont=>subst hf; exact ⟨xs.length+1-(j+1),by lia,ob₄,env₄,j+1,rfl,hlt,(L'.body T i₃ ex₃).body T i₄ ex₄,exx,q₄⟩
  | brk=>subst hf; exact ⟨.next,env₄,ob₄,i₄.narrow,exx,rfl,q₄⟩
  | ret v=>obtain ⟨u,rfl,r⟩:=hf.narrow; exact ⟨.ret v,env₄,ob₄,i₄.narrow,exx,⟨u,rfl,r⟩,q₄⟩
 ·have hjj:xs.length=j:=by lia
  refine L.done T hjj fun s' m=>wpAny_execs_nil ?_
  have hq:xs.drop j=[]:=List.drop_eq_nil_iff.mpr (by lia)
  rw[hq] at q
  exact ⟨.next,env',ob,L.inv.leave (m.gens L.inv.gens) hwu m.keep,chg ex m,rfl,q⟩
end
theorem letGo_name {t:PySem.Expr}(h:isTupT t=false)(it v:Value):letOwnedTupleGo t it v=pure ():=by
 cases t <;> first|rfl|exact nT h
section
variable {bb:Bool}{K:PW}{F:Fx}{A:Around}{C:Ctx}{E:Env}{d:Nat}{R:Type}{σ:St}{env:AEnv}{target:PySem.Expr}{I:Addr}{xs:List AV}{fp wr:List Addr}{P Md:Nat→Value→Heap→Prop}{St':Nat→Heap→Prop}
theorem It.mk (s':Shared){n:Nat}(i:Inv K F σ env)(hk:∀a o,σ.s.heap.get? a=some o→s'.heap.get? a=some o)(hg:s'.gens=σ.s.gens)(ho:s'.os=σ.s.os)
  (hwr:∀b∈wr,σ.s.heap.get? b=none∧∃o,s'.heap.get? b=some o) (hfp:∀b∈fp,b∈wr∨(¬Av F σ b∧∃o,σ.s.heap.get? b=some o))
  (hn:xs.length=n) (kt:KTurns K.p K.w A target I fp wr n P Md St') (live:∀i h,St' i h→∀b∈wr,∃o,h.get? b=some o) (st0:St' 0 s'.heap)
  (RX:Heap→(Addr→Prop)→Prop) (rx0:RX σ.s.heap (Av F σ)) (rxk:∀h B h' B',Hst h B h' B'→RX h B→RX h' B') (val:∀i v h B,P i v h→RX h B→∃x,xs[i]?=some x∧IRel K target h B v x)
  (self:∀(s:Shared) (Q X:Value→Shared→Prop),St' 0 s.heap→Q (.ref I) s→wpAny (model K.p K.w) A (pyIter (.ref I)) Q X s)
  {k:List AV→AEnv→Option R} {res:R} {Q:Value→Shared→Prop}
  (hQ:ItK K bb F A σ target k res Q) (hl:xs.length≤sizeLine) (q:k xs env=some res):Q (.ref I) s':=by
 subst hn
 obtain ⟨i',ex⟩:=i.widen (bb:=bb) (W:=fun a=>a∈wr) hk hg ho hwr
 have st:Hst σ.s.heap (Av F σ) s'.heap (Av (F.wide (·∈wr)) ⟨s',σ.ob⟩):=⟨fun a o e J=>hk a o e,fun a q=>q.elim (fun q=>.inl (.inl q)) fun q=>q.elim (fun q=>.inl (.inr q)) fun q=>.inr (hwr a q).1⟩
 have nfr:∀b∈wr,¬F.fr b:=fun b hb h=>by
  obtain ⟨o,e⟩:=i.dom b (.inr (F.fru b h))
  rw[(hwr b hb).1] at e; exact nS e
 refine hQ I s' xs env σ.ob fp wr (fun J=>False) (fun i s B=>St' i s.heap∧RX s.heap B) ⟨i',fun b hb=>?_,st0,rxk _ _ _ _ st rx0⟩ ex ⟨kt.sub,fun b hb=>⟨.inr hb,nfr b hb⟩,fun i s B h=>live i s.heap h.1,fun i s s' B B' h hs hf J=>⟨kt.frame i _ _ h.1 hf,rxk _ _ _ _ hs h.2⟩,?_,?_,fun s B Q X h=>self s Q X h.1⟩ (fun b hb=>(hwr b hb).1) (fun J h=>h.elim) hl q
 ·rcases hfp b hb with hb|⟨hn,o,e⟩
  ·refine ⟨fun h=>?_,nfr b hb,(hwr b hb).2⟩
   obtain ⟨o,e⟩:=i.dom b (.inl h)
   rw[(hwr b hb).1] at e; exact nS e
  ·exact ⟨fun h=>hn (.inl h),fun h=>hn (.inr (F.fru b h)),o,hk b o e⟩
 ·intro i s B X hi hgen hB hdom ⟨h1,h2⟩
  refine kt.item i s _ _ hi h1 fun v h₁ tk hM hk₁=>⟨v,rfl,?_⟩
  refine kt.go i v _ _ _ hM fun h₂ hP hS hk₂=>?_
  have hk:∀b o,b∉wr→s.heap.get? b=some o→h₂.get? b=some o:=fun b o hb e=>hk₂ b o hb (hk₁ b o hb e)
  have hs:RX h₂ B:=rxk s.heap B h₂ B ⟨fun a o e na=>hk a o (fun q=>na (hB a q)) e,fun a q=>.inl q⟩ h2
  obtain ⟨x,hx,hr⟩:=val i v h₂ B hP hs
  exact ⟨Moves.heap hk,⟨hS,hs⟩,x,hx,hr⟩
 ·intro s B X hgen hdom ⟨h1,h2⟩
  exact kt.done s _ _ h1 fun h' tk hk=>⟨rfl,Moves.heap hk⟩
theorem RelL.at {h:Heap}{A':Addr→Prop}:∀{xs:List AV} {vs:List Value} {i:Nat} {v:Value},RelL K h A' vs xs→vs[i]?=some v→∃x,xs[i]?=some x∧VRel K h A' v x
 | [],vs,i,v,r,e=>by subst r; simp at e
 | x::xs,vs,i,v,⟨u,r,eq,h1,h2⟩,e=>by
  subst eq
  cases i with
  | zero=>simp at e; subst e; exact ⟨x,rfl,h1⟩
  | succ i=>simp at e; obtain ⟨y,hy,hr⟩:=RelL.at h2 e; exact ⟨y,by simpa using hy,hr⟩
theorem RelD.at {h:Heap}{A':Addr→Prop}:∀{xs:List (Str × AV)} {vs:List (Str × Value)} {i:Nat} {v:Str × Value},RelD K h A' vs xs→vs[i]?=some v→∃x,xs[i]?=some x∧v.1=x.1∧x.1.length≤sizeLine∧VRel K h A' v.2 x.2
 | [],vs,i,v,r,e=>by subst r; simp at e
 | x::xs,vs,i,v,⟨u,r,eq,hl,h1,h2⟩,e=>by
  subst eq
  cases i with
  | zero=>simp at e; subst e; exact ⟨x,rfl,rfl,hl,h1⟩
  | succ i=>simp at e; obtain ⟨y,hy,hr⟩:=RelD.at h2 e; exact ⟨y,by simpa using hy,hr⟩
section
variable {k:List AV→AEnv→Option R}{res:R}{Q X:Value→Shared→Prop}
 (hQ:ItK K bb F A σ target k res Q)
include hQ
theorem src_list (i:Inv K F σ env)(hh:A.handled=none){v:Value}(r:VRel K σ.s.heap (Av F σ) v (.list xs))(q:k xs env=some res):wpAny (model K.p K.w) A (pyIter v) Q X σ.s:=by
 obtain ⟨ax,vs,rfl,na,hp,hl,rl⟩:=r
 obtain ⟨o,ho⟩:∃o,σ.s.heap.get? ax=some o:=by obtain ⟨n,h⟩:=hp; exact ⟨_,h⟩
 have hn:ax≠σ.s.heap.objs.size:=Nat.ne_of_lt (Heap.lt_size ho)
 have hlen:xs.length=vs.size:=by rw[←RelL.length _ rl,Array.length_toList]
 refine wpAny_pyIter_list hp.isList ?_
 refine It.mk { σ.s with heap:=σ.s.heap.push { cls:=.type "list_iterator",data:=.fields #[.ref ax,.int 0 0] } } (bb:=bb) (fp:=[σ.s.heap.objs.size,ax]) (wr:=[σ.s.heap.objs.size]) i push_keep rfl rfl (fun b hb=>?_) (fun b hb=>?_)
  hlen (KTurns.ofWalks (Walks.list hh σ.s.heap.objs.size ax hn vs) fun i v s Q E st q=>letGo_listiter st.1 q) (fun i h st b hb=>?_) ⟨⟨_,Heap.get?_push_size _ rfl,rfl,rfl⟩,hp.isList.push _⟩
  (fun h B=>RelL K h B vs.toList xs) rl (fun J J J J hs r=>RelL.kp hs _ r) (fun i v h B p rl=>?_) (fun s Q E st q=>wpAny_pyIter_listiter st.1 q) hQ hl q
 ·rw[List.mem_singleton.mp hb]; exact ⟨get_size _,_,Heap.get?_push_size _ rfl⟩
 ·rcases List.mem_cons.mp hb with rfl|hb
  ·exact .inl (List.mem_singleton.mpr rfl)
  ·rw[List.mem_singleton.mp hb]; exact .inr ⟨na,o,ho⟩
 ·rw[List.mem_singleton.mp hb]; obtain ⟨⟨o,e,_⟩,_⟩:=st; exact ⟨o,e⟩
 ·skip
  obtain ⟨x,hx,hr⟩:=RelL.at rl (i:=i) (v:=v) (by simpa using p)
  exact ⟨x,hx,IRel.of hr⟩
theorem src_tup (i:Inv K F σ env)(hh:A.handled=none){v:Value}(r:VRel K σ.s.heap (Av F σ) v (.tup xs))(q:k xs env=some res):wpAny (model K.p K.w) A (pyIter v) Q X σ.s:=by
 obtain ⟨ax,vs,rfl,na,hp,hl,rl⟩:=r
 obtain ⟨o,ho⟩:∃o,σ.s.heap.get? ax=some o:=by obtain ⟨o,h,_⟩:=hp; exact ⟨_,h⟩
 have hn:ax≠σ.s.heap.objs.size:=Nat.ne_of_lt (Heap.lt_size ho)
 have hlen:xs.length=vs.size:=by rw[←RelL.length _ rl,Array.length_toList]
 have hp':σ.s.heap.IsTuple ax vs:=hp
 refine wpAny_pyIter_tuple hp' ?_
 refine It.mk { σ.s with heap:=σ.s.heap.push { cls:=.type "tuple_iterator",data:=.fields #[.ref ax,.int 0 0] } } (bb:=bb) (fp:=[σ.s.heap.objs.size,ax]) (wr:=[σ.s.heap.objs.size]) i push_keep rfl rfl (fun b hb=>?_) (fun b hb=>?_)
  hlen (KTurns.ofWalks (Walks.tuple hh σ.s.heap.objs.size ax hn vs) fun i v s Q E st q=>letGo_tupleiter st.1 q) (fun i h st b hb=>?_) ⟨⟨_,Heap.get?_push_size _ rfl,rfl,rfl⟩,hp'.at fun o e=>push_keep _ o e⟩
  (fun h B=>RelL K h B vs.toList xs) rl (fun J J J J hs r=>RelL.kp hs _ r) (fun i v h B p rl=>?_) (fun s Q E st q=>wpAny_pyIter_tupleiter st.1 q) hQ hl q
 ·rw[List.mem_singleton.mp hb]; exact ⟨get_size _,_,Heap.get?_push_size _ rfl⟩
 ·rcases List.mem_cons.mp hb with rfl|hb
  ·exact .inl (List.mem_singleton.mpr rfl)
  ·rw[List.mem_singleton.mp hb]; exact .inr ⟨na,o,ho⟩
 ·rw[List.mem_singleton.mp hb]; obtain ⟨⟨o,e,_⟩,_⟩:=st; exact ⟨o,e⟩
 ·skip
  obtain ⟨x,hx,hr⟩:=RelL.at rl (i:=i) (v:=v) (by simpa using p)
  exact ⟨x,hx,IRel.of hr⟩
theorem src_dict (i:Inv K F σ env)(hh:A.handled=none){v:Value}{es:List (Str × AV)}(r:VRel K σ.s.heap (Av F σ) v (.dict es))(hn:isTupT target=false)(q:k (es.map fun e=>.str e.1) env=some res):wpAny (model K.p K.w) A (pyIter v) Q X σ.s:=by
 obtain ⟨ax,kvs,rfl,na,hsm,hp,hl,rl⟩:=r
 obtain ⟨o,ho⟩:∃o,σ.s.heap.get? ax=some o:=by obtain ⟨o,_,_,h,_⟩:=hp; exact ⟨_,h⟩
 have hne:ax≠σ.s.heap.objs.size:=Nat.ne_of_lt (Heap.lt_size ho)
 have hlen:(es.map fun e=>AV.str e.1).length=kvs.length:=by rw[List.length_map,RelD.length _ rl]
 obtain ⟨ep,hat⟩:=hp.dictAt
 refine wpAny_pyIter_dict hsm hat ?_
 refine It.mk { σ.s with heap:=σ.s.heap.push { cls:=.type "dict_keyiterator",data:=.fields #[.ref ax,.int 0 0,.int kvs.length 0,.int ep 0] } } (bb:=bb) (xs:=es.map fun e=>AV.str e.1) (fp:=[σ.s.heap.objs.size,ax]) (wr:=[σ.s.heap.objs.size]) i push_keep rfl rfl (fun b hb=>?_) (fun b hb=>?_)
  hlen (KTurns.ofWalks (Walks.dictKeys (knd:=PySem.strKind K.p K.w) hh σ.s.heap.objs.size ax hne kvs ep) fun i v s Q E st q=>letGo_keyiter st.1 q) (fun i h st b hb=>?_) ⟨⟨_,Heap.get?_push_size _ rfl,rfl,rfl⟩,hat.at' fun o e=>push_keep _ o e⟩
  (fun h B=>RelD K h B kvs es) rl (fun J J J J hs r=>RelD.kp hs _ r) (fun i v h B p rl=>?_) (fun s Q E st q=>wpAny_pyIter_keyiter st.1 q) hQ (by rw[List.length_map]; exact hl) q
 ·rw[List.mem_singleton.mp hb]; exact ⟨get_size _,_,Heap.get?_push_size _ rfl⟩
 ·rcases List.mem_cons.mp hb with rfl|hb
  ·exact .inl (List.mem_singleton.mpr rfl)
  ·rw[List.mem_singleton.mp hb]; exact .inr ⟨na,o,ho⟩
 ·rw[List.mem_singleton.mp hb]; obtain ⟨⟨o,e,_⟩,_⟩:=st; exact ⟨o,e⟩
 ·obtain ⟨kk,x,hx,hk⟩:=p
  obtain ⟨y,hy,e1,e3,e2⟩:=RelD.at rl (i:=i) hx
  obtain ⟨t,ev⟩:=PySem.Value.isStrOf_shape hk
  subst ev
  dsimp only at e1
  subst e1
  refine ⟨.str y.1,by rw[List.getElem?_map,hy]; rfl,?_⟩
  have:VRel K h B (.str y.1 t) (.str y.1):=⟨t,rfl,e3⟩
  exact IRel.of this
end
end
section
variable {bb:Bool}{K:PW}{F:Fx}{A:Around}{C:Ctx}{E:Env}{d:Nat}{R:Type}{σ:St}{env:AEnv}{target:PySem.Expr}{I:Addr}{xs:List AV}{fp wr:List Addr}{P Md:Nat→Value→Heap→Prop}{St':Nat→Heap→Prop}
section
variable {k:List AV→AEnv→Option R}{res:R}{Q X:Value→Shared→Prop}
 (hQ:ItK K bb F A σ target k res Q)
include hQ
theorem rng_iter (i:Inv K F σ env)(hh:A.handled=none)(hn:isTupT target=false){a b c:Int}{t u v:Tok}{tk:Nat}{h':Heap}{r:Addr}(e:rngA a b c=some xs)(hk:∀a o,σ.s.heap.get? a=some o→h'.get? a=some o)
  (hr:IsRange h' r a b c t u v) (hsz:σ.s.heap.objs.size≤h'.objs.size) (q:k xs env=some res):wpAny (model K.p K.w) A (pyIter (.ref r)) Q X { σ.s with heap:=h',toks:=tk }:=by
 obtain ⟨hc,e⟩:=gdE e
 simp only[Bool.and_eq_true,decide_eq_true_eq] at hc
 obtain ⟨⟨⟨h1,h2⟩,h3⟩,h4⟩:=hc
 obtain rfl:=sI e
 have h0:0≤Builtin.Range.rangeSize a b c:=by
  unfold Builtin.Range.rangeSize
  split
  ·split
   ·have:0≤(b-a-1) / c:=Int.ediv_nonneg (by lia) (by lia)
    lia
   ·lia
  ·split
   ·have:0≤(a-b-1) / (-c):=Int.ediv_nonneg (by lia) (by lia)
    lia
   ·lia
 obtain ⟨n,hn'⟩:∃n:Nat,Builtin.Range.rangeSize a b c=(n:Int):=⟨_,(Int.toNat_of_nonneg h0).symm⟩
 have hn2:(Builtin.Range.rangeSize a b c).toNat=n:=by rw[hn']; rfl
 rw[hn2] at q
 have fresh:σ.s.heap.get? h'.objs.size=none:=Heap.get?_none_of_le hsz
 refine wpAny_pyIter_range hr h1 ?_
 refine It.mk { σ.s with heap:=h'.push { cls:=.type "range_iterator",data:=.fields #[rawInt a,rawInt (Builtin.Range.rangeSize a b c),rawInt c] },toks:=tk } (bb:=bb) (fp:=[h'.objs.size]) (wr:=[h'.objs.size]) i
  (fun x o e=>push_keep _ _ (hk x o e)) rfl rfl (fun b hb=>?_) (fun b hb=>.inl hb) (n:=n) (by rw[List.length_map,List.length_range])
  (KTurns.ofWalks (Walks.range hh h'.objs.size a c n).bound fun i v s Q E st q=>wpAny_of_eq (letGo_name hn _ _) q) (fun i h st b hb=>?_) (by
   show IsRangeIter _ _ _ _ _
   rw[show a+((0:Nat):Int)*c=a by simp,show (n:Int)-((0:Nat):Int)=Builtin.Range.rangeSize a b c by rw[hn']; simp]
   exact Heap.get?_push_size _ rfl)
  (fun J J=>True) trivial (fun J J J J J J=>trivial) (fun i v h B p J=>?_) (fun s Q E st q=>wpAny_pyIter_rangeiter st q) hQ (by rw[List.length_map,List.length_range]; have:sizeLine=16777216:=rfl; lia) q
 ·rw[List.mem_singleton.mp hb]; exact ⟨fresh,_,Heap.get?_push_size _ rfl⟩
 ·rw[List.mem_singleton.mp hb]; exact ⟨_,st⟩
 ·obtain ⟨hi,t',ev⟩:=p
  subst ev
  refine ⟨.int (a+(i:Nat)*c),by rw[List.getElem?_map,List.getElem?_range hi]; rfl,?_⟩
  have:VRel K h B (.int (a+(i:Nat)*c) t') (.int (a+(i:Nat)*c)):=⟨t',rfl⟩
  exact IRel.of this
theorem src_range (i:Inv K F σ env)(hh:A.handled=none)(hn:isTupT target=false){vs:List AV}{us:List Value}(e:rangeA vs=some xs)(r:RelL K σ.s.heap (Av F σ) us vs)(q:k xs env=some res) :
  wpAny (model K.p K.w) A (PySem.call (.type "range") us []) (fun v s₁=>wpAny (model K.p K.w) A (pyIter v) Q X s₁) X σ.s:=by
 cases vs with
 | nil=>exact nS e
 | cons a vs =>
  obtain ⟨x,h1,e⟩:=obE e
  obtain ⟨u1,r1,rfl,hu,r⟩:=r
  rw[asI h1] at hu
  obtain ⟨t,rfl⟩:=hu
  clear h1
  cases vs with
  | nil =>
   rw[show r1=[] from r]
   exact call_range_1 (rng_iter hQ i hh hn e push_keep (IsRange.new ..) (by rw[Heap.size_push]; lia) q)
  | cons b vs =>
   obtain ⟨y,h1,e⟩:=obE e
   obtain ⟨u2,r2,rfl,hu,r⟩:=r
   rw[asI h1] at hu
   obtain ⟨t',rfl⟩:=hu
   clear h1
   cases vs with
   | nil =>
    rw[show r2=[] from r]
    exact call_range_2 (rng_iter hQ i hh hn e push_keep (IsRange.new ..) (by rw[Heap.size_push]; lia) q)
   | cons c vs =>
    obtain ⟨z,h1,e⟩:=obE e
    obtain ⟨hn',e⟩:=gdE e
    obtain ⟨u3,r3,rfl,hu,r⟩:=r
    rw[asI h1] at hu
    obtain ⟨t'',rfl⟩:=hu
    rw[nilE hn'] at r
    rw[show r3=[] from r]
    have hc:=(gdE e).1
    simp only[Bool.and_eq_true,decide_eq_true_eq] at hc
    exact call_range_3 hc.1.1.2 (rng_iter hQ i hh hn e push_keep (IsRange.new ..) (by rw[Heap.size_push]; lia) q) (.inl (PyProof.noPylong_small hc.1.2))
omit hQ in
theorem enum_get:∀{xs:List AV} {n i:Nat} {x:AV},xs[i]?=some x→(enumFrom n xs)[i]?=some (.tup [.int ((n+i:Nat)),x])
 | [],n,i,x,h=>by simp at h
 | y::r,n,0,x,h=>by simp at h; subst h; rfl
 | y::r,n,i+1,x,h=>by
  have:=enum_get (xs:=r) (n:=n+1) (i:=i) (x:=x) (by simpa using h)
  show (enumFrom (n+1) r)[i]?=_
  rw[this,show n+1+i=n+(i+1) by lia]
omit hQ in
theorem enum_len:∀{xs:List AV} {n:Nat},(enumFrom n xs).length=xs.length
 | [],n=>rfl
 | y::r,n=>by show (enumFrom (n+1) r).length+1=r.length+1; rw[enum_len]
theorem src_enum (i:Inv K F σ env)(hh:A.handled=none)(hn:isTup1 target=true){vs:List AV}{us:List Value}(e:enumA vs=some xs)(r:RelL K σ.s.heap (Av F σ) us vs)(q:k xs env=some res) :
  wpAny (model K.p K.w) A (PySem.call (.type "enumerate") us []) (fun v s₁=>wpAny (model K.p K.w) A (pyIter v) Q X s₁) X σ.s:=by
 obtain ⟨elts,kk,pos,rfl⟩:∃a b c,target=.Tuple a b c:=by
  cases target <;> first|exact ⟨_,_,_,rfl⟩|exact nT' hn
 obtain ⟨a,h1,e⟩:=obE e
 obtain ⟨ys,h2,e⟩:=obE e
 rw[oneE h1,asL h2] at r
 rw[←sI e] at q
 clear e h1 h2
 obtain ⟨u1,r1,rfl,⟨l,vs,rfl,na,hp,hl,rl⟩,q1⟩:=r
 rw[show r1=[] from q1]
 obtain ⟨o,ho⟩:∃o,σ.s.heap.get? l=some o:=by obtain ⟨n,h⟩:=hp; exact ⟨_,h⟩
 have hlt:=Heap.lt_size ho
 have hlen:(enumFrom 0 ys).length=vs.size:=by rw[enum_len,←RelL.length _ rl,Array.length_toList]
 refine call_enumerate_list hp.isList fun h' he hit hsz hk=>wpAny_pyIter_enum he ?_
 refine It.mk { σ.s with heap:=h' } (bb:=bb) (fp:=[σ.s.heap.objs.size+1,σ.s.heap.objs.size,l]) (wr:=[σ.s.heap.objs.size+1,σ.s.heap.objs.size]) i hk rfl rfl (fun b hb=>?_) (fun b hb=>?_)
  hlen (KTurns.ofWalksU (WalksT.enumerate hh (σ.s.heap.objs.size+1) σ.s.heap.objs.size l (Nat.succ_ne_self _) (Nat.ne_of_lt (Nat.lt_succ_of_lt hlt)) (Nat.ne_of_lt hlt) vs).toU.bound) (fun i h st b hb=>?_)
  ⟨⟨_,he⟩,hit,hp.isList.at fun o e=>hk _ o e⟩ (fun h B=>RelL K h B vs.toList ys) rl (fun J J J J hs r=>RelL.kp hs _ r) (fun i v h B p rl=>?_) (fun s Q E st q=>by obtain ⟨⟨old,he⟩,_⟩:=st; exact wpAny_pyIter_enum he q) hQ (by rw[enum_len]; exact hl) q
 ·rcases List.mem_cons.mp hb with rfl|hb
  ·exact ⟨Heap.get?_none_of_le (by lia),_,he⟩
  ·rw[List.mem_singleton.mp hb]
   obtain ⟨o,ho,_⟩:=hit
   exact ⟨get_size _,o,ho⟩
 ·rcases List.mem_cons.mp hb with rfl|hb
  ·exact .inl (by simp)
  ·rcases List.mem_cons.mp hb with rfl|hb
   ·exact .inl (by simp)
   ·rw[List.mem_singleton.mp hb]; exact .inr ⟨na,o,ho⟩
 ·obtain ⟨⟨old,he⟩,⟨o,ho,_⟩,_⟩:=st
  rcases List.mem_cons.mp hb with rfl|hb
  ·exact ⟨_,he⟩
  ·rw[List.mem_singleton.mp hb]; exact ⟨o,ho⟩
 ·obtain ⟨T,vals,ev,⟨hi,t,x,hx,e⟩,hT⟩:=p
  subst ev e
  obtain ⟨y,hy,hr⟩:=RelL.at rl (i:=i) (v:=x) (by simpa using hx)
  refine ⟨_,enum_get hy,?_⟩
  refine ⟨T,_,rfl,id,hT,?_,.int i t,[x],rfl,⟨t,by simp⟩,x,[],rfl,hr,rfl⟩
  show 2≤sizeLine
  decide
theorem src_items (i:Inv K F σ env)(hh:A.handled=none)(hn:isTup1 target=true){es:List (Str × AV)}{d:Addr}(r:VRel K σ.s.heap (Av F σ) (.ref d) (.dict es))(q:k (es.map fun e=>.tup [.str e.1,e.2]) env=some res){E:Env}{pos:Pos} :
  wpAny (model K.p K.w) A (callWith pos (.builtin "dict.items") [.ref d] [] []) (fun v s₁=>wpAny (model K.p K.w) A (pyIter v) Q X s₁) X σ.s:=by
 obtain ⟨elts,kk,tpos,rfl⟩:∃a b c,target=.Tuple a b c:=by
  cases target <;> first|exact ⟨_,_,_,rfl⟩|exact nT' hn
 obtain ⟨ax,kvs,eq,na,hsm,hp,hl,rl⟩:=r
 (injection eq with eq; subst eq)
 obtain ⟨o,ho⟩:∃o,σ.s.heap.get? d=some o:=by obtain ⟨o,_,_,h,_⟩:=hp; exact ⟨_,h⟩
 have hlt:=Heap.lt_size ho
 obtain ⟨ep,hat⟩:=hp.dictAt
 have hlen:(es.map fun e=>AV.tup [.str e.1,e.2]).length=kvs.length:=by rw[List.length_map,RelD.length _ rl]
 have hs1:(σ.s.heap.push { cls:=.type "dict_items",data:=.fields #[.ref d] }).objs.size=σ.s.heap.objs.size+1:=Heap.size_push ..
 refine method_meetsIn PySem.F.slot_dict_items PySem.F.entry_dict_items rfl (PySem.evalArgs_none ⟨rfl,hp.typeIs,PySem.F.args_dict_items_1 _,_,meets_dict_items (PySem.strKind K.p K.w) d hsm,⟨kvs,hp⟩,?_⟩)
 refine wpAny_pyIter_items (d:=d) (kvs:=kvs) (ep:=ep) (knd:=PySem.strKind K.p K.w) ⟨_,Heap.get?_push_size _ rfl,rfl,rfl⟩ (hat.at' fun o e=>push_keep _ o e) ?_
 have hk:∀a o,σ.s.heap.get? a=some o→((σ.s.heap.push { cls:=.type "dict_items",data:=.fields #[.ref d] }).push { cls:=.type "dict_itemiterator",data:=.fields #[.none,.bool false,.ref d,.int 0 0,.int kvs.length 0,.int ep 0,.none,.none] }).get? a=some o :=
  fun a o e=>push_keep _ _ (push_keep _ _ e)
 show Q (.ref (σ.s.heap.push { cls:=.type "dict_items",data:=.fields #[.ref d] }).objs.size) { σ.s with heap:=(σ.s.heap.push { cls:=.type "dict_items",data:=.fields #[.ref d] }).push { cls:=.type "dict_itemiterator",data:=.fields #[.none,.bool false,.ref d,.int 0 0,.int kvs.length 0,.int ep 0,.none,.none] } }
 rw[hs1]
 refine It.mk { σ.s with heap:=(σ.s.heap.push { cls:=.type "dict_items",data:=.fields #[.ref d] }).push { cls:=.type "dict_itemiterator",data:=.fields #[.none,.bool false,.ref d,.int 0 0,.int kvs.length 0,.int ep 0,.none,.none] } }
  (bb:=bb) (xs:=es.map fun e=>AV.tup [.str e.1,e.2]) (fp:=[σ.s.heap.objs.size+1,d]) (wr:=[σ.s.heap.objs.size+1]) i hk rfl rfl (fun b hb=>?_) (fun b hb=>?_)
  hlen (kti_itemsTurns (knd:=PySem.strKind K.p K.w) hh (σ.s.heap.objs.size+1) d (Nat.ne_of_lt (Nat.lt_succ_of_lt hlt)) kvs ep) (fun i h st b hb=>?_)
  ⟨⟨.none,.none,?_⟩,hat.at' fun o e=>hk _ o e⟩ (fun h B=>RelD K h B kvs es) rl (fun J J J J hs r=>RelD.kp hs _ r) (fun i v h B p rl=>?_) (fun s Q E st q=>by obtain ⟨⟨ok,ov,he⟩,_⟩:=st; exact PySem.W.kcp_self he q) hQ (by rw[List.length_map]; exact hl) q
 ·rw[List.mem_singleton.mp hb]
  have:=Heap.get?_push_size (σ.s.heap.push { cls:=.type "dict_items",data:=.fields #[.ref d] }) (o:={ cls:=.type "dict_itemiterator",data:=.fields #[.none,.bool false,.ref d,.int 0 0,.int kvs.length 0,.int ep 0,.none,.none] }) rfl
  rw[hs1] at this
  exact ⟨Heap.get?_none_of_le (Nat.le_succ _),_,this⟩
 ·rcases List.mem_cons.mp hb with rfl|hb
  ·exact .inl (by simp)
  ·rw[List.mem_singleton.mp hb]; exact .inr ⟨na,o,ho⟩
 ·obtain ⟨⟨ok,ov,he⟩,_⟩:=st
  rw[List.mem_singleton.mp hb]; exact ⟨_,he⟩
 ·have:=Heap.get?_push_size (σ.s.heap.push { cls:=.type "dict_items",data:=.fields #[.ref d] }) (o:={ cls:=.type "dict_itemiterator",data:=.fields #[.none,.bool false,.ref d,.int 0 0,.int kvs.length 0,.int ep 0,.none,.none] }) rfl
  rw[hs1] at this
  exact this
 ·obtain ⟨T,key,kk,x,ev,hx,hk,hT⟩:=p
  subst ev
  obtain ⟨y,hy,e1,e3,e2⟩:=RelD.at rl (i:=i) hx
  obtain ⟨t,ev⟩:=PySem.Value.isStrOf_shape hk
  subst ev
  dsimp only at e1
  subst e1
  refine ⟨.tup [.str y.1,y.2],by rw[List.getElem?_map,hy]; rfl,?_⟩
  refine ⟨T,_,rfl,id,hT,?_,.str y.1 t,[x],rfl,⟨t,rfl,e3⟩,x,[],rfl,e2,rfl⟩
  show 2≤sizeLine
  decide
end
end
section
variable {bb:Bool}{K:PW}{F:Fx}{A:Around}{C:Ctx}{E:Env}{d:Nat}{R:Type}{σ σ':St}{env:AEnv}{target:PySem.Expr}
theorem str_iter (i:Inv K F σ env)(hh:A.handled=none){k:List AV→AEnv→Option R}{res:R}{Q X:Value→Shared→Prop}(hQ:ItK K bb F A σ target k res Q){v:Value}{s:Str}(r:VRel K σ.s.heap (Av F σ) v (.str s))(hn:isTupT target=false)
  (q:k (s.cps.toList.map fun c=>.str ⟨#[c]⟩) env=some res):wpAny (model K.p K.w) A (pyIter v) Q X σ.s:=by
 obtain ⟨t,rfl,hl⟩:=r
 have hl':(s.cps.toList.map fun c=>AV.str ⟨#[c]⟩).length≤sizeLine:=by rw[List.length_map,Array.length_toList]; exact hl
 have key:∀(o:Obj) (ty:String),(∀i h,Heap.IsStrIter h σ.s.heap.objs.size ty s t i→∃o,h.get? σ.s.heap.objs.size=some o)→Walks K.p K.w A σ.s.heap.objs.size [σ.s.heap.objs.size] [σ.s.heap.objs.size] s.cps.size (SignAt s) (fun i h=>h.IsStrIter σ.s.heap.objs.size ty s t i) →
   Heap.IsStrIter (σ.s.heap.push o) σ.s.heap.objs.size ty s t 0→o.isFreed=false→Q (.ref σ.s.heap.objs.size) { σ.s with heap:=σ.s.heap.push o }:=fun o ty hlv W st hf=>by
  refine It.mk { σ.s with heap:=σ.s.heap.push o } (bb:=bb) (fp:=[σ.s.heap.objs.size]) (wr:=[σ.s.heap.objs.size]) i push_keep rfl rfl (fun b hb=>?_) (fun b hb=>.inl hb) (by rw[List.length_map,Array.length_toList])
   (KTurns.ofWalks W fun i v s Q E st q=>wpAny_of_eq (letGo_name hn _ _) q) (fun i h st b hb=>?_) st (fun J J=>True) trivial (fun J J J J J J=>trivial) (fun i v h B p J=>?_) (fun s Q E st q=>W.self 0 s Q E st q) hQ hl' q
  ·rw[List.mem_singleton.mp hb]; exact ⟨get_size _,_,Heap.get?_push_size _ hf⟩
  ·rw[List.mem_singleton.mp hb]; exact hlv i h st
  ·obtain ⟨c,u,hc,ev⟩:=p
   subst ev
   refine ⟨.str ⟨#[c]⟩,?_,?_⟩
   ·rw[List.getElem?_map]
    have:s.cps.toList[i]?=some c:=by simpa using hc
    rw[this]; rfl
   ·have:VRel K h B (.str ⟨#[c]⟩ u) (.str ⟨#[c]⟩):=⟨u,rfl,by show 1≤sizeLine; decide⟩
    exact IRel.of this
 cases ha:s.cps.all (·<128)
 ·exact wpAny_pyIter_wide ha (key _ "str_iterator" (fun i h ⟨o,e,_⟩=>⟨o,e⟩) (Walks.strWide hh _ s t) ⟨_,Heap.get?_push_size _ rfl,rfl,rfl⟩ rfl)
 ·exact wpAny_pyIter_ascii ha (key _ "str_ascii_iterator" (fun i h ⟨o,e,_⟩=>⟨o,e⟩) (Walks.strAscii hh _ s t) ⟨_,Heap.get?_push_size _ rfl,rfl,rfl⟩ rfl)
theorem iterT_ok (i:Inv K F σ env)(hh:A.handled=none){k:List AV→AEnv→Option R}{X:AX→AEnv→Option R}{res:R}{Q EX:Value→Shared→Prop}(hQ:ItK K bb F A σ target k res Q){v:Value}{a:AV}(r:VRel K σ.s.heap (Av F σ) v a)
  (q:(liftO (iterT (isTupT target) a):M R (List AV)) k X env=some res):wpAny (model K.p K.w) A (pyIter v) Q EX σ.s:=by
 cases a with
 | list xs=>exact src_list hQ i hh r q
 | tup xs=>exact src_tup hQ i hh r q
 | dict es =>
  cases h:isTupT target with
  | true=>rw[h] at q; exact nS q
  | false=>rw[h] at q; exact src_dict hQ i hh r h q
 | str s =>
  cases h:isTupT target with
  | true=>rw[h] at q; exact nS q
  | false=>rw[h] at q; exact str_iter i hh hQ r h q
 | _=>exact nS q
theorem it_val {m:M R AV}{t:Sem Value}(hh:A.handled=none)(h:At K bb F A σ env m t (Val K F)):ItAt K bb F A σ env (bnd m fun v=>liftO (iterT (isTupT target) v)) target t:=fun k X res e Q EX hQ hE =>
 wpAny_mono (h (fun v e'=>liftO (iterT (isTupT target) v) k X e') X res e) (fun v s' ⟨a,env',ob',i,ex,r,q⟩=>iterT_ok i hh (ItK.later hQ ex) r q) fun e s' h=>hE e s' h
theorem ItAt.gd {c:Bool}{m:M R (List AV)}{t:Sem Value}(h:c=true→ItAt K bb F A σ env m target t):ItAt K bb F A σ env (gdM c m) target t:=by
 cases c with
 | true=>exact h rfl
 | false=>exact ItAt.stuck
theorem it_call (G:Good K F A C E d){n:Nat}(S:Snd K F A C E n)(i:Inv K F σ env){x:Str}{np pos:Pos}{b:Bn}{as:List PySem.Expr}{f:List AV→Option (List AV)}(hx:srcOf C x=some b)(hp:as.all plainArg=true)
  (hf:∀(σ:St) env (vs:List AV) us xs (k:List AV→AEnv→Option R) res (Q EX:Value→Shared→Prop),Inv K F σ env→ItK K bb F A σ target k res Q→f vs=some xs→RelL K σ.s.heap (Av F σ) us vs→k xs env=some res →
   wpAny (model K.p K.w) A (PySem.call b.val us []) (fun v s₁=>wpAny (model K.p K.w) A (pyIter v) Q (EX:Value→Shared→Prop) s₁) EX σ.s) :
  ItAt K bb F A (R:=R) σ env (bnd (evs n C as) fun vs=>liftO (f vs)) target (eval (.Call (.Name x np) as [] pos) E):=by
 intro k X res q Q EX hQ hE
 rw[arm_eval_Call_Name']
 have hg:isG C x=true∧C.glob x=some (.bi b):=by
  obtain ⟨h,hx⟩:=gdE hx
  obtain ⟨v,h1,hx⟩:=obE hx
  exact ⟨h,asBi hx▸h1⟩
 have q0:nmM C x (fun a e'=>match a with|.bi b'=>gd (decide (b'=b)) ((bnd (evs n C as) fun vs=>liftO (f vs)) k X e')|_=>none) X env=some res:=by
  unfold nmM
  rw[hg.1]
  simp only[bnd,liftO,hg.2,ret,decide_true]
  exact q
 refine wpAny_bind (wpAny_mono (nm_ok (bb:=bb) G i (pos:=np) _ X res q0) (fun v s₁ ⟨a,env₁,ob₁,i₁,ex₁,r,q₁⟩=>?_) fun e s h=>hE e s h)
 cases a with
 | bi b' =>
  obtain ⟨hb,q₂⟩:=gdE q₁
  clear q₁
  have hb:=of_decide_eq_true hb
  subst hb
  subst r
  refine callWith_of (P:=fun h=>True) (by rw[starEach_plain hp pos]; rfl) (fun h J=>⟨.machine,.inr (.inl rfl),by cases b' <;> exact Looks.of_pure rfl⟩) ?_
  rw[evalArgs_eq (starEach_plain hp pos) rfl]
  refine wpAny_bind (wpAny_mono (S.evs R as pos ⟨s₁,ob₁⟩ env₁ i₁ (fun vs e'=>(liftO (f vs):M R (List AV)) k X e') X res q₂) (fun us s' ⟨vs,env',ob',i',ex',r,q'⟩=>?_) fun e s ⟨a,env'',ob'',i'',ex'',p'',q''⟩=>hE e s ⟨a,env'',ob'',i'',ex₁.trans ex'',p'',q''⟩)
  refine wpAny_holding (wpAny_bind (wpAny_pure (wpAny_pure ⟨trivial,?_⟩)))
  cases hv:f vs with
  | none=>rw[hv] at q'; exact nS q'
  | some xs =>
   rw[hv] at q'
   exact hf ⟨s',ob'⟩ env' vs us xs k res Q EX i' (ItK.later hQ (ex₁.trans ex')) hv r q'
 | _=>exact nS q₁
theorem it_gen (G:Good K F A C E d){n:Nat}(S:Snd K F A C E n)(i:Inv K F σ env){x:Str}{np pos:Pos}{a:Addr}{as:List PySem.Expr}(hx:genOf C x=some a)(hp:as.all plainArg=true)(ht:isTupT target=false) :
  ItAt K bb F A (R:=R) σ env (bnd (evs n C as) fun vs=>liftO (C.gen a vs)) target (eval (.Call (.Name x np) as [] pos) E):=by
 intro k X res q Q EX hQ hE
 rw[arm_eval_Call_Name']
 have hg:isG C x=true∧C.glob x=some (.obj a)∧C.isGn a=true:=by
  obtain ⟨h,hx⟩:=gdE hx
  obtain ⟨v,h1,hx⟩:=obE hx
  obtain ⟨b,h2,hx⟩:=obE hx
  obtain ⟨h3,hx⟩:=gdE hx
  rw[←sI hx]
  exact ⟨h,asO h2▸h1,h3⟩
 have q0:nmM C x (fun v e'=>match v with|.obj b=>gd (Nat.beq b a) ((bnd (evs n C as) fun vs=>liftO (C.gen a vs)) k X e')|_=>none) X env=some res:=by
  unfold nmM
  rw[hg.1]
  simp only[bnd,liftO,hg.2.1,ret,Nat.beq_refl]
  exact q
 refine wpAny_bind (wpAny_mono (nm_ok (bb:=bb) G i (pos:=np) _ X res q0) (fun v s₁ ⟨av,env₁,ob₁,i₁,ex₁,r,q₁⟩=>?_) fun e s h=>hE e s h)
 cases av with
 | obj b =>
  obtain ⟨hb,q₂⟩:=gdE q₁
  clear q₁
  have hb:=Nat.eq_of_beq_eq_true hb
  subst hb
  subst r
  obtain ⟨o,fd,ho,hd⟩:=G.gen.isfn _ hg.2.2
  refine callWith_of (P:=fun h=>∃o fd,h.get? b=some o∧o.data=.func fd) (by rw[starEach_plain hp pos]; rfl) (fun h ⟨o,fd,ho,hd⟩=>⟨.frame,.inl rfl,(Looks.ld (part:=none) ho).andThen (by rw[hd]; exact .now)⟩) ?_
  rw[evalArgs_eq (starEach_plain hp pos) rfl]
  refine wpAny_bind (wpAny_mono (S.evs R as pos ⟨s₁,ob₁⟩ env₁ i₁ (fun vs e'=>(liftO (C.gen b vs):M R (List AV)) k X e') X res q₂) (fun us s' ⟨vs,env',ob',i',ex',r,q'⟩=>?_) fun e s ⟨a,env'',ob'',i'',ex'',p'',q''⟩=>hE e s ⟨a,env'',ob'',i'',ex₁.trans ex'',p'',q''⟩)
  refine wpAny_holding (wpAny_bind (wpAny_pure (wpAny_pure ⟨⟨o,fd,i'.old _ _ ho,hd⟩,?_⟩)))
  cases hv:C.gen b vs with
  | none=>rw[hv] at q'; exact nS q'
  | some xs =>
   rw[hv] at q'
   exact G.gen.run R F ⟨s',ob'⟩ env' b vs us xs target k res Q EX rfl i' hv r ht (ItK.later hQ (ex₁.trans ex')) q'
 | _=>exact nS q₁
theorem itr_ok (G:Good K F A C E d){n:Nat}(S:Snd K F A C E n)(i:Inv K F σ env)(e:PySem.Expr)(ht:isTupT target=isTup1 target):ItAt K bb F A (R:=R) σ env (itrG (ev n C) (evs n C) C (isTupT target) e) target (eval e E):=by
 have hh:=G.room.hd
 have gen:ItAt K bb F A (R:=R) σ env (bnd (ev n C e) fun v=>liftO (iterT (isTupT target) v)) target (eval e E):=it_val hh (S.ev _ _ _ _ i)
 unfold itrG
 cases h0:asCN e with
 | some r =>
  obtain ⟨x,as,ks⟩:=r
  obtain ⟨np,p,rfl⟩:=asCN_eq h0
  dsimp only
  clear h0
  cases hx:genOf C x with
  | some a =>
   refine ItAt.gd fun hc=>?_
   simp only[Bool.and_eq_true,Bool.not_eq_true'] at hc
   obtain rfl:=nilE hc.1.1
   exact it_gen G S i hx hc.1.2 hc.2
  | none =>
   dsimp only
   cases hs:srcOf C x with
   | none=>exact gen
   | some b =>
    cases b with
    | range =>
     refine ItAt.gd fun hc=>?_
     simp only[Bool.and_eq_true,Bool.not_eq_true'] at hc
     obtain rfl:=nilE hc.1.1
     exact it_call G S i hs hc.1.2 fun σ env vs us xs k res Q EX i hQ hv r q=>src_range hQ i hh hc.2 hv r q
    | enumerate =>
     refine ItAt.gd fun hc=>?_
     simp only[Bool.and_eq_true] at hc
     obtain rfl:=nilE hc.1.1
     exact it_call G S i hs hc.1.2 fun σ env vs us xs k res Q EX i hQ hv r q=>src_enum hQ i hh (ht▸hc.2) hv r q
    | _=>exact gen
 | none =>
  dsimp only
  clear h0
  cases h0:asCA e with
  | none=>exact gen
  | some r =>
   obtain ⟨o,m,ap,as,ks,p0⟩:=r
   dsimp only
   cases hm:sEqB m (PySem.Str.ofString "items") with
   | false=>exact gen
   | true =>
    obtain rfl:=asCA_eq h0
    refine ItAt.gd fun hc=>?_
    simp only[Bool.and_eq_true] at hc
    obtain ⟨⟨⟨h1,h2⟩,h3⟩,h4⟩:=hc
    obtain rfl:=nilE h1
    obtain rfl:=nilE h2
    have hm':m=PySem.Str.ofString "items":=by rw[sEqB_eq] at hm; exact of_decide_eq_true hm
    subst hm'
    intro k X res q Q EX hQ hE
    refine wpAny_Call_method (T:="dict") (id:="dict.items") (base_whole h3.1) rfl h3.2 PySem.F.plainAttrs_dict PySem.F.slot_dict_items PySem.F.type_dict_items ?_
    refine wpAny_mono (S.ev R o σ env i (fun v e'=>(liftO (itemsA v):M R (List AV)) k X e') X res q) (fun v s' ⟨a,env',ob',i',ex',r,q'⟩=>?_) fun e s' h=>hE e s' h
    cases a with
    | dict es =>
     obtain ⟨dd,kvs,rfl,na,hsm,hp,hl,rl⟩:=id r
     exact ⟨hp.typeIs,hp.mapOf.noDict,src_items (ItK.later hQ ex') i' hh (ht▸h4) r q' (E:=E) (pos:=p0)⟩
    | _=>exact nS q'
end
noncomputable def clOf (cells:List (Str × Addr)):List (Str × NameKind)→List (Str × Addr)→List (Str × Addr)
 | [],acc=>acc
 | (n,k)::r,acc=>if k == .free then clOf cells r ((n,(cells.lookup n).getD 0)::acc) else clOf cells r acc
theorem isFn_ok {k:ScopeKind}(h:isFn k=true):k=.function:=by cases k <;> first|rfl|exact nT' h
theorem sEqB_true {x y:Str}(h:sEqB x y=true):x=y:=by rw[sEqB_eq] at h; exact of_decide_eq_true h
theorem sEqB_false {x y:Str}(h:sEqB x y=false):x≠y:=by rw[sEqB_eq] at h; exact of_decide_eq_false h
theorem closure_aux (E:Env)(f:Str × NameKind→List (Str × Addr)→Sem (ForInStep (List (Str × Addr))))
  (hf:∀n k cs,f (n,k) cs=if k == .free then (do let a ←cellOf E n; pure (.yield ((n,a)::cs))) else pure (.yield cs)) :
  ∀(names:List (Str × NameKind)) (acc:List (Str × Addr)),(∀n,(n,NameKind.free)∈names→∃c,E.cells.lookup n=some c)→forIn names acc f=pure (clOf E.cells names acc)
 | [],acc,_=>rfl
 | (n,k)::r,acc,h=>by
  have hr:∀m,(m,NameKind.free)∈r→∃c,E.cells.lookup m=some c:=fun m hm=>h m (.tail _ hm)
  rw[List.forIn_cons,hf]
  unfold clOf
  by_cases hk:(k == .free)=true
  ·rw[if_pos hk,if_pos hk]
   have hk':k=.free:=by simpa using hk
   subst hk'
   obtain ⟨c,hc⟩:=h n (.head _)
   unfold cellOf
   rw[hc]
   simp only[pure_bind]
   exact closure_aux E f hf r _ hr
  ·rw[if_neg hk,if_neg hk]
   simp only[pure_bind]
   exact closure_aux E f hf r _ hr
theorem closure_ok {sc:Scope}{E:Env}(h:∀n,(n,NameKind.free)∈sc.names→∃c,E.cells.lookup n=some c):closureFor sc E=pure (clOf E.cells sc.names []):=by
 simp only[closureFor]
 rw[closure_aux E _ (fun n k cs=>by
  dsimp only) sc.names [] h]
 rfl
set_option tactic.hygienic true in
theorem clOf_look {cells:List (Str × Addr)}{n:Str}{c:Addr}(hc:cells.lookup n=some c):∀(names:List (Str × NameKind)) (acc:List (Str × Addr)),
  ((n,NameKind.free)∈names∨acc.lookup n=some c)→(clOf cells names acc).lookup n=some c
 | [],acc,h=>by rcases h with h|h; cases h; exact h
 | (m,k)::r,acc,h=>by
  unfold clOf
  split
  ·rename_i hk
   have hk':k=.free:=by simpa using hk
   subst hk'
   refine clOf_look hc r _ ?_
   by_cases hm:n=m
   ·subst hm; right; rw[hc]; simp
   ·rcases h with h|h
    ·left
     rcases List.mem_cons.mp h with e|h
     ·exact absurd (by cases e; rfl) hm
     ·exact h
    ·right
     rw[List.lookup_cons,show (n == m)=false from beq_eq_false_iff_ne.mpr hm]
     exact h
  ·rename_i hk
   refine clOf_look hc r _ ?_
   rcases h with h|h
   ·left
    rcases List.mem_cons.mp h with e|h
    ·exfalso; cases e; exact hk rfl
    ·exact h
   ·exact .inr h
theorem nameChk_mem {C:Ctx}{sc:Scope}{l:List (Str × NameKind)}(h:nameChk C sc l=true)(n:Str)(k:NameKind)(hm:(n,k)∈l):nameChk1 C sc (n,k)=true:=List.all_eq_true.mp h _ hm
set_option tactic.hygienic true in
theorem lookS_mem {α:Type}{x:Str}:∀{l:List (Str × α)} {v:α},lookS x l=some v→(x,v)∈l
 | [],v,h=>nomatch h
 | (y,u)::r,v,h=>by
  unfold lookS at h
  split at h
  ·rename_i e; obtain rfl:=sI h; rw[sEqB_true e]; exact .head _
  ·exact .tail _ (lookS_mem h)
theorem relabel_look (outer:List (Str × NameKind))(x:Str):∀(l:List (Str × NameKind)),lookS x (relabelN outer l)=(match lookS x l with
   | some .free=>some (match lookS x outer with|some .cell=>.cell|_=>.free)
   | o=>o)
 | []=>rfl
 | (n,k)::r=>by
  have e1:lookS x (relabelN outer ((n,k)::r))=(match sEqB x n with|true=>some (match k with|.free=>(match lookS n outer with|some .cell=>NameKind.cell|_=>.free)|k=>k)|false=>lookS x (relabelN outer r)):=rfl
  have e2:lookS x ((n,k)::r)=(match sEqB x n with|true=>some k|false=>lookS x r):=rfl
  rw[e1,e2]
  cases h:sEqB x n with
  | true =>
   rw[←sEqB_true h]
   cases k <;> rfl
  | false=>exact relabel_look outer x r
set_option tactic.hygienic true in
theorem idx_some {x:Str}:∀{l:List (Option Str)} {i:Nat},idxOf x l=some i→l[i]?=some (some x)
 | [],i,h=>nomatch h
 | y::r,i,h=>by
  unfold idxOf at h
  split at h
  ·rename_i e
   obtain rfl:=sI h
   cases y with
   | none=>exact nT' e
   | some y=>have:=sEqB_true e; subst this; rfl
  ·split at h
   ·rename_i j hj; obtain rfl:=sI h; simpa using idx_some hj
   ·exact nS h
theorem idx_mask {sc:Scope}{x:Str}(hx:isFreeN sc x=true):∀{l:List (Option Str)},idxOf x (maskN sc l)=idxOf x l
 | []=>rfl
 | o::r=>by
  unfold maskN idxOf
  rw[idx_mask hx (l:=r)]
  cases o with
  | none=>rfl
  | some y =>
   dsimp only
   cases h:isFreeN sc y with
   | true=>rfl
   | false =>
    have:sEqB x y=false:=by
     cases e:sEqB x y with
     | false=>rfl
     | true=>rw[←sEqB_true e,hx] at h; exact nT h
    dsimp only
    rw[this]
theorem idx_maskNo {sc:Scope}{x:Str}(hx:isFreeN sc x=false):∀{l:List (Option Str)},idxOf x (maskN sc l)=none
 | []=>rfl
 | o::r=>by
  unfold maskN idxOf
  rw[idx_maskNo hx (l:=r)]
  cases o with
  | none=>rfl
  | some y =>
   dsimp only
   cases h:isFreeN sc y with
   | false=>rfl
   | true =>
    have:sEqB x y=false:=by
     cases e:sEqB x y with
     | false=>rfl
     | true=>rw[←sEqB_true e,hx] at h; exact nT' h
    dsimp only
    rw[this]
theorem mask_len {sc:Scope}:∀{l:List (Option Str)},(maskN sc l).length=l.length
 | []=>rfl
 | o::r=>by unfold maskN; simp[mask_len (l:=r)]
theorem idx_app {x:Str}:∀{l r:List (Option Str)},idxOf x (l++r)=match idxOf x l with|some i=>some i|none=>match idxOf x r with|some i=>some (l.length+i)|none=>none
 | [],r=>by
  show idxOf x r=(match idxOf x r with|some i=>some (0+i)|none=>none)
  cases idxOf x r with
  | none=>rfl
  | some i=>simp
 | y::l,r=>by
  have e:∀q:List (Option Str),idxOf x (y::q)=(match (match y with|some y=>sEqB x y|none=>false) with|true=>some 0|false=>(match idxOf x q with|some i=>some (i+1)|none=>none)):=fun J=>rfl
  rw[List.cons_append,e,e,idx_app (l:=l) (r:=r)]
  generalize (match y with|some y=>sEqB x y|none=>false)=b
  cases b with
  | true=>rfl
  | false =>
   dsimp only
   cases h:idxOf x l with
   | some i=>rfl
   | none =>
    dsimp only
    cases h2:idxOf x r with
    | none=>rfl
    | some i=>simp; lia
set_option tactic.hygienic true in
theorem notIn_ok {x:Str}:∀{l:List Str},notIn x l=true→x∉l
 | [],_,h=>nomatch h
 | y::r,h,hm=>by
  unfold notIn at h
  split at h
  ·exact nT' h
  ·rename_i e
   rcases List.mem_cons.mp hm with e'|hm
   ·exact sEqB_false e e'
   ·exact notIn_ok h hm
theorem nodupS_ok:∀{l:List Str},nodupS l=true→l.Nodup
 | [],_=>List.nodup_nil
 | x::r,h=>by
  unfold nodupS at h
  rw[Bool.and_eq_true] at h
  exact List.nodup_cons.mpr ⟨notIn_ok h.1,nodupS_ok h.2⟩
noncomputable def innerF (F:Fx) (W:Addr→Prop) (Ca:Addr) (locs:List Str):Fx:={ F with pl:=F.pl++locs.map (fun x=>Place.ns Ca x),up:=fun a=>F.up a∨W a,fru:=fun a h=>.inl (F.fru a h) }
theorem padN_len:∀n,(padN n).length=n
 | 0=>rfl
 | n+1=>by show (padN n).length+1=n+1; rw[padN_len]
theorem padN_at:∀n i,slotAt (padN n) i=none
 | 0,_=>rfl
 | n+1,0=>rfl
 | n+1,i+1=>padN_at n i
theorem slotAt_app:∀{e e':AEnv} {i:Nat},i<e.length→slotAt (e++e') i=slotAt e i
 | [],_,_,h=>by simp at h
 | x::r,e',0,h=>rfl
 | x::r,e',i+1,h=>slotAt_app (e:=r) (by simpa using h)
theorem slotAt_app2:∀{e e':AEnv} {i:Nat},e.length≤i→slotAt (e++e') i=slotAt e' (i-e.length)
 | [],_,_,h=>rfl
 | x::r,e',0,h=>by simp at h
 | x::r,e',i+1,h=>by
  have:=slotAt_app2 (e:=r) (e':=e') (i:=i) (by simpa using h)
  show slotAt (r++e') i=_
  rw[this]; simp
theorem cut_len:∀{e e':AEnv},e.length≤e'.length→(cut e e').length=e.length
 | [],_,_=>rfl
 | x::r,[],h=>by simp at h
 | x::r,y::e',h=>by show (cut r e').length+1=r.length+1; rw[cut_len (by simpa using h)]
theorem cut_at:∀{e e':AEnv} {i:Nat},i<e.length→slotAt (cut e e') i=slotAt e' i
 | [],_,_,h=>by simp at h
 | x::r,[],i,h=>rfl
 | x::r,y::e',0,h=>rfl
 | x::r,y::e',i+1,h=>cut_at (e:=r) (by simpa using h)
section
variable {bb:Bool}{K:PW}{F:Fx}{A:Around}{C:Ctx}{E:Env}{d:Nat}{R:Type}{σ σ':St}{env:AEnv}{W:Addr→Prop}{Ca:Addr}{locs:List Str}
theorem inner_pl {a:Addr}(h:Pl (innerF F W Ca locs) a):Pl F a∨a=Ca:=by
 rcases h with h|⟨p,hp,e⟩
 ·exact .inl (.inl h)
 ·rcases List.mem_append.mp hp with hp|hp
  ·exact .inl (.inr ⟨p,hp,e⟩)
  ·obtain ⟨x,_,rfl⟩:=List.mem_map.mp hp
   exact .inr e.symm
theorem inner_own {a:Addr}(h:Own (innerF F W Ca locs) σ a):Own F σ a∨a=Ca:=by
 rcases h with h|h
 ·exact (inner_pl h).elim (fun h=>.inl (.inl h)) .inr
 ·exact .inl (.inr h)
theorem pl_inner {a:Addr}(h:Pl F a):Pl (innerF F W Ca locs) a:=by
 rcases h with h|⟨p,hp,e⟩
 ·exact .inl h
 ·exact .inr ⟨p,List.mem_append_left _ hp,e⟩
theorem own_inner {a:Addr}(h:Own F σ a):Own (innerF F W Ca locs) σ a:=h.elim (fun h=>.inl (pl_inner h)) .inr
theorem Inv.inner (i:Inv K F σ env){s':Shared}(hk:∀a o,σ.s.heap.get? a=some o→s'.heap.get? a=some o)(hg:s'.gens=σ.s.gens)(ho:s'.os=σ.s.os)
  (hW:∀a,W a→σ.s.heap.get? a=none∧∃o,s'.heap.get? a=some o) (hC:σ.s.heap.get? Ca=none) (hN:s'.heap.Ns Ca (fun J=>none)) (hWC:¬W Ca) (hl:locs.Nodup) :
  Inv K (innerF F W Ca locs) ⟨s',σ.ob⟩ (env++padN locs.length)∧Hst σ.s.heap (Av F σ) s'.heap (Av (innerF F W Ca locs) ⟨s',σ.ob⟩):=by
 have av:∀a,Av (innerF F W Ca locs) ⟨s',σ.ob⟩ a→Av F σ a∨W a∨a=Ca:=fun a q=>q.elim (fun q=>(inner_own q).elim (fun q=>.inl (.inl q)) fun q=>.inr (.inr q)) fun q=>q.elim (fun q=>.inl (.inr q)) fun q=>.inr (.inl q)
 have fresh:∀a,W a∨a=Ca→σ.s.heap.get? a=none:=fun a q=>q.elim (fun q=>(hW a q).1) fun q=>q▸hC
 have st:Hst σ.s.heap (Av F σ) s'.heap (Av (innerF F W Ca locs) ⟨s',σ.ob⟩):=⟨fun a o e J=>hk a o e,fun a q=>(av a q).elim .inl fun q=>.inr (fresh a q)⟩
 have exC:∃o,s'.heap.get? Ca=some o:=by obtain ⟨o,_,_,h,_⟩:=hN; exact ⟨o,h⟩
 have nCa:∀a,Av F σ a→a≠Ca:=fun a q e=>by obtain ⟨o,h⟩:=i.dom a q; rw[e,hC] at h; exact nS h
 have nW:∀a,Av F σ a→¬W a:=fun a q e=>by obtain ⟨o,h⟩:=i.dom a q; rw[(hW a e).1] at h; exact nS h
 refine ⟨⟨?_,fun j p hp=>?_,?_,i.obn,i.obu,fun x hx q=>?_,fun a q=>?_,fun a q=>?_,fun a q=>?_,fun a o e=>hk a o (i.old a o e),hg▸i.gens⟩,st⟩
 ·rw[List.length_append,padN_len,i.len]; show _=(F.pl++_).length; rw[List.length_append,List.length_map]
 ·have hp:(F.pl++locs.map (fun x=>Place.ns Ca x))[j]?=some p:=hp
  by_cases hj:j<F.pl.length
  ·rw[List.getElem?_append_left hj] at hp
   obtain ⟨v,hv,r⟩:=i.slots j p hp
   rw[slotAt_app (by rw[i.len]; exact hj)]
   exact ⟨v,hv.at fun o e=>hk _ o e,r.kp st fun a m=>⟨m,fun o e=>hk a o e⟩⟩
  ·rw[List.getElem?_append_right (Nat.le_of_not_lt hj),List.getElem?_map] at hp
   rw[slotAt_app2 (by rw[i.len]; exact Nat.le_of_not_lt hj),padN_at]
   cases h:locs[j-F.pl.length]? with
   | none=>rw[h] at hp; exact nS hp
   | some x=>rw[h] at hp; obtain rfl:=sI hp; exact ⟨none,⟨_,hN,rfl⟩,rfl⟩
 ·refine List.nodup_append.mpr ⟨i.pln,?_,fun p hp q hq e=>?_⟩
  ·exact List.Pairwise.map (fun x=>Place.ns Ca x) (fun a b h e=>h (by cases e; rfl)) hl
  ·obtain ⟨x,_,rfl⟩:=List.mem_map.mp hq
   subst e
   exact nCa _ (.inl (.inl (.inr ⟨_,hp,rfl⟩))) rfl
 ·rcases inner_pl q with q|q
  ·exact i.obp x hx q
  ·exact nCa _ (.inl (.inr (List.mem_map_of_mem hx))) q
 ·rcases inner_own q with q|q
  ·rintro (h|h)
   ·exact i.upd a q h
   ·exact nW a (.inl q) h
  ·rintro (h|h)
   ·exact nCa a (.inr h) q
   ·exact hWC (q▸h)
 ·rcases av a q with q|q|q
  ·obtain ⟨o,e⟩:=i.dom a q; exact ⟨o,hk a o e⟩
  ·exact (hW a q).2
  ·exact q▸exC
 ·have old:∀a,σ.s.heap.get? a=none→F.base.get? a=none:=fun a h=>by
   cases e:F.base.get? a with
   | none=>rfl
   | some o=>have:=i.old a o e; rw[h] at this; exact nS this
  rcases av a q with q|q
  ·exact i.new a q
  ·exact old a (fresh a q)
theorem Inv.outer {env':AEnv}{W2:Addr→Prop}(i:Inv K (innerF (F.wide W2) W Ca locs) σ env')(he:env.length=F.pl.length){s':Shared}(hg:AllBare s'.gens)(hW:∀a,W a→¬F.up a)(hW2:∀a,W2 a→¬F.up a)(hC:¬F.up Ca)(hCp:¬Pl F Ca)(hl:someB locs=true)
  (hk:∀b o,¬W b→¬W2 b→b≠Ca→σ.s.heap.get? b=some o→s'.heap.get? b=some o):Inv K F ⟨s',σ.ob⟩ (cut env env'):=by
 have hCo:Pl (innerF (F.wide W2) W Ca locs) Ca:=by
  cases locs with
  | nil=>exact nT' hl
  | cons x r=>exact .inr ⟨.ns Ca x,List.mem_append_right _ (.head _),rfl⟩
 have hob:∀x∈σ.ob,x.2≠Ca:=fun x hx e=>i.obp x hx (by rw[e]; exact hCo)
 have oi:∀a,Own F σ a→Own (innerF (F.wide W2) W Ca locs) σ a:=fun a q=>own_inner (F:=F.wide W2) q
 have off:∀a,Own F σ a→¬W a∧¬W2 a∧a≠Ca:=fun a q=>⟨fun h=>i.upd a (oi a q) (.inr h),fun h=>i.upd a (oi a q) (.inl (.inr h)),fun e=>by
  rcases q with q|q
  ·exact hCp (e▸q)
  ·obtain ⟨y,hy,e'⟩:=List.mem_map.mp q
   exact hob y hy (e'.trans e)⟩
 have nW:∀a,Av F σ a→¬W a∧¬W2 a∧a≠Ca:=fun a q=>q.elim (off a) fun q=>⟨fun h=>hW a h q,fun h=>hW2 a h q,fun e=>hC (e▸q)⟩
 have ai:∀a,Av F σ a→Av (innerF (F.wide W2) W Ca locs) σ a:=fun a q=>q.elim (fun q=>.inl (oi a q)) fun q=>.inr (.inl (.inl q))
 have hCa:Av (innerF (F.wide W2) W Ca locs) σ Ca:=.inl (.inl hCo)
 have st:Hst σ.s.heap (Av (innerF (F.wide W2) W Ca locs) σ) s'.heap (Av F ⟨s',σ.ob⟩):=⟨fun a o e na=>hk a o (fun h=>na (.inr (.inr h))) (fun h=>na (.inr (.inl (.inr h)))) (fun h=>na (h▸hCa)) e,fun a q=>.inl (ai a q)⟩
 have hlen:(innerF (F.wide W2) W Ca locs).pl.length=F.pl.length+locs.length:=by show (F.pl++_).length=_; rw[List.length_append,List.length_map]
 refine ⟨?_,fun j p hp=>?_,(List.nodup_append.mp i.pln).1,i.obn,i.obu,fun x hx q=>i.obp x hx (pl_inner (F:=F.wide W2) q),fun a q h=>i.upd a (oi a q) (.inl (.inl h)),fun a q=>?_,fun a q=>i.new a (ai a q),fun a o e=>?_,hg⟩
 ·rw[cut_len (by rw[he,i.len,hlen]; lia)]; exact he
 ·have hj:=(List.getElem?_eq_some_iff.mp hp).1
  obtain ⟨v,hv,r⟩:=i.slots j p (by show (F.pl++_)[j]?=_; rw[List.getElem?_append_left hj]; exact hp)
  rw[cut_at (by rw[he]; exact hj)]
  have hpl:Pl F p.addr:=.inr ⟨p,List.mem_of_getElem? hp,rfl⟩
  exact ⟨v,hv.at fun o e=>hk _ o (off _ (.inl hpl)).1 (off _ (.inl hpl)).2.1 (off _ (.inl hpl)).2.2 e,r.kp st fun a m=>⟨m,fun o e=>hk a o (off a (.inr (List.mem_map_of_mem m))).1 (off a (.inr (List.mem_map_of_mem m))).2.1 (off a (.inr (List.mem_map_of_mem m))).2.2 e⟩⟩
 ·obtain ⟨o,e⟩:=i.dom a (ai a q); exact ⟨o,hk a o (nW a q).1 (nW a q).2.1 (nW a q).2.2 e⟩
 ·refine hk a o (fun h=>?_) (fun h=>?_) (fun h=>?_) (i.old a o e)
  ·have:=i.new a (.inr (.inr h))
   rw[show F.base.get? a=none from this] at e; exact nS e
  ·have:=i.new a (.inr (.inl (.inr h)))
   rw[show F.base.get? a=none from this] at e; exact nS e
  ·have:=i.new a (h▸hCa)
   rw[show F.base.get? a=none from this] at e; exact nS e
theorem Ext.ofInner (x:Ext bb (innerF F W Ca locs) σ σ'){σ₀:St}(x₀:Ext bb F σ₀ σ)(hC:σ₀.s.heap.get? Ca=none):Ext bb F σ₀ σ' where
 keep a o e na nf:=x.keep a o (x₀.keep a o e na nf) (fun q=>(inner_own q).elim (fun q=>(x₀.own q).elim na fun l=>by rw[e] at l; exact nS' l) fun q=>by rw[q,hC] at e; exact nS e) nf
 kfr a o e f:=by
  obtain ⟨s1,e1⟩:=x₀.kfr a o e f
  obtain ⟨s2,e2⟩:=x.kfr a _ e1 f
  exact ⟨s2,e2⟩
 obs z hz:=(x.obs z hz).elim (fun q=>(inner_own q).elim (fun q=>x₀.own q) fun q=>.inr (q▸hC)) fun l=>by
   cases e:σ₀.s.heap.get? z.2 with
   | none=>exact .inr rfl
   | some o=>obtain ⟨o',e'⟩:=x₀.alive _ o e; rw[l] at e'; exact nS e'
 sub hb z hz:=x₀.sub hb z (x.sub hb z hz)
 fix z hz hf:=x₀.fix z (x.fix z hz hf) hf
 os:=x.os.trans x₀.os
 alive a o e:=let ⟨o',e'⟩:=x₀.alive a o e; x.alive a o' e'
 gk g st e:=x.gk g st (x₀.gk g st e)
theorem relabel_eq (hk:E.scope.kind=.function):∀l:List (Str × NameKind),relabelN E.scope.names l=l.map fun (n,k)=>if (k == NameKind.free&&E.scope.kind == .function&&E.kindOf n == some .cell) then (n,.cell) else (n,k)
 | []=>rfl
 | (n,k)::r=>by
  show (n,_)::relabelN E.scope.names r=_::List.map _ r
  rw[relabel_eq hk r]
  congr 1
  show (n,_)=(if (k == NameKind.free&&E.scope.kind == .function&&E.scope.names.lookup n == some .cell)=true then (n,NameKind.cell) else (n,k))
  rw[hk,←lookS_eq n E.scope.names]
  cases k with
  | free =>
   dsimp only
   cases h:lookS n E.scope.names with
   | none=>rfl
   | some k'=>cases k' <;> rfl
  | _=>rfl
theorem innerC_sc (G:Good K F A C E d)(sc:Scope)(cl:List (Str × Addr)):(innerC C sc).sc=(compEnvC sc cl Ca E).scope:=by
 show ({ sc with names:=relabelN C.sc.names sc.names }:Scope)=relabel sc E
 unfold relabel
 rw[G.fok.sc,relabel_eq G.fok.kind]
theorem chk_parts {sc:Scope}(h:compChk C sc=true):sc.kind=.function∧nameChk C sc sc.names=true∧(locN sc.names).Nodup∧someB (locN sc.names)=true:=by
 unfold compChk at h
 simp only[Bool.and_eq_true] at h
 exact ⟨isFn_ok h.1.1.1,h.1.1.2,nodupS_ok h.1.2,h.2⟩
theorem free_cell (G:Good K F A C E d){sc:Scope}(h:nameChk C sc sc.names=true){n:Str}(hn:(n,NameKind.free)∈sc.names) :
  ∃i c,slotIx C n=some i∧F.pl[i]?=some (.cell c)∧E.cells.lookup n=some c∧(n == ("__debug__":Str))=false∧isFreeN sc n=true∧(n == ("__classdict__":Str))=false:=by
 have q:(isFr (lookS n sc.names)&&isCf (kindA C n)&&(slotIx C n).isSome&&!sEqB n (PySem.Str.ofString "__classdict__"))=true:=nameChk_mem h n _ hn
 simp only[Bool.and_eq_true] at q
 obtain ⟨⟨⟨q0,q1⟩,q2⟩,q3⟩:=q
 obtain ⟨i,hi⟩:=Option.isSome_iff_exists.mp q2
 obtain ⟨p,hp,hacc,hd⟩:=G.fok.slot n i hi
 have hf:isFreeN sc n=true:=q0
 have hk:E.kindOf n=kindA C n:=by
  unfold kindA Env.kindOf
  rw[lookS_eq,G.fok.sc]
 have hcd:(n == ("__classdict__":Str))=false:=by
  have:=sEqB_false (by simpa using q3:sEqB n (PySem.Str.ofString "__classdict__")=false)
  exact beq_eq_false_iff_ne.mpr this
 rcases hacc with ⟨hl,rfl⟩|⟨_,c,hc,rfl⟩
 ·rw[←hk,hl] at q1; exact nT' q1
 ·exact ⟨i,c,hi,hp,hc,hd,hf,hcd⟩
theorem innerFOK (G:Good K F A C E d){sc:Scope}(h:compChk C sc=true):FOK (innerF F W Ca (locN sc.names)) (innerC C sc) (compEnvC sc (clOf E.cells sc.names []) Ca E):=by
 obtain ⟨h1,h2,h3,h4⟩:=chk_parts h
 have hsc:=innerC_sc (Ca:=Ca) G sc (clOf E.cells sc.names [])
 have hlen:=G.fok.len
 refine ⟨by rw[←hsc]; exact h1,G.fok.glb,G.fok.blt,hsc,by
  show (maskN sc C.names++(locN sc.names).map some).length=(F.pl++_).length
  rw[List.length_append,List.length_append,mask_len,hlen,List.length_map,List.length_map],G.fok.fix,fun x i hx=>?_⟩
 unfold slotIx isSlot at hx
 have hka:kindA (innerC C sc) x=(match lookS x sc.names with
   | some .free=>some (match lookS x C.sc.names with|some .cell=>.cell|_=>.free)
   | o=>o):=relabel_look C.sc.names x sc.names
 have hE:(compEnvC sc (clOf E.cells sc.names []) Ca E).kindOf x=kindA (innerC C sc) x:=by
  unfold Env.kindOf kindA
  rw[←hsc,lookS_eq]
 rw[hka] at hx hE
 have hnm:(innerC C sc).names=maskN sc C.names++(locN sc.names).map some:=rfl
 rw[hnm] at hx
 cases hk:lookS x sc.names with
 | none=>rw[hk] at hx; exact nS hx
 | some k =>
  rw[hk] at hx hE
  cases k with
  | «local» =>
   have hx:idxOf x (maskN sc C.names++(locN sc.names).map some)=some i:=hx
   have nf:isFreeN sc x=false:=by unfold isFreeN; rw[hk]; rfl
   rw[idx_app,idx_maskNo nf] at hx
   dsimp only at hx
   cases hj:idxOf x ((locN sc.names).map some) with
   | none=>rw[hj] at hx; exact nS hx
   | some j =>
    rw[hj] at hx
    obtain rfl:=sI hx
    have hj':=idx_some hj
    rw[List.getElem?_map] at hj'
    refine ⟨.ns Ca x,?_,.inl ⟨hE,rfl⟩,?_⟩
    ·show (F.pl++(locN sc.names).map _)[(maskN sc C.names).length+j]?=_
     rw[mask_len,hlen,List.getElem?_append_right (Nat.le_add_right _ _),Nat.add_sub_cancel_left,List.getElem?_map]
     cases hl:(locN sc.names)[j]? with
     | none=>rw[hl] at hj'; exact nS hj'
     | some y=>rw[hl] at hj'; cases hj'; rfl
    ·have q:(isLc (lookS x sc.names)&&!sEqB x (PySem.Str.ofString "__debug__"))=true:=nameChk_mem h2 x _ (lookS_mem hk)
     rw[Bool.and_eq_true] at q
     have:=sEqB_false (by simpa using q.2:sEqB x (PySem.Str.ofString "__debug__")=false)
     exact beq_eq_false_iff_ne.mpr this
  | free =>
   obtain ⟨i',c,hi',hp,hc,hd,hf,hcd⟩:=free_cell G h2 (lookS_mem hk)
   have hx':idxOf x (maskN sc C.names++(locN sc.names).map some)=some i:=by
    cases hq:lookS x C.sc.names with
    | none=>rw[hq] at hx; exact hx
    | some k'=>rw[hq] at hx; cases k' <;> exact hx
   have hix:idxOf x C.names=some i':=by
    unfold slotIx at hi'
    split at hi'
    ·exact hi'
    ·exact nS hi'
   rw[idx_app,idx_mask hf,hix] at hx'
   obtain rfl:=sI hx'
   have hlt:=(List.getElem?_eq_some_iff.mp hp).1
   refine ⟨.cell c,by show (F.pl++_)[_]?=_; rw[List.getElem?_append_left hlt]; exact hp,.inr ⟨?_,c,clOf_look hc _ _ (.inl (lookS_mem hk)),rfl⟩,hd⟩
   rw[hE]
   dsimp only
   cases hq:lookS x C.sc.names with
   | none=>exact .inr ⟨rfl,hcd⟩
   | some k'=>cases k' <;> first|exact .inl rfl|exact .inr ⟨rfl,hcd⟩
  | cell =>
   exact nT' (nameChk_mem h2 x _ (lookS_mem hk))
  | _=>exact nS hx
end
section
variable {prog:Program}{w:World}{A:Around}
theorem comp_loop {elt target iter:PySem.Expr}{ifs:List PySem.Expr}{scope:Scope}{pos:Pos}{it acc:Value}{env:Env}{R:Result→Shared→Prop}(I:Nat→Shared→Prop)
  (turn:∀n s,I n s→wpAny (model prog w) A (pyNext it) (fun r s₁=>match r with
   | none=>R (.ok .next) s₁
   | some v=>wpAny (model prog w) A (letOwnedTupleGo target it v) (fun J s₀=>wpAny (model prog w) A (assign target env v) (fun J s₂ =>
    wpAny (model prog w) A (forIn ifs true fun c r=>if r=true then do let ok ←isTrue c env (eval c env); pure (ForInStep.yield ok) else pure (ForInStep.yield r)) (fun ok s₃ =>
     if ok=true then wpAny (model prog w) A (eval elt env) (fun x s₄ =>
      wpAny (model prog w) A (call (.builtin "list.append") [acc,x]) (fun J s₅=>∃m,m<n∧I m s₅) (notedBy (model prog w) A env fun e s'=>R (.error e) s') s₄) (notedBy (model prog w) A env fun e s'=>R (.error e) s') s₃
     else ∃m,m<n∧I m s₃) (notedBy (model prog w) A env fun e s'=>R (.error e) s') s₂)
    (notedBy (model prog w) A env fun e s'=>R (.error e) s') s₀) (notedBy (model prog w) A env fun e s'=>R (.error e) s') s₁) (notedBy (model prog w) A env fun e s'=>R (.error e) s') s)
  (n:Nat) {s:Shared} (h:I n s):codeAny (model prog w) A (.compLoop (.ListComp elt [⟨target,iter,ifs,0⟩] scope pos) 0 it acc env) R s:=by
 refine codeAny_loop rfl I (fun n s hI=>?_) n h
 show wpAny _ A ((compTurn (.ListComp elt [⟨target,iter,ifs,0⟩] scope pos) 0 it acc env).onRaise (fun x=>do noteFrame x env; theTreesLotGoes x)) _ _ s
 refine wpAny_noted ?_
 rw[compTurn_list]
 refine wpAny_bind (wpAny_standAt (wpAny_bind (wpAny_mono (turn n s hI) (fun r s₁ h₁=>?_) fun J J h'=>h')))
 cases r with
 | none=>exact wpAny_pure h₁
 | some v =>
  refine wpAny_bind (wpAny_mono h₁ (fun J s₀ h₀'=>?_) fun J J h'=>h')
  refine wpAny_bind (wpAny_mono h₀' (fun J s₂ h₂=>?_) fun J J h'=>h')
  refine wpAny_bind (wpAny_mono h₂ (fun ok s₃ h₃=>?_) fun J J h'=>h')
  cases ok with
  | false=>exact wpAny_pure ⟨rfl,h₃⟩
  | true =>
   exact wpAny_bind (wpAny_bind (wpAny_mono h₃ (fun x s₄ h₄=>wpAny_bind (wpAny_mono h₄ (fun J s₅ h₅=>wpAny_pure (wpAny_pure ⟨rfl,h₅⟩)) fun J J h'=>h')) fun J J h'=>h'))
end
section
variable {bb:Bool}{K:PW}{F:Fx}{A:Around}{C:Ctx}{E:Env}{d:Nat}{R:Type}{σ σ₀:St}{env:AEnv}{target:PySem.Expr}{I:Addr}{xs:List AV}{fp wr:List Addr}{gi:Nat→Prop}{St':Nat→Shared→(Addr→Prop)→Prop}
theorem Good.inner (G:Good K F A C E d){sc:Scope}(h:compChk C sc=true)(W:Addr→Prop)(Ca:Addr):Good K (innerF F W Ca (locN sc.names)) A (innerC C sc) (compEnvC sc (clOf E.cells sc.names []) Ca E) d :=
 ⟨innerFOK G h,G.gok,G.room,⟨G.call.isfn,G.call.run⟩,⟨G.isa.ex,G.isa.isX⟩,G.dec,G.attr,⟨G.gen.isfn,G.gen.run⟩,G.me,G.big⟩
theorem tstG_ok {n:Nat}(S:Snd K F A C E n)(i:Inv K F σ env)(ifs:List PySem.Expr):At K bb F A (R:=R) σ env (tstG (tst n C) ifs)
  (forIn ifs true fun c r=>if r=true then do let ok ←isTrue c E (eval c E); pure (ForInStep.yield ok) else pure (ForInStep.yield r)) (fun v b J=>v=b):=by
 cases ifs with
 | nil=>exact At.ret i rfl
 | cons c r =>
  cases r with
  | nil =>
   intro k X res q
   exact wpAny_tests_one (S.tst R c σ env i k X res q)
  | cons=>exact At.stuck
theorem Lp.other {i:Nat}(T:Tn K F A target I xs fp wr gi St')(L:Lp K F fp St' i σ env){D:Addr}(hD:F.up D∧¬F.fr D)(hf:D∉fp){h':Heap}{tk:Nat}(hk:∀b o,b≠D→σ.s.heap.get? b=some o→h'.get? b=some o)(hl:∃o,h'.get? D=some o) :
  Lp K F fp St' i ⟨{ σ.s with heap:=h',toks:=tk },σ.ob⟩ env where
 inv:=L.inv.upStep (W:=fun a=>a=D) (s':={ σ.s with heap:=h',toks:=tk }) L.inv.gens (fun a h=>h▸hD) hk fun a h=>h▸hl
 fpo b hb:=let ⟨n1,n2,o,e⟩:=L.fpo b hb; ⟨n1,n2,o,hk b o (fun h=>hf (h▸hb)) e⟩
 st:=T.frame i _ _ _ _ L.st ⟨fun a o e na=>hk a o (fun h=>na (.inr (h▸hD.1))) e,fun a q=>.inl q⟩ (fun b hb o e=>hk b o (fun h=>hf (h▸hb)) e) fun J J e=>e
inductive CpI (K:PW) (bb:Bool) (F F₀:Fx) (σs:St) (fp:List Addr) (Sq:Nat→Shared→(Addr→Prop)→Prop) (D:Addr) (xs:List AV) (Q:Nat→List AV→AEnv→Prop) (m:Nat) (s:Shared):Prop where
 | mk (ob:List (Nat × Addr)) (env':AEnv) (j:Nat) (vs:Array Value) (done:List AV) (e:m=xs.length+1-j) (hj:j≤xs.length) (L:Lp K F fp Sq j ⟨s,ob⟩ env') (ex:Ext bb F₀ σs ⟨s,ob⟩) (hl:s.heap.PlainList D vs) (rl:RelL K s.heap (Av F ⟨s,ob⟩) vs.toList done) (hd:done.length≤j) (q:Q j done env')
theorem comp_turns {F₀:Fx}{σs:St}{n:Nat}(G:Good K F A C E d)(S:Snd K F A C E n){elt iter:PySem.Expr}{ifs:List PySem.Expr}{scope:Scope}{pos:Pos}{D:Addr}(T:Tn K F A target I xs fp wr gi St')
  (hD:F.up D∧¬F.fr D) (hDf:D∉fp) (hx:xs.length≤sizeLine)
  (hwr:∀b∈wr,σs.s.heap.get? b=none) (hgi:∀g,gi g→σs.s.gens[g]?=none) (hDs:σs.s.heap.get? D=none)
  (tr:∀{σ₁ σ₂:St},Ext bb F₀ σs σ₁→Ext bb F σ₁ σ₂→Ext bb F₀ σs σ₂)
  (k:List AV→AEnv→Option R) (X:AX→AEnv→Option R) (res:R) (RR:Result→Shared→Prop)
  (fin:∀s ob env' vs ys,Inv K F ⟨s,ob⟩ env'→Ext bb F₀ σs ⟨s,ob⟩→s.heap.PlainList D vs→RelL K s.heap (Av F ⟨s,ob⟩) vs.toList ys→ys.length≤sizeLine→k ys env'=some res →
   ∀s',Moves wr gi s s'→RR (.ok .next) s')
  (L₀:Lp K F fp St' 0 σ₀ env) (ex₀:Ext bb F₀ σs σ₀) (hd:σ₀.s.heap.PlainList D #[]) (q:compL (asg C target) (tstG (tst n C) ifs) (ev n C elt) xs k X env=some res) :
  codeAny (model K.p K.w) A (.compLoop (.ListComp elt [⟨target,iter,ifs,0⟩] scope pos) 0 (.ref I) (.ref D) E) RR σ₀.s:=by
 have chg:∀{s s':Shared} {ob:List (Nat × Addr)},Ext bb F₀ σs ⟨s,ob⟩→Moves wr gi s s'→Ext bb F₀ σs ⟨s',ob⟩:=fun ex m=>ex.chg (W:=fun a=>a∈wr) m.os (fun g st e e'=>m.gk g st (fun h=>by rw[hgi g h] at e; exact nS e) e') hwr m.keep
 refine comp_loop (CpI K bb F F₀ σs fp St' D xs fun j done env'=>compL (asg C target) (tstG (tst n C) ifs) (ev n C elt) (xs.drop j) (fun ys e'=>k (done++ys) e') X env'=some res) ?_ (xs.length+1) ⟨σ₀.ob,env,0,#[],[],rfl,Nat.zero_le _,L₀,ex₀,hd,rfl,Nat.le_refl _,q⟩
 rintro m s ⟨ob,env',j,vs,done,rfl,hj,L,ex,hl,rl,hdl,q⟩
 have hDw:D∉wr:=fun h=>hDf (T.sub D h)
 by_cases hlt:j<xs.length
 ·refine wpAny_mono (L.turn T hlt (X:=fun J J=>False) (Q:=fun v s'=>∃x,xs[j]?=some x∧Lp K F fp St' (j+1) ⟨s',ob⟩ env' ∧
   IRel K target s'.heap (Av F ⟨s',ob⟩) v x∧Moves wr gi s s') (fun x v s' a b c d=>⟨x,a,b,c,d⟩)) (fun r s₁ ⟨v,e,hr⟩=>?_) fun J J f=>f.elim
  subst e
  dsimp only
  refine wpAny_mono hr (fun _ s₂ ⟨x,hx',L',hr,hk⟩=>?_) fun J J f=>f.elim
  have hst₁:Hst s.heap (Av F ⟨s,ob⟩) s₂.heap (Av F ⟨s₂,ob⟩):=⟨fun a o e na=>hk.keep a o (fun q=>na (.inr (T.hw a q).1)) e,fun a q=>.inl q⟩
  have ex':Ext bb F₀ σs ⟨s₂,ob⟩:=chg ex hk
  have hl':s₂.heap.PlainList D vs:=hl.at fun o e=>hk.keep D o hDw e
  have rl':=RelL.kp hst₁ _ rl
  have hd':xs.drop j=x::xs.drop (j+1):=by
   rw[List.drop_eq_getElem_cons hlt]
   have:xs[j]=x:=by rw[List.getElem?_eq_getElem hlt] at hx'; exact Option.some.inj hx'
   rw[this]
  rw[hd'] at q
  refine wpAny_mono (asg_ok (R:=R) (bb:=bb) G L'.inv hr (fun J e'=>(bnd (tstG (tst n C) ifs) fun c=>ifM c (bnd (ev n C elt) fun y=>bnd (compL (asg C target) (tstG (tst n C) ifs) (ev n C elt) (xs.drop (j+1))) fun ys=>ret (y::ys)) (compL (asg C target) (tstG (tst n C) ifs) (ev n C elt) (xs.drop (j+1)))) (fun ys e'=>k (done++ys) e') X e') X res q)
   (fun _ s₃ ⟨_,env₃,ob₃,i₃,ex₃,_,q₃⟩=>?_) fun J J=>Res.no
  refine wpAny_mono (tstG_ok (bb:=bb) (R:=R) S i₃ ifs (fun c e'=>(ifM c (bnd (ev n C elt) fun y=>bnd (compL (asg C target) (tstG (tst n C) ifs) (ev n C elt) (xs.drop (j+1))) fun ys=>ret (y::ys)) (compL (asg C target) (tstG (tst n C) ifs) (ev n C elt) (xs.drop (j+1)))) (fun ys e'=>k (done++ys) e') X e') X res q₃)
   (fun v s₄ ⟨c,env₄,ob₄,i₄,ex₄,hc,q₄⟩=>?_) fun J J=>Res.no
  subst hc
  have exF:=ex₃.trans ex₄
  have L₄:=L'.body T i₄ exF
  have offD:∀{σ₁:St} {e₁:AEnv},Inv K F σ₁ e₁→¬Own F σ₁ D:=fun i q=>i.upd D q hD.1
  have hl₄:s₄.heap.PlainList D vs:=hl'.at fun o e=>exF.keep D o e (offD L'.inv) hD.2
  have rl₄:=RelL.ext exF rl'
  cases v with
  | false =>
   rw[if_neg Bool.false_ne_true]
   exact ⟨xs.length+1-(j+1),by lia,ob₄,env₄,j+1,vs,done,rfl,hlt,L₄,tr ex' exF,hl₄,rl₄,Nat.le_succ_of_le hdl,q₄⟩
  | true =>
   rw[if_pos rfl]
   refine wpAny_mono (S.ev (bb:=bb) R elt ⟨s₄,ob₄⟩ env₄ i₄ (fun y e'=>compL (asg C target) (tstG (tst n C) ifs) (ev n C elt) (xs.drop (j+1)) (fun ys e'=>k (done++(y::ys)) e') X e') X res q₄) (fun v s₅ ⟨y,env₅,ob₅,i₅,ex₅,ry,q₅⟩=>?_) fun J J=>Res.no
   have L₅:=L₄.body T i₅ ex₅
   have hl₅:s₅.heap.PlainList D vs:=hl₄.at fun o e=>ex₅.keep D o e (offD i₄) hD.2
   have rl₅:=RelL.ext ex₅ rl₄
   have hlen:vs.size=done.length:=by rw[←RelL.length _ rl,Array.length_toList]
   refine wpAny_list_append_plain (hsz:=by lia) hl₅ fun h₆ hl₆ hs₆=>?_
   have hst₆:Hst s₅.heap (Av F ⟨s₅,ob₅⟩) h₆ (Av F ⟨{ s₅ with heap:=h₆ },ob₅⟩):=⟨fun a o e na=>hs₆.extBut a o (fun q=>na (.inr (q▸hD.1))) e,fun a q=>.inl q⟩
   have L₆:Lp K F fp St' (j+1) ⟨{ s₅ with heap:=h₆ },ob₅⟩ env₅:=L₅.other T hD hDf (tk:=s₅.toks) (fun b o hb e=>hs₆.extBut b o hb e) (by obtain ⟨n,e⟩:=hl₆; exact ⟨_,e⟩)
   refine ⟨xs.length+1-(j+1),by lia,ob₅,env₅,j+1,vs.push v,done++[y],rfl,hlt,L₆,?_,hl₆,?_,?_,?_⟩
   ·exact (tr (tr ex' exF) ex₅).chg (W:=fun a=>a=D) (s':={ s₅ with heap:=h₆ }) rfl (fun J J J e=>e) (fun a h=>h▸hDs) fun b o hb e=>hs₆.extBut b o hb e
   ·rw[Array.toList_push]
    exact RelL.append _ (RelL.kp hst₆ _ rl₅) ⟨v,[],rfl,VRel.kp hst₆ ry,rfl⟩
   ·rw[List.length_append]; simp; lia
   ·rw[←q₅]; simp
 ·have hjj:xs.length=j:=by lia
  refine L.done T hjj fun s' hk=>?_
  have hq:xs.drop j=[]:=List.drop_eq_nil_iff.mpr (by lia)
  rw[hq] at q
  exact fin s ob env' vs done L.inv ex hl rl (by lia) (by have q:k (done++[]) env'=some res:=q; rw[List.append_nil] at q; exact q) s' hk
theorem names_ok {sc:Scope}(h:nameChk C sc sc.names=true):∀x∈sc.names,x.2=.local→sc.names.lookup x.1=some .local:=fun x hx e=>by
 obtain ⟨n,k⟩:=x
 dsimp only at e
 subst e
 have q:(isLc (lookS n sc.names)&&!sEqB n (PySem.Str.ofString "__debug__"))=true:=nameChk_mem h n _ hx
 rw[Bool.and_eq_true] at q
 rw[←lookS_eq]
 have q:=q.1
 revert q
 cases lookS n sc.names with
 | none=>exact fun q=>nT' q
 | some k=>cases k <;> first|exact fun q=>nT' q|exact fun J=>rfl
theorem cells_ok {sc:Scope}(h:nameChk C sc sc.names=true):∀x∈sc.names,x.2≠.cell:=fun x hx e=>by
 obtain ⟨n,k⟩:=x
 dsimp only at e
 subst e
 exact nT' (nameChk_mem h n _ hx)
theorem comp_ok {n:Nat}(SA:∀F C E d,Good K F A C E d→Snd K F A C E n)(G:Good K F A C E d)(i:Inv K F σ env){elt iter:PySem.Expr}{ifs:List PySem.Expr}{sc:Scope}{pos:Pos}{mi:M R (List AV)}(hc:compChk C sc=true)
  (hi:ItAt K bb F A σ env mi target (eval iter E)) (hfs:∀x,foldedSetIterable iter E x=pure x) :
  At K bb F A σ env (bnd mi fun xs=>compG C sc target (tstG (tst n (innerC C sc)) ifs) (ev n (innerC C sc) elt) xs) (eval (.ListComp elt [⟨target,iter,ifs,0⟩] sc pos) E) (Val K F):=by
 intro k X res q
 obtain ⟨h1,h2,h3,h4⟩:=chk_parts hc
 rw[eval_ListComp]
 refine wpAny_comprehension_free (use:=none) rfl hfs (closure_ok fun m hm=>let ⟨_,c,_,_,e,_⟩:=free_cell G h2 hm; ⟨c,e⟩) h1 (names_ok h2) ?_
 refine hi (fun xs e'=>compG C sc target (tstG (tst n (innerC C sc)) ifs) (ev n (innerC C sc) elt) xs k X e') X res q _ _ (fun I s₂ xs env₂ ob₂ fp wr gi St' L₂ ex₂ T hw hgi hl q₂=>?_) fun e s' h=>h
 have i₂:=L₂.inv
 refine wpAny_newObj_type (wpAny_newFunctionEnv (cells_ok h2) (by intro y hy; simp at hy) (fun h₁ hns₁ hsb₁=>?_) h1)
 dsimp only at hns₁ hsb₁ ⊢
 generalize hH2:s₂.heap.push { cls:=.type "list",dict:=none,data:=.seq ([]:List Value).toArray }=H2 at hns₁ hsb₁ ⊢
 have hCs:H2.objs.size=s₂.heap.objs.size+1:=by rw[←hH2,Heap.size_push]
 have hDC:s₂.heap.objs.size≠H2.objs.size:=by rw[hCs]; exact Nat.ne_of_lt (Nat.lt_succ_self _)
 have freshC:s₂.heap.get? H2.objs.size=none:=Heap.get?_none_of_le (by rw[hCs]; exact Nat.le_succ _)
 have freshD:s₂.heap.get? s₂.heap.objs.size=none:=get_size _
 have hk:∀a o,s₂.heap.get? a=some o→h₁.get? a=some o:=fun a o e=>hsb₁.extBut a o (fun h=>by rw[h,freshC] at e; exact nS e) (Heap.get?_push_of_some _ (hH2▸Heap.get?_push_of_some _ e))
 have hacc:h₁.PlainList s₂.heap.objs.size #[]:=⟨_,hsb₁.extBut _ _ hDC (Heap.get?_push_of_some _ (hH2▸Heap.get?_push_size _ rfl))⟩
 obtain ⟨i₃,st₃⟩:=i₂.inner (W:=fun a=>a=s₂.heap.objs.size) (Ca:=H2.objs.size) (locs:=locN sc.names) (s':={ s₂ with heap:=h₁,toks:=s₂.toks+([]:List (Str × Value)).length }) hk rfl rfl (fun a h=>h▸⟨freshD,by obtain ⟨n,e⟩:=hacc; exact ⟨_,e⟩⟩) freshC hns₁ (fun h=>hDC h.symm) h3
 have away:∀{b:Addr},s₂.heap.get? b=none→σ.s.heap.get? b=none:=fun {b} h=>by
  cases e:σ.s.heap.get? b with
  | none=>rfl
  | some o=>obtain ⟨o',e'⟩:=ex₂.alive b o e; rw[h] at e'; exact nS e'
 have notUp:∀{b:Addr},s₂.heap.get? b=none→¬Av (F.wide (·∈wr)) ⟨s₂,ob₂⟩ b:=fun {b} h q=>by obtain ⟨o,e⟩:=i₂.dom b q; rw[h] at e; exact nS e
 have wrUp:∀a,a∈wr→¬F.up a:=fun a ha h=>by
  obtain ⟨o,e⟩:=i.dom a (.inr h)
  rw[hw a ha] at e; exact nS e
 have nfr:∀{b:Addr},s₂.heap.get? b=none→¬F.fr b:=fun {b} h q=>notUp h (.inr (.inl (F.fru b q)))
 have T₃:Tn K (innerF (F.wide (·∈wr)) (fun a=>a=s₂.heap.objs.size) H2.objs.size (locN sc.names)) A target I xs fp wr gi St':=T.move fun b hb=>⟨.inl (.inr hb),(T.hw b hb).2⟩
 have L₃:Lp K (innerF (F.wide (·∈wr)) (fun a=>a=s₂.heap.objs.size) H2.objs.size (locN sc.names)) fp St' 0 ⟨{ s₂ with heap:=h₁,toks:=s₂.toks+([]:List (Str × Value)).length },ob₂⟩ (env₂++padN (locN sc.names).length) :=
  ⟨i₃,fun b hb=>(by
   obtain ⟨n1,n2,o,e⟩:=L₂.fpo b hb
   refine ⟨fun q=>(inner_own q).elim n1 fun h=>?_,n2,o,hk b o e⟩
   have e:s₂.heap.get? b=some o:=e
   rw[h,freshC] at e; exact nS e),T.frame 0 s₂ _ _ _ L₂.st st₃ (fun b hb o e=>hk b o e) fun J J e=>e⟩
 have ex₃:Ext bb F σ ⟨{ s₂ with heap:=h₁,toks:=s₂.toks+([]:List (Str × Value)).length },ob₂⟩:=ex₂.trans (Ext.grow F ⟨s₂,ob₂⟩ (s':={ s₂ with heap:=h₁,toks:=s₂.toks+([]:List (Str × Value)).length }) hk rfl rfl)
 have hfpD:s₂.heap.objs.size∉fp:=fun h=>by
  obtain ⟨_,_,o,e⟩:=L₂.fpo _ h
  have e:s₂.heap.get? s₂.heap.objs.size=some o:=e
  rw[freshD] at e; exact nS e
 have hfpC:H2.objs.size∉wr:=fun h=>by
  obtain ⟨_,_,o,e⟩:=L₂.fpo _ (T.sub _ h)
  have e:s₂.heap.get? H2.objs.size=some o:=e
  rw[freshC] at e; exact nS e
 have loop:codeAny (model K.p K.w) A (.compLoop (.ListComp elt [⟨target,iter,ifs,0⟩] sc pos) 0 (.ref I) (.ref s₂.heap.objs.size) (compEnvC sc (clOf E.cells sc.names []) H2.objs.size E))
   (compPost (model K.p K.w) A (Res K bb F σ (XRel F) X res) none
    (Res K bb F σ (Val K F) k res) (.ref s₂.heap.objs.size) H2.objs.size) { s₂ with heap:=h₁,toks:=s₂.toks+([]:List (Str × Value)).length }:=by
  refine comp_turns (bb:=bb) (F₀:=F) (σs:=σ) ((G.wide (·∈wr)).inner hc (fun a=>a=s₂.heap.objs.size) H2.objs.size) (SA _ _ _ d ((G.wide (·∈wr)).inner hc (fun a=>a=s₂.heap.objs.size) H2.objs.size)) T₃ ⟨.inr rfl,nfr freshD⟩ hfpD hl hw hgi (away freshD)
   (fun x y=>(y.ofInner x.toWide (away freshC)).ofWide) (fun ys e'=>k (.list ys) (cut env₂ e')) (fun a e'=>X a (cut env₂ e')) res _ (fun s ob env' vs ys iv ex hpl rl hys q s₅ m₅=>?_) L₃ ex₃ hacc q₂
  have hk':=m₅.keep
  obtain ⟨m,hm⟩:∃m,s.heap.Ns H2.objs.size m:=by
   cases hln:locN sc.names with
   | nil=>rw[hln] at h4; exact nT' h4
   | cons x r =>
    obtain ⟨v,hv,_⟩:=iv.slots F.pl.length (.ns H2.objs.size x) (by
     show (F.pl++(locN sc.names).map _)[F.pl.length]?=_
     rw[hln,List.getElem?_append_right (Nat.le_refl _)]; simp)
    obtain ⟨m,hm,_⟩:=hv
    exact ⟨m,hm⟩
  refine ⟨m,hm.at' fun o e=>hk' _ o hfpC e,fun h'' hs''=>?_⟩
  have hk2:∀b o,¬b=s₂.heap.objs.size→¬b∈wr→b≠H2.objs.size→s.heap.get? b=some o→h''.get? b=some o:=fun b o J hb hC e=>hs''.extBut b o hC (hk' b o hb e)
  have nC:∀{b:Addr},s₂.heap.get? b=none→¬F.up b:=fun h q=>notUp h (.inr (.inl q))
  have iF:Inv K F ⟨{ s₅ with heap:=h'' },ob⟩ (cut env₂ env'):=iv.outer (env:=env₂) (s':={ s₅ with heap:=h'' }) (by rw[i₂.len]; rfl) (m₅.gens iv.gens) (fun a h=>h▸nC freshD) wrUp (nC freshC) (fun q=>notUp freshC (.inl (.inl q))) h4 hk2
  have exF:Ext bb F σ ⟨{ s₅ with heap:=h'' },ob⟩:=ex.chg (W:=fun a=>a∈wr∨a=H2.objs.size) (s':={ s₅ with heap:=h'' }) m₅.os (fun g st e e'=>m₅.gk g st (fun h=>by rw[hgi g h] at e; exact nS e) e') (fun a h=>h.elim (hw a) fun h=>h▸away freshC) fun b o hb e=>hs''.extBut b o (fun h=>hb (.inr h)) (hk' b o (fun h=>hb (.inl h)) e)
  have hlp:s₂.heap.objs.size∉wr:=fun h=>hfpD (T.sub _ h)
  refine ⟨.list ys,cut env₂ env',ob,iF,exF,?_,q⟩
  have CaAv:Av (innerF (F.wide (·∈wr)) (fun a=>a=s₂.heap.objs.size) H2.objs.size (locN sc.names)) ⟨s,ob⟩ H2.objs.size:=by
   cases hln:locN sc.names with
   | nil=>rw[hln] at h4; exact nT' h4
   | cons x r=>exact .inl (.inl (.inr ⟨.ns H2.objs.size x,List.mem_append_right _ (.head _),rfl⟩))
  have stF:Hst s.heap (Av (innerF (F.wide (·∈wr)) (fun a=>a=s₂.heap.objs.size) H2.objs.size (locN sc.names)) ⟨s,ob⟩) h'' (Av F ⟨{ s₅ with heap:=h'' },ob⟩) :=
   ⟨fun a o e na=>hs''.extBut a o (fun h=>na (h▸CaAv)) (hk' a o (fun h=>na (.inr (.inl (.inr h)))) e),fun a q=>.inl (q.elim (fun q=>.inl (own_inner (F:=F.wide (·∈wr)) q)) fun q=>.inr (.inl (.inl q)))⟩
  refine ⟨s₂.heap.objs.size,vs,rfl,fun q=>?_,(hpl.at fun o e=>hk' _ o hlp e).at fun o e=>hs''.extBut _ o hDC e,hys,RelL.kp stF _ rl⟩
  rcases q with q|q
  ·exact iv.upd _ (own_inner (F:=F.wide (·∈wr)) q) (.inr rfl)
  ·exact nC freshD q
 exact codeAny_compStart_list loop (T₃.self _ _ _ _ L₃.st loop)
end
section
variable {bb:Bool}{K:PW}{F:Fx}{A:Around}{C:Ctx}{E:Env}{d:Nat}{R:Type}{σ:St}{env:AEnv}
theorem stored_none {k:Str}{v:Value}:∀{vs:List (Str × Value)},k∉vs.map (fun x=>x.1)→vs.map (fun kv=>if kv.1=k then (kv.1,v) else kv)=vs
 | [],_=>rfl
 | x::r,h=>by
  rw[List.map_cons,List.mem_cons,not_or] at h
  rw[List.map_cons,if_neg (fun e=>h.1 e.symm),stored_none h.2]
theorem stored_cons_eq {k:Str}{u v:Value}{r:List (Str × Value)}(h:k∉r.map (fun x=>x.1)):stored ((k,u)::r) k v=(k,v)::r:=by
 unfold stored
 rw[if_pos (by simp),List.map_cons,if_pos rfl,stored_none h]
theorem stored_cons_ne {k m:Str}{u v:Value}{r:List (Str × Value)}(h:m≠k):stored ((m,u)::r) k v=(m,u)::stored r k v:=by
 unfold stored
 rw[List.any_cons]
 have e:decide (m=k)=false:=decide_eq_false h
 show (if (decide (m=k)||_)=true then _ else _)=_
 rw[e,Bool.false_or]
 split
 ·rw[List.map_cons,if_neg h]
 ·rfl
theorem putA_rel {h:Heap}{A':Addr→Prop}{k:Str}{v:Value}{a:AV}(hl:k.length≤sizeLine)(rv:VRel K h A' v a):∀{es:List (Str × AV)} {vs:List (Str × Value)},(vs.map (fun x=>x.1)).Nodup→RelD K h A' vs es→RelD K h A' (stored vs k v) (putA k a es)
 | [],vs,_,r=>by subst r; exact ⟨v,[],rfl,hl,rv,rfl⟩
 | e::es,vs,hn,⟨u,r,eq,hl',h1,h2⟩=>by
  subst eq
  rw[List.map_cons,List.nodup_cons] at hn
  unfold putA
  cases hq:sEqB k e.1 with
  | true =>
   have hk:=sEqB_true hq
   subst hk
   rw[stored_cons_eq hn.1]
   exact ⟨v,r,rfl,hl',rv,h2⟩
  | false =>
   have hk:=sEqB_false hq
   rw[stored_cons_ne (fun e=>hk e.symm)]
   exact ⟨u,_,rfl,hl',h1,putA_rel hl rv hn.2 h2⟩
set_option tactic.hygienic true in
theorem stored_nodup {k:Str}{v:Value}:∀{vs:List (Str × Value)},(vs.map (fun x=>x.1)).Nodup→((stored vs k v).map (fun x=>x.1)).Nodup:=fun {vs} h=>by
 unfold stored
 split
 ·rw[List.map_map]
  have:((fun x:Str × Value=>x.1) ∘ fun kv:Str × Value=>if kv.1=k then (kv.1,v) else kv)=fun x=>x.1:=by
   funext x
   show (if x.1=k then (x.1,v) else x).1=x.1
   split <;> rfl
  rw[this]; exact h
 ·rename_i hk
  rw[List.map_append]
  refine List.nodup_append.mpr ⟨h,by simp,fun a ha b hb e=>?_⟩
  simp at hb
  subst hb e
  obtain ⟨x,hx,rfl⟩:=List.mem_map.mp ha
  exact hk (List.any_eq_true.mpr ⟨x,hx,by simp⟩)
theorem mergeA_rel {h:Heap}{A':Addr→Prop}:∀{ps:List (Str × AV)} {kvs:List (Str × Value)} {es:List (Str × AV)} {vs:List (Str × Value)},RelD K h A' kvs ps→(vs.map (fun x=>x.1)).Nodup→RelD K h A' vs es→RelD K h A' (merged vs kvs) (mergeA es ps)
 | [],kvs,es,vs,r,_,q=>by subst r; exact q
 | p::ps,kvs,es,vs,⟨u,r,eq,hl,h1,h2⟩,hn,q=>by
  subst eq
  show RelD K h A' (merged (stored vs p.1 u) r) (mergeA (putA p.1 p.2 es) ps)
  exact mergeA_rel (ps:=ps) (kvs:=r) h2 (stored_nodup hn) (putA_rel hl h1 hn q)
theorem okKeys_shape {pos:Pos}:∀{ks:List (Option PySem.Expr)} {vs:List PySem.Expr},okKeys ks vs=true→(evalEachOpt ks E).zip ((evalEach vs E).map fun v=>do let x ←v; standAt pos; pure x)=(pairsOf E pos ks vs).map fun p=>(some p.1,p.2)
 | [],[],_=>rfl
 | [],_::_,h=>by exact nT' h
 | none::_,_,h=>by exact nT' h
 | some k::ks,[],h=>by exact nT' h
 | some k::ks,v::vs,h=>by
  have ih:=okKeys_shape (pos:=pos) (ks:=ks) (vs:=vs) h
  show (some (eval k E),_)::(evalEachOpt ks E).zip ((evalEach vs E).map _)=_
  rw[ih]; rfl
theorem pairsOf_len {pos:Pos}:∀{ks:List (Option PySem.Expr)} {vs:List PySem.Expr},okKeys ks vs=true→(pairsOf E pos ks vs).length=vs.length
 | [],[],_=>rfl
 | [],_::_,h=>by exact nT' h
 | none::_,_,h=>by exact nT' h
 | some k::ks,[],h=>by exact nT' h
 | some k::ks,v::vs,h=>by
  show (pairsOf E pos ks vs).length+1=vs.length+1
  rw[pairsOf_len (ks:=ks) h]
theorem oneGen_ok {gens:List Comprehension}{t it:PySem.Expr}{ifs:List PySem.Expr}(h:oneGen gens=some (t,it,ifs)):gens=[⟨t,it,ifs,0⟩]∧notSetE it=true∧isTupT t=isTup1 t:=by
 cases gens with
 | nil=>exact nS h
 | cons g r =>
  cases r with
  | cons=>exact nS h
  | nil =>
   obtain ⟨t',i',ifs',a⟩:=g
   obtain ⟨hc,h⟩:=gdE h
   simp only[Bool.and_eq_true,decide_eq_true_eq,beq_iff_eq] at hc
   obtain ⟨⟨h1,h2⟩,h3⟩:=hc
   have e1:=pI (sI h)
   have e2:=pI e1.2
   rw[h1,←e1.1,←e2.1,←e2.2]
   exact ⟨rfl,h2,h3⟩
theorem notSet_ok {e:PySem.Expr}(h:notSetE e=true):∀x,foldedSetIterable e E x=pure x:=by
 cases e <;> first|(intro x; rfl)|exact nT' h
theorem ownIx_ok {o:PySem.Expr}{j:Nat}(h:ownIx C o=some j):∃x np,o=.Name x np∧slotIx C x=some j:=by
 obtain ⟨x,h1,h⟩:=obE h
 obtain ⟨_,h⟩:=gdE h
 obtain ⟨p,e⟩:=nameOf_ok h1
 exact ⟨_,p,e,h⟩
theorem dict_ok (G:Good K F A C E d){n:Nat}(SA:∀F C E d,Good K F A C E d→Snd K F A C E n)(i:Inv K F σ env){ks:List (Option PySem.Expr)}{vs:List PySem.Expr}{pos:Pos}(hc:(Nat.ble vs.length 15&&okKeys ks vs)=true) :
  At K bb F A σ env (R:=R) (bnd (prs n C ks vs) fun ps=>ret (.dict (mergeA [] ps))) (eval (.Dict ks vs pos) E) (Val K F):=by
 rw[Bool.and_eq_true] at hc
 have hlen:vs.length≤15:=Nat.le_of_ble_eq_true hc.1
 have hbig:=i.big G.big
 intro k X res q
 have hD:=get_size σ.s.heap
 obtain ⟨i₁,ex₁⟩:=i.heap (bb:=bb) (n:=σ.s.toks) (h':=σ.s.heap.push { cls:=.type "dict",data:=.dict #[] }) push_keep
 by_cases h0:vs=[]
 ·subst h0
  cases ks with
  | cons k ks =>
   cases k with
   | none=>cases hc.2
   | some=>cases hc.2
  | nil =>
   cases n with
   | zero=>exact nS q
   | succ n =>
    refine wpAny_Dict_empty ⟨.dict [],env,σ.ob,i₁,ex₁,?_,q⟩
    exact ⟨_,[],rfl,i.fresh hD,hbig,Heap.DictOf.new _,by show 0≤sizeLine; exact Nat.zero_le _,rfl⟩
 ·have hne:pairsOf E pos ks vs≠[]:=fun e=>by
   have:=pairsOf_len (E:=E) (pos:=pos) hc.2
   rw[e] at this
   exact h0 (List.length_eq_zero_iff.mp this.symm)
  refine wpAny_Dict_pairs (knd:=PySem.strKind K.p K.w) (okKeys_shape hc.2) hne (by rw[pairsOf_len hc.2]; exact hlen) ?_
  obtain ⟨i₁,ex₁⟩:=i.widen (bb:=bb) (W:=fun a=>a=σ.s.heap.objs.size) (s':={ σ.s with heap:=σ.s.heap.push { cls:=.type "dict",data:=.dict #[] } }) push_keep rfl rfl fun a h=>h▸⟨hD,_,Heap.get?_push_size _ rfl⟩
  refine wpAny_mono (wpAny_evalPairs_len ((SA _ _ _ d (G.wide fun a=>a=σ.s.heap.objs.size)).prs R ks vs pos ⟨{ σ.s with heap:=σ.s.heap.push { cls:=.type "dict",data:=.dict #[] } },σ.ob⟩ env i₁ (fun ps e'=>k (.dict (mergeA [] ps)) e') X res q)) (fun us s₁ ⟨hul,ps,env₁,ob₁,i₂,ex₂,hr,q₂⟩=>?_)
   fun e s₁ ⟨a,env₁,ob₁,i₂,ex₂,p,q⟩=>⟨a,env₁,ob₁,i₂.narrow,ex₁.trans ex₂.ofWide,p,q⟩
  obtain ⟨kvs,hcar,hrd⟩:=hr
  have hnew:(σ.s.heap.push { cls:=.type "dict",data:=.dict #[] }).get? σ.s.heap.objs.size=some { cls:=.type "dict",data:=.dict #[] }:=Heap.get?_push_size _ rfl
  have nfr:¬F.fr σ.s.heap.objs.size:=fun q=>i.fresh hD (.inr (F.fru _ q))
  have nup:¬F.up σ.s.heap.objs.size:=fun q=>i.fresh hD (.inr q)
  have nown:¬Own F ⟨s₁,ob₁⟩ σ.s.heap.objs.size:=fun q=>i₂.upd _ q (.inr rfl)
  have hd:s₁.heap.DictOf (PySem.strKind K.p K.w) σ.s.heap.objs.size []:=by
   have:=ex₂.keep σ.s.heap.objs.size _ hnew (fun q=>i₁.upd _ q (.inr rfl)) nfr
   obtain ⟨o,es,ep,ho,r⟩:=Heap.DictOf.new (knd:=PySem.strKind K.p K.w) σ.s.heap
   rw[hnew] at ho; obtain rfl:=sI ho
   exact ⟨_,es,ep,this,r⟩
  refine ⟨kvs,hcar,hd,fun h' hm hs=>?_⟩
  have hk:∀b o,¬b=σ.s.heap.objs.size→s₁.heap.get? b=some o→h'.get? b=some o:=fun b o hb e=>hs.extBut b o hb e
  have i₃:Inv K F ⟨{ s₁ with heap:=h',toks:=s₁.toks+us.length },ob₁⟩ env₁:=i₂.leave (W:=fun a=>a=σ.s.heap.objs.size) (s':={ s₁ with heap:=h',toks:=s₁.toks+us.length }) i₂.gens (fun a h=>h▸nup) hk
  have ex₃:Ext bb F σ ⟨{ s₁ with heap:=h',toks:=s₁.toks+us.length },ob₁⟩:=(ex₁.trans ex₂.ofWide).chg (W:=fun a=>a=σ.s.heap.objs.size) (s':={ s₁ with heap:=h',toks:=s₁.toks+us.length }) rfl (fun J J J e=>e) (fun a h=>h▸hD) hk
  have st:Hst s₁.heap (Av (F.wide fun a=>a=σ.s.heap.objs.size) ⟨s₁,ob₁⟩) h' (Av F ⟨{ s₁ with heap:=h',toks:=s₁.toks+us.length },ob₁⟩):=⟨fun a o e na=>hk a o (fun h=>na (.inr (.inr h))) e,fun a q=>.inl (q.elim .inl fun q=>.inr (.inl q))⟩
  refine ⟨.dict (mergeA [] ps),env₁,ob₁,i₃,ex₃,⟨_,merged [] kvs,rfl,fun q=>q.elim nown nup,hbig,hm,?_,mergeA_rel (RelD.kp st _ hrd) (by simp) rfl⟩,q₂⟩
  have e1:=RelD.length _ (mergeA_rel (K:=K) (RelD.kp st _ hrd) (vs:=[]) (es:=[]) (by simp) rfl)
  have e2:=merged_length_le [] kvs
  have e3:=hcar.length
  have e4:=pairsOf_len (E:=E) (pos:=pos) hc.2
  show _≤16777216
  rw[List.length_nil] at e2
  lia
set_option tactic.hygienic true in
theorem sub_gen (G:Good K F A C E d){n:Nat}(S:Snd K F A C E n){R:Type}{o s:PySem.Expr}{pos:Pos}(i:Inv K F σ env) :
  At (R:=R) K bb F A σ env (match ownIx C o with
   | some j=>ownSub j (ev n C o) (ev n C s)
   | none=>bnd (ev n C o) fun a=>bnd (ev n C s) fun b=>bnd (liftO (itemA a b)) ret) (do
   let o' ←eval o E
   let i ←PySem.holding [o'] (eval s E)
   standAt pos
   let r ←subscripted s (←getitemInPython o') o' i
   letTemporaryGo o o' r
   pure r) (Val K F):=by
 have plain:At (R:=R) K bb F A σ env (bnd (ev n C o) fun a=>bnd (ev n C s) fun b=>bnd (liftO (itemA a b)) ret) (do
   let o' ←eval o E
   let i ←PySem.holding [o'] (eval s E)
   standAt pos
   let r ←subscripted s (←getitemInPython o') o' i
   letTemporaryGo o o' r
   pure r) (Val K F):=by
  refine At.bind (S.ev _ _ _ _ i) fun va a σ₁ env₁ i₁ ex₁ ra=>?_
  refine At.bind (At.holding (S.ev _ _ _ _ i₁)) fun vb b σ₂ env₂ i₂ ex₂ rb=>?_
  refine At.stand ?_
  refine At.liftO fun c hc=>?_
  have ra':=RelB.un (VRel.ext ex₂ ra)
  exact subs_tail i₂ (item_type (.inl ⟨_,_,hc⟩) ra') (fun X=>itemA_ok i₂ hc ra' rb X)
 cases ho:ownIx C o with
 | none=>exact plain
 | some j =>
  dsimp only
  obtain ⟨x,np,rfl,hj⟩:=ownIx_ok ho
  intro k X res q
  unfold ownSub at q
  obtain ⟨p,hp,acc,hd⟩:=G.fok.slot x j hj
  obtain ⟨v,hv,hr⟩:=i.slots j p hp
  split at q
  ·rename_i c hc
   rw[hc] at hr
   obtain ⟨a,rfl,hm,ro⟩:=hr
   refine wpAny_bind (wpAny_Name (load_at G.fok.kind acc hv ?_) hd)
   refine wpAny_bind (wpAny_holding (wpAny_mono (S.ev (bb:=true) R s σ env i _ X res q) (fun vb s' ⟨b,env',ob',i',ex',rb,q'⟩=>?_) fun e s' ⟨a,env',ob',i',ex',p',q'⟩=>⟨a,env',ob',i',ex'.weak,p',q'⟩))
   obtain ⟨v',hv',hr'⟩:=i'.slots j p hp
   split at q'
   ·rename_i c' hc'
    rw[hc'] at hr'
    obtain ⟨a',rfl,hm',ro'⟩:=hr'
    have:a'=a:=by
     have:=nodup_inj i.obu (ex'.sub rfl _ hm') hm rfl
     cases this; rfl
    subst this
    have A1:At K bb F A ⟨s',ob'⟩ env' (R:=R) (bnd (liftO (itemA c'.frozen b)) ret) (do
      standAt pos
      let r ←subscripted s (←getitemInPython (.ref a')) (.ref a') vb
      letTemporaryGo (.Name x np) (.ref a') r
      pure r) (Val K F):=by
     refine At.stand (At.liftO fun c hc=>?_)
     have ra':=ro'.rel
     exact subs_tail i' (item_type (.inl ⟨_,_,hc⟩) ra') (fun X=>itemA_ok i' hc ra' rb X)
    exact wpAny_mono (A1 k X res q') (fun J J=>Res.trans ex'.weak) fun J J=>Res.trans ex'.weak
   ·exact nS q'
  ·exact plain k X res q
theorem ev_step (G:Good K F A C E d){n:Nat}(S:Snd K F A C E n)(SA:∀F C E d,Good K F A C E d→Snd K F A C E n)(R:Type)(e:PySem.Expr)(σ:St)(env:AEnv)(i:Inv K F σ env):At (R:=R) K bb F A σ env (ev (n+1) C e) (eval e E) (Val K F):=by
 cases e with
 | Constant c x1 x2 =>
  exact gives_end i fun a ha X=>constA_ok i ha G.fok.kind X
 | Name x pos=>exact nm_ok G i
 | BinOp l op r pos =>
  show At K bb F A σ env (bnd (ev n C l) fun a=>bnd (ev n C r) fun b=>bnd (liftO (binA op a b)) ret) _ _
  rw[arm_eval_BinOp]
  refine At.bind (S.ev _ _ _ _ i) fun va a σ₁ env₁ i₁ ex₁ ra=>?_
  refine At.bind (At.holding (S.ev _ _ _ _ i₁)) fun vb b σ₂ env₂ i₂ ex₂ rb=>?_
  refine At.stand (At.operate ?_)
  exact gives_end i₂ fun c hc X=>binA_ok i₂ hc (VRel.ext ex₂ ra) rb X
 | UnaryOp op x pos =>
  cases op with
  | USub =>
   show At K bb F A σ env (bnd (ev n C x) fun a=>bnd (liftO (negA a)) ret) _ _
   rw[arm_eval_UnaryOp]
   refine At.bind (S.ev _ _ _ _ i) fun va a σ₁ env₁ i₁ ex₁ ra=>?_
   refine At.stand (At.holding ?_)
   refine gives_end i₁ fun c hc X=>?_
   unfold negA at hc
   split at hc
   ·obtain ⟨t,rfl⟩:=ra; obtain rfl:=sI hc
    exact PySem.P.neg_int (.toks ⟨_,rfl⟩)
   ·exact nS hc
  | _=>exact At.stuck
 | IfExp t a b pos =>
  show At K bb F A σ env (bnd (tst n C t) fun c=>ifM c (ev n C a) (ev n C b)) _ _
  rw[arm_eval_IfExp]
  refine At.bind (S.tst _ _ _ _ i) fun v c σ₁ env₁ i₁ ex₁ hv=>?_
  subst hv
  exact At.ifM (fun J=>S.ev _ _ _ _ i₁) (fun J=>S.ev _ _ _ _ i₁)
 | BoolOp op vs pos=>exact S.evB _ _ _ _ _ _ i
 | Compare l ops cs pos =>
  show At K bb F A σ env (bnd (ev n C l) fun a=>bnd (chn n C a ops cs) fun b=>ret (AV.bool b)) _ _
  rw[arm_eval_Compare]
  refine At.bind (S.ev _ _ _ _ i) fun va a σ₁ env₁ i₁ ex₁ ra=>?_
  intro k X res q
  refine wpAny_mono ((S.chn _ _ _ _ _ _ _ _ i₁ ra).1 (fun b e'=>k (.bool b) e') X res q) (fun v s' ⟨b,env',ob',i',ex',hv,q'⟩=>⟨.bool b,env',ob',i',ex',hv,q'⟩) fun J J h=>h
 | Tuple es x1 pos =>
  show At K bb F A σ env (bnd (evs n C es) fun vs=>bnd (liftO (tupA vs)) ret) _ _
  rw[arm_eval_Tuple]
  refine At.stand ?_
  refine At.bind (S.evs _ _ _ _ _ i) fun vs xs σ₁ env₁ i₁ ex₁ ra=>?_
  refine gives_end i₁ fun c hc X=>?_
  obtain ⟨hl,hc⟩:=gdE hc
  ·obtain rfl:=sI hc
   have hl:xs.length≤16777216:=of_decide_eq_true hl
   exact wpAny_newTuple (.mk (tk:=σ₁.s.toks) push_keep (VRel.newTup ra hl (i₁.fresh (get_size _)))) (by rw[RelL.length _ ra]; exact hl)
 | List es pos =>
  show At K bb F A σ env (bnd (evs n C es) fun vs=>bnd (liftO (listA vs)) ret) _ _
  rw[arm_eval_List]
  refine At.stand ?_
  refine At.bind (S.evs _ _ _ _ _ i) fun vs xs σ₁ env₁ i₁ ex₁ ra=>?_
  refine gives_end i₁ fun c hc X=>?_
  obtain ⟨hl,hc⟩:=gdE hc
  ·obtain rfl:=sI hc
   have hl:xs.length≤16777216:=of_decide_eq_true hl
   exact wpAny_newObj_type (.mk (tk:=σ₁.s.toks) push_keep (VRel.newList ra hl (i₁.fresh (get_size _)))) (by show vs.toArray.size≤sizeLine; rw[List.size_toArray,RelL.length _ ra]; exact hl)
 | Dict ks vs pos =>
  show At K bb F A σ env (match Nat.ble vs.length 15&&okKeys ks vs with
   | true=>bnd (prs n C ks vs) fun ps=>ret (AV.dict (mergeA [] ps))
   | false=>stuck) _ _
  cases hc:Nat.ble vs.length 15&&okKeys ks vs with
  | false=>exact At.stuck
  | true=>exact dict_ok G SA i hc
 | ListComp elt gens sc pos =>
  show At K bb F A σ env (match oneGen gens with
   | some g=>match g with
    | (t,it,ifs)=>match compChk C sc with
     | true=>bnd (itrG (ev n C) (evs n C) C (isTupT t) it) fun xs=>compG C sc t (tstG (tst n (innerC C sc)) ifs) (ev n (innerC C sc) elt) xs
     | false=>stuck
   | none=>stuck) _ _
  cases hg:oneGen gens with
  | none=>exact At.stuck
  | some g =>
   obtain ⟨t,it,ifs⟩:=g
   dsimp only
   cases hc:compChk C sc with
   | false=>exact At.stuck
   | true =>
    obtain ⟨hgen,hns,htt⟩:=oneGen_ok hg
    subst hgen
    exact comp_ok SA G i hc (itr_ok G S i it htt) (notSet_ok hns)
 | Subscript o s pos =>
  rw[arm_eval_Subscript]
  cases s with
  | Slice lo hi st sp =>
   cases st with
   | some st=>exact At.stuck
   | none =>
    show At K bb F A σ env (bnd (ev n C o) fun a=>bnd (bnd (evO n C lo) fun x=>bnd (evO n C hi) fun y=>ret (x,y)) fun p=>bnd (liftO (sliceA a p.1 p.2)) ret) _ _
    refine At.bind (S.ev _ _ _ _ i) fun va a σ₁ env₁ i₁ ex₁ ra=>?_
    refine At.bind (At.holding (slice_ok S R lo hi sp _ _ i₁)) fun vs p σ₂ env₂ i₂ ex₂ rp=>?_
    obtain ⟨sl,vl,vu,rfl,hs,hl,hu⟩:=rp
    refine At.stand ?_
    refine At.liftO fun c hc=>?_
    have ra':=VRel.ext ex₂ ra
    exact subs_tail i₂ (item_type (.inr ⟨_,_,_,hc⟩) (RelB.un ra')) (fun X=>sliceA_ok i₂ hc ra' hs hl hu X)
  | _=>exact sub_gen G S i
 | Attribute o a pos =>
  cases o with
  | Name x p =>
   show At K bb F A σ env (bnd (ev n C (.Name x p)) fun v=>match v with
    | .obj b=>bnd (liftO (C.attr b a)) ret
    | _=>stuck) _ _
   rw[arm_eval_Attribute]
   show At K bb F A σ env _ (do
    let o ←eval (.Name x p) E
    standAt pos.atName
    let r ←PySem.holding [o] (getAttr o a true)
    letTemporaryGo (.Name x p) o r
    pure r) _
   refine At.bind (S.ev _ _ _ _ i) fun va g σ₁ env₁ i₁ ex₁ rg=>?_
   cases g with
   | obj b =>
    subst rg
    refine At.stand (gives_end i₁ fun c hc X=>?_)
    obtain ⟨v,rv,hl⟩:=G.attr _ _ _ hc
    exact wpAny_bind (wpAny_holding (hl A σ₁.s _ X i₁.old fun tk=>wpAny_bind (wpAny_letTemporaryGo (wpAny_pure (.toks (i₁.ofBase rv))))))
   | _=>exact At.stuck
  | _=>exact At.stuck
 | Call f as ks pos =>
  cases f with
  | Attribute o m ap =>
   show At K bb F A σ env (match notCall o&&as.all plainArg&&ks.all named&&(ap.endLine == pos.line)&&decide (as.length+ks.length<28) with
    | true=>bnd (ev n C o) fun v=>bnd (liftO (methOf v m)) fun mt=>bnd (evs n C as) fun vs=>bnd (kws n C ks) fun kw=>bnd (liftO (runMt C mt v vs kw)) ret
    | false=>stuck) _ _
   cases hp:notCall o&&as.all plainArg&&ks.all named&&(ap.endLine == pos.line)&&decide (as.length+ks.length<28) with
   | false=>exact At.stuck
   | true=>exact callMt G S i hp
  | Name x p =>
   show At K bb F A σ env (match as.all plainArg&&ks.all named with
    | true=>bnd (ev n C (.Name x p)) fun g=>match g with
     | .obj a=>bnd (evs n C as) fun vs=>bnd (kws n C ks) fun kw=>okO (C.call a vs kw)
     | .bi b=>match ks with
      | []=>bnd (evs n C as) fun vs=>bnd (liftO (callB C b vs)) ret
      | _::_=>stuck
     | _=>stuck
    | false=>stuck) _ _
   cases hp:as.all plainArg&&ks.all named with
   | false=>exact At.stuck
   | true =>
    rw[arm_eval_Call_Name']
    refine At.bind (S.ev _ _ _ _ i) fun va g σ₁ env₁ i₁ ex₁ rg=>?_
    cases g with
    | obj a =>
     subst rg
     exact callFn G S i₁ hp
    | bi b =>
     subst rg
     cases ks with
     | nil=>exact callBi G S i₁ (by rw[Bool.and_eq_true] at hp; exact hp.1)
     | cons=>exact At.stuck
    | _=>exact At.stuck
  | _=>exact At.stuck
 | _=>exact At.stuck
theorem snd_all:∀(n:Nat) (F:Fx) (C:Ctx) (E:Env) (d:Nat),Good K F A C E d→Snd K F A C E n
 | 0,F,C,E,d,G=>⟨fun R e σ env i=>At.stuck,fun R e σ env i=>At.stuck,fun R es pos σ env i=>At.stuck,fun R ks pos σ env i=>At.stuck,fun R ks vs pos σ env i=>At.stuck,fun R op es pos σ env i=>At.stuck,
   fun R a va ops cs pos σ env i ra=>⟨At.stuck,At.stuck⟩,fun R e σ env i=>At.stuck,fun R op es σ env i=>At.stuck⟩
 | n+1,F,C,E,d,G =>
  have SA:=fun F C E d G=>snd_all n F C E d G
  have S:=SA F C E d G
  ⟨fun R e σ env i=>ev_step G S SA R e σ env i,fun R e σ env i=>evO_step S R e σ env i,fun R es pos σ env i=>evs_step S R es pos σ env i,fun R ks pos σ env i=>kws_step S R ks pos σ env i,
   fun R ks vs pos σ env i=>prs_step S R ks vs pos σ env i,fun R op es pos σ env i=>evB_step S R op es pos σ env i,
   fun R a va ops cs pos σ env i ra=>⟨(chn_step G S R a va ops cs pos σ env i ra).1,(chn_step G S R a va ops cs pos σ env i ra).2⟩,fun R e σ env i=>tst_step S R e σ env i,fun R op es σ env i=>allT_step S R op es σ env i⟩
end
noncomputable def swN (C:Ctx) (line:Nat):List PySem.Expr→Option (List Str)
 | []=>some []
 | t::r=>match t with
  | .Name id pos=>match kindA C id with
   | some .local=>match pos.line == line with
    | true=>match swN C line r with
     | some l=>some (id::l)
     | none=>none
    | false=>none
   | _=>none
  | _=>none
noncomputable def swapS (C:Ctx) (ts vs:List PySem.Expr):Option (Option (List Str)):=match ((ts.length == 2||ts.length == 3)&&(vs.length == ts.length)&&vs.all plainArg) with
 | false=>none
 | true=>match swN C ((ts.head?.map (·.pos.line)).getD 0) ts with
  | none=>some none
  | some names=>match nodupS names with
   | false=>none
   | true=>match vs.all (foldedForSure 8) with
    | true=>some none
    | false=>match vs.all (constantsAlone 8) with
     | true=>none
     | false=>match names with
      | [_,_]=>some (some names)
      | _=>none
noncomputable def swapC (C:Ctx) (t value:PySem.Expr):Bool:=match t with
 | .Name x pos=>match value with
  | .ListComp _ _ sc vp=>(match kindA C x with|some .local=>true|_=>false)&&(pos.line == vp.line)&&!(sc.names.any fun (n,k)=>n == x&&(k == .local||k == .cell))
  | _=>true
 | _=>true
noncomputable def appOf (e:PySem.Expr):Option (Str × PySem.Expr):=ob (asCA e) fun r=>match r with
 | (o,m,ap,as,ks,p0)=>ob (nameOf o) fun x=>ob (one as) fun a=>gd (isNil ks&&(sEqB m (PySem.Str.ofString "append")&&plainArg a&&(ap.endLine == p0.line))) <| some (x,a)
noncomputable def ownL:Option Slot→Option (List AV)
 | some (.own c)=>match c with
  | .list xs=>some xs
  | .dict _=>none
 | _=>none
noncomputable def ownD:Option Slot→Option (List (Str × AV))
 | some (.own c)=>match c with
  | .dict es=>some es
  | .list _=>none
 | _=>none
theorem ownL_eq {s:Option Slot}{xs:List AV}(h:ownL s=some xs):s=some (.own (.list xs)):=by
 cases s with
 | none=>exact nS h
 | some s =>
  cases s with
  | pure=>exact nS h
  | own c=>cases c with
   | list=>rw[sI h]
   | dict=>exact nS h
theorem ownD_eq {s:Option Slot}{xs:List (Str × AV)}(h:ownD s=some xs):s=some (.own (.dict xs)):=by
 cases s with
 | none=>exact nS h
 | some s =>
  cases s with
  | pure=>exact nS h
  | own c=>cases c with
   | list=>exact nS h
   | dict=>rw[sI h]
noncomputable def memN (j:Nat):List Nat→Bool
 | []=>false
 | x::r=>match Nat.beq j x with
  | true=>true
  | false=>memN j r
section
variable {R:Type}
noncomputable def inS {β:Type} (v:AV) (f:Str→Option β):Option β:=match v with
 | .str s=>f s
 | _=>none
theorem inSE {β:Type}{v:AV}{f:Str→Option β}{r:β}(h:inS v f=some r):∃s,v=.str s∧f s=some r:=by
 cases v <;> first|exact nS h|exact ⟨_,rfl,h⟩
noncomputable def appM (j:Nat) (me:M R AV):M R FL:=fun k X e=>ob (ownL (slotAt e j)) fun J=>me (fun v e'=>ob (ownL (slotAt e' j)) fun xs=>gd (fitL (xs.length+1)) <| k .next (setSlot e' j (some (.own (.list (xs++[v])))))) X e
noncomputable def setIt (j:Nat) (mv mi:M R AV):M R FL:=fun k X e=>mv (fun v e1=>ob (ownD (slotAt e1 j)) fun J=>mi (fun iv e2=>ob (ownD (slotAt e2 j)) fun es=>inS iv fun s =>
 gd (fitL (es.length+1)) <| k .next (setSlot e2 j (some (.own (.dict (putA s v es)))))) X e1) X e
noncomputable def asnG (e1:PySem.Expr→M R AV) (es1:List PySem.Expr→M R (List AV)) (C:Ctx) (t value:PySem.Expr):M R FL:=match t with
 | .Name x _=>match value with
  | .List es _=>match storeIx C x with
   | some j=>match memN j C.fix with
    | false=>bnd (es1 es) fun vs=>bnd (liftO (match fitL vs.length with|true=>some vs|false=>none)) fun vs=>bnd (putM j (.list vs)) fun J=>ret FL.next
    | true=>stuck
   | none=>stuck
  | .Dict ks vs _=>match ks,vs with
   | [],[]=>match storeIx C x with
    | some j=>match memN j C.fix with
     | false=>bnd (putM j (.dict [])) fun J=>ret FL.next
     | true=>stuck
    | none=>stuck
   | _,_=>bnd (e1 value) fun v=>bnd (asg C t v) fun J=>ret FL.next
  | .ListComp _ _ _ _=>match swapC C t value with
   | true=>stuck
   | false=>bnd (e1 value) fun v=>bnd (asg C t v) fun J=>ret FL.next
  | .SetComp _ _ _ _=>stuck
  | .DictComp _ _ _ _ _=>stuck
  | value=>bnd (e1 value) fun v=>bnd (asg C t v) fun J=>ret FL.next
 | .Tuple ts _ _=>match value with
  | .Tuple vs _ _=>match swapS C ts vs with
   | some _=>bnd (e1 value) fun v=>bnd (asg C t v) fun J=>ret FL.next
   | none=>stuck
  | .SetComp _ _ _ _=>stuck
  | .DictComp _ _ _ _ _=>stuck
  | value=>bnd (e1 value) fun v=>bnd (asg C t v) fun J=>ret FL.next
 | .Subscript o s _=>match notComp value with
  | true=>match ownIx C o with
   | some j=>setIt j (e1 value) (e1 s)
   | none=>stuck
  | false=>stuck
 | _=>stuck
end
section
variable {R:Type}
set_option tactic.hygienic true in
mutual
noncomputable def exs:Nat→Ctx→List Stmt→M R FL
 | 0,_,_=>stuck
 | n+1,C,ss=>match ss with
  | []=>ret .next
  | s::r=>bnd (exS n C s) fun fl=>match fl with
   | .next=>exs n C r
   | .brk=>ret .brk
   | .cont=>ret .cont
   | .ret v=>ret (.ret v)
noncomputable def exS:Nat→Ctx→Stmt→M R FL
 | 0,_,_=>stuck
 | n+1,C,s=>match s with
  | .Pass _=>ret .next
  | .Break _=>ret .brk
  | .Continue _=>ret .cont
  | .Expr value _=>match appOf value with
   | some p=>match slotIx C p.1 with
    | some j=>appM j (ev n C p.2)
    | none=>stuck
   | none=>match notComp value with
    | true=>bnd (ev n C value) fun J=>ret .next
    | false=>stuck
  | .Assign ts value _=>match ts with
   | []=>stuck
   | t::tr=>match tr with
    | []=>asnG (ev n C) (evs n C) C t value
    | _::_=>stuck
  | .AugAssign t op value _=>match t with
   | .Name x _=>match storeIx C x with
    | some j=>bnd (readM j) fun a=>bnd (ev n C value) fun b=>bnd (liftO (augA op a b)) fun c=>bnd (storeM j c) fun J=>ret .next
    | none=>stuck
   | _=>stuck
  | .If test body els _=>bnd (tst n C test) fun c=>ifM c (exs n C body) (exs n C els)
  | .While test body els _=>match els with
   | []=>whileL (tst n C test) (exs n C body) C.fuel
   | _::_=>stuck
  | .For target iter body els _=>match els with
   | []=>match notSetE iter&&(isTupT target == isTup1 target) with
    | true=>bnd (itrG (ev n C) (evs n C) C (isTupT target) iter) fun xs=>forL (asg C target) (exs n C body) xs
    | false=>stuck
   | _::_=>stuck
  | .Return v _=>match v with
   | some e=>bnd (ev n C e) fun v=>ret (.ret v)
   | none=>ret (.ret .none)
  | .Try body hs orelse final _=>match hs with
   | []=>stuck
   | _::_=>match orelse with
    | []=>match final with
     | []=>tryThrough (exs n C body)
     | _::_=>stuck
    | _::_=>stuck
  | _=>stuck
end
end
section
variable {bb:Bool}{K:PW}{F:Fx}{A:Around}{C:Ctx}{E:Env}{d:Nat}{R:Type}{σ:St}{env:AEnv}
set_option tactic.hygienic true in
theorem memN_ok {j:Nat}:∀{l:List Nat},memN j l=false→j∉l
 | [],_,h=>nomatch h
 | x::r,h,hm=>by
  unfold memN at h
  split at h
  ·exact nT h
  ·rename_i e
   rcases List.mem_cons.mp hm with rfl|hm
   ·have:Nat.beq j j=true:=Nat.beq_refl j
    rw[this] at e; exact nT e
   ·exact memN_ok h hm
theorem kindA_eq (G:Good K F A C E d)(x:Str):E.kindOf x=kindA C x:=by
 unfold kindA Env.kindOf
 rw[lookS_eq,G.fok.sc]
noncomputable def swF (E:Env) (line:Nat) (e:PySem.Expr):Option Str:=match e with
 | .Name id pos=>if E.kindOf id == some .local&&pos.line == line then some id else none
 | _=>none
theorem swN_ok (G:Good K F A C E d){line:Nat}:∀{ts:List PySem.Expr},(swN C line ts=none→(ts.filterMap (swF E line)).length≠ts.length) ∧
  ∀names,swN C line ts=some names→ts.filterMap (swF E line)=names∧ts.all isNameT=true∧names.length=ts.length∧ts.map nameOf=names.map some
 | []=>⟨nofun,fun names h=>by obtain rfl:=sI h; exact ⟨rfl,rfl,rfl,rfl⟩⟩
 | t::r=>by
  obtain ⟨ih1,ih2⟩:=swN_ok G (line:=line) (ts:=r)
  have hle:(r.filterMap (swF E line)).length≤r.length:=List.length_filterMap_le _ _
  have no:swF E line t=none→(swN C line (t::r)=none)→_:=fun h1 h2=>(⟨fun J=>by rw[List.filterMap_cons_none h1,List.length_cons]; lia,fun names h=>by rw[h2] at h; exact nS h⟩ :
   (swN C line (t::r)=none→((t::r).filterMap (swF E line)).length≠(t::r).length) ∧
    ∀names,swN C line (t::r)=some names→(t::r).filterMap (swF E line)=names∧(t::r).all isNameT=true∧names.length=(t::r).length∧(t::r).map nameOf=names.map some)
  by_cases hn:∃id pos,t=.Name id pos
  ·obtain ⟨id,pos,rfl⟩:=hn
   have e1:swN C line (.Name id pos::r)=(match kindA C id with|some .local=>(match pos.line == line with|true=>(match swN C line r with|some l=>some (id::l)|none=>none)|false=>none)|_=>none):=rfl
   have e2:swF E line (.Name id pos)=if (kindA C id == some .local&&pos.line == line)=true then some id else none:=by
    show (if (E.kindOf id == some .local&&pos.line == line)=true then some id else none)=_
    rw[kindA_eq G]
   cases hk:kindA C id with
   | none=>rw[hk] at e1 e2; exact no e2 e1
   | some k =>
    rw[hk] at e1 e2
    cases k with
    | «local» =>
     cases hl:pos.line == line with
     | false=>rw[hl] at e1 e2; exact no e2 e1
     | true =>
      rw[hl] at e1 e2
      have e2:swF E line (.Name id pos)=some id:=e2
      cases hs:swN C line r with
      | none =>
       rw[hs] at e1
       refine ⟨fun J=>?_,fun names h=>by rw[e1] at h; exact nS h⟩
       rw[List.filterMap_cons_some e2,List.length_cons,List.length_cons]
       have:=ih1 hs
       lia
      | some l =>
       obtain ⟨h1,h2,h3,h4⟩:=ih2 l hs
       rw[hs] at e1
       refine ⟨fun h=>(by rw[e1] at h; exact nS' h),fun names h=>?_⟩
       rw[e1] at h
       obtain rfl:=sI h
       refine ⟨by rw[List.filterMap_cons_some e2,h1],?_,by rw[List.length_cons,List.length_cons,h3],?_⟩
       ·rw[List.all_cons,h2]; rfl
       ·rw[List.map_cons,List.map_cons,h4]; rfl
    | _=>exact no e2 e1
  ·have e1:swN C line (t::r)=none:=by cases t <;> first|rfl|exact absurd ⟨_,_,rfl⟩ hn
   have e2:swF E line t=none:=by cases t <;> first|rfl|exact absurd ⟨_,_,rfl⟩ hn
   exact no e2 e1
theorem plain_any {vs:List PySem.Expr}(h:vs.all plainArg=true):(vs.any fun|.Starred ..=>true|_=>false)=false:=by
 rw[List.any_eq_false]
 intro x hx
 have:=List.all_eq_true.mp h x hx
 cases x <;> first|exact Bool.false_ne_true|exact nT' this
set_option tactic.hygienic true in
theorem swapS_ok (G:Good K F A C E d){ts vs:List PySem.Expr}{k k':Nat}{p p':Pos}{r:Option (List Str)}(h:swapS C ts vs=some r):swappedStores [.Tuple ts k p] (.Tuple vs k' p') E=pure r ∧
  ∀names,r=some names→ts.all isNameT=true∧ts.map nameOf=names.map some∧names.Nodup∧names.length=2:=by
 unfold swapS at h
 split at h
 ·exact nS h
 rename_i hc
 simp only[Bool.and_eq_true,beq_iff_eq] at hc
 obtain ⟨⟨h1,h2⟩,h3⟩:=hc
 have hbk:E.blockKind=.function:=by unfold Env.blockKind; rw[G.fok.kind]; rfl
 obtain ⟨n1,n2⟩:=swN_ok G (line:=(ts.head?.map (·.pos.line)).getD 0) (ts:=ts)
 unfold swappedStores
 dsimp only
 have hg:(!(ts.length == 2||ts.length == 3)||vs.length != ts.length||E.blockKind != .function)=false:=by
  rw[h1,h2,hbk]; simp
 rw[if_neg (by rw[hg]; exact Bool.false_ne_true),if_neg (by intro h; exact absurd ((plain_any h3).symm.trans h) Bool.false_ne_true)]
 show (if ((ts.filterMap (swF E ((ts.head?.map (·.pos.line)).getD 0))).length != ts.length||(ts.filterMap (swF E ((ts.head?.map (·.pos.line)).getD 0))).eraseDups.length != (ts.filterMap (swF E ((ts.head?.map (·.pos.line)).getD 0))).length)=true
  then (pure none:Sem (Option (List Str))) else (if vs.all (foldedForSure 8)=true then pure none else (if vs.all (constantsAlone 8)=true then _ else pure (some (ts.filterMap (swF E ((ts.head?.map (·.pos.line)).getD 0)))))))=pure r∧_
 split at h
 ·rename_i hs
  obtain rfl:=sI h
  rw[if_pos (by
   have:=n1 hs
   simp only[Bool.or_eq_true,bne_iff_ne,ne_eq]
   exact .inl this)]
  exact ⟨rfl,nofun⟩
 ·rename_i names hs
  obtain ⟨m1,m2,m3,m4⟩:=n2 names hs
  rw[m1]
  split at h
  ·exact nS h
  rename_i hnd
  have hnd:=nodupS_ok hnd
  split at h
  ·rename_i hf
   obtain rfl:=sI h
   refine ⟨?_,nofun⟩
   split
   ·rfl
   ·first|rfl|rw[if_pos hf]
  ·rename_i hf
   split at h
   ·exact nS h
   ·rename_i hco
    obtain ⟨a,b,rfl⟩:∃a b,names=[a,b]:=by
     cases names with
     | nil=>exact nS h
     | cons a q =>
      cases q with
      | nil=>exact nS h
      | cons b q =>
       cases q with
       | nil=>exact ⟨a,b,rfl⟩
       | cons=>exact nS h
    ·obtain rfl:=sI h
     have hab:a≠b:=fun e=>by
      subst e
      exact (List.nodup_cons.mp hnd).1 (List.mem_singleton.mpr rfl)
     have he:([a,b]:List Str).eraseDups=[a,b]:=by
      have hba:(b == a)=false:=beq_eq_false_iff_ne.mpr fun e=>hab e.symm
      simp[List.eraseDups_cons,hba]
     refine ⟨?_,fun names' e=>by obtain rfl:=sI e; exact ⟨m2,m4,hnd,rfl⟩⟩
     rw[if_neg (by rw[he,←m3]; simp),if_neg (by rw[hf]; exact Bool.false_ne_true),if_neg (by rw[hco]; exact Bool.false_ne_true)]
end
section
variable {bb:Bool}{K:PW}{F:Fx}{A:Around}{C:Ctx}{E:Env}{d:Nat}{R:Type}{σ:St}{env:AEnv}
theorem setSlot_comm {x y:Option Slot}:∀{env:AEnv} {i j:Nat},i≠j→setSlot (setSlot env i x) j y=setSlot (setSlot env j y) i x
 | [],i,j,h=>rfl
 | z::r,0,0,h=>absurd rfl h
 | z::r,0,j+1,h=>rfl
 | z::r,i+1,0,h=>rfl
 | z::r,i+1,j+1,h=>by show z::setSlot (setSlot r i x) j y=z::setSlot (setSlot r j y) i x; rw[setSlot_comm (by lia)]
theorem storeIx_names {x:Str}{j:Nat}(h:storeIx C x=some j):C.names[j]?=some (some x):=by
 unfold storeIx at h
 cases q:kindA C x with
 | none=>rw[q] at h; exact nS h
 | some k=>rw[q] at h; cases k <;> first|exact nS h|exact idx_some h
theorem swap2_ok (G:Good K F A C E d)(i:Inv K F σ env){a b:Str}(hab:a≠b){ts:List PySem.Expr}(hts:ts.map nameOf=[some a,some b]){vs:List AV}{us:List Value}(rl:RelL K σ.s.heap (Av F σ) us vs)(hlen:ts.length=vs.length) :
  At K bb F A σ env (R:=R) (stNames C ts vs) (assignInOrder (([a,b].reverse).map fun n=>bindName E n) us.reverse) (fun J J J=>True):=by
 have hl2:=congrArg List.length hts
 rw[List.length_map] at hl2
 obtain ⟨t1,t2,rfl⟩:∃t1 t2,ts=[t1,t2]:=by
  cases ts with
  | nil=>injection hl2
  | cons t1 r =>
   cases r with
   | nil=>cases hl2
   | cons t2 r =>
    cases r with
    | nil=>exact ⟨t1,t2,rfl⟩
    | cons=>simp at hl2
 obtain ⟨x,y,rfl⟩:∃x y,vs=[x,y]:=by
  cases vs with
  | nil=>injection hlen
  | cons x r =>
   cases r with
   | nil=>cases hlen
   | cons y r =>
    cases r with
    | nil=>exact ⟨x,y,rfl⟩
    | cons=>cases hlen
 obtain ⟨u,r1,rfl,hu,v,r2,rfl,hv,h0⟩:=rl
 subst h0
 injection hts with e1 hts
 injection hts with e2 _
 intro k X res q
 unfold stNames at q
 rw[e1] at q
 dsimp only at q
 cases h1:storeIx C a with
 | none=>rw[h1] at q; exact nS q
 | some p1 =>
  rw[h1] at q
  have q:(stNames C [t2] [y]:M R Unit) k X (setSlot env p1 (some (.pure x)))=some res:=q
  unfold stNames at q
  rw[e2] at q
  dsimp only at q
  cases h2:storeIx C b with
  | none=>rw[h2] at q; exact nS q
  | some p2 =>
   rw[h2] at q
   have q:k () (setSlot (setSlot env p1 (some (.pure x))) p2 (some (.pure y)))=some res:=q
   have hne:p1≠p2:=fun e=>by
    have n1:=storeIx_names h1
    have n2:=storeIx_names h2
    rw[e] at n1
    rw[n1] at n2
    exact hab (by injection n2 with n2; injection n2)
   rw[setSlot_comm hne] at q
   show wpAny _ _ (assignInOrder [bindName E b,bindName E a] [v,u]) _ _ _
   have A1:At K bb F A σ env (R:=R) (bnd (storeM p2 y) fun J=>bnd (storeM p1 x) fun J=>ret ()) (do PySem.holding [u] (bindName E b v); PySem.holding [] (bindName E a u); pure ()) (fun J J J=>True):=by
    refine At.bind (At.holding (bindName_ok G i h2 hv)) fun J J σ₁ env₁ i₁ ex₁ J=>?_
    refine At.bind (At.holding (bindName_ok G i₁ h1 (VRel.ext ex₁ hu))) fun J J σ₂ env₂ i₂ ex₂ J=>?_
    exact At.ret i₂ trivial
   exact A1 k X res q
theorem unpackItems_any {s:Shared}{u:Value}{v:AV}{vs:List AV}{A':Addr→Prop}{X:Value→Shared→Prop}{Q:List Value→Shared→Prop}(hh:A.handled=none)(hv:v=.tup vs∨v=.list vs)(r:VRel K s.heap A' u v){n:Nat}(hn:n=vs.length)
  (h:∀us h',RelL K s.heap A' us vs→Heap.ExtBut s.heap.objs.size s.heap h'→Q us { s with heap:=h' }):wpAny (model K.p K.w) A (unpackItems u n none) Q X s:=by
 rcases hv with rfl|rfl
 ·obtain ⟨a,us,rfl,na,ht,hl,rl⟩:=r
  have:n=us.size:=by rw[hn,←RelL.length _ rl,Array.length_toList]
  subst this
  exact unpackItems_tuple hh ht fun h' he=>h _ h' rl he
 ·obtain ⟨a,us,rfl,na,ht,hl,rl⟩:=r
  have:n=us.size:=by rw[hn,←RelL.length _ rl,Array.length_toList]
  subst this
  exact PySem.W.kun_itemsOf hh ht.isList fun h' he=>h _ h' rl he
set_option tactic.hygienic true in
theorem assignT_ok (G:Good K F A C E d){n:Nat}(S:Snd K F A C E n)(i:Inv K F σ env){ts vs:List PySem.Expr}{k k':Nat}{p p' pos:Pos}{r:Option (List Str)}(h:swapS C ts vs=some r) :
  At K bb F A σ env (R:=R) (bnd (ev n C (.Tuple vs k' p')) fun v=>bnd (asg C (.Tuple ts k p) v) fun J=>ret .next) (exec (.Assign [.Tuple ts k p] (.Tuple vs k' p') pos) E) (FlowRel K F):=by
 obtain ⟨hs,hr⟩:=swapS_ok (k:=k) (k':=k') (p:=p) (p':=p') G h
 rw[arm_exec_Assign,swapsSole_no rfl]
 refine At.stand ?_
 show At K bb F A σ env _ (do
  let v ←eval (.Tuple vs k' p') E
  assignStores E v (←swappedStores [.Tuple ts k p] (.Tuple vs k' p') E) ((assignEach [.Tuple ts k p] E).map (fun x=>x.2))) _
 rw[hs]
 refine At.bind (S.ev _ _ _ _ i) fun u v σ₁ env₁ i₁ ex₁ rv=>?_
 rw[pure_bind]
 cases r with
 | none =>
  show At K bb F A σ₁ env₁ _ (do assignAll u [assign (.Tuple ts k p) E]; pure Flow.next) _
  exact At.bind (asg_ok G i₁ (IRel.of rv)) fun J J σ₂ env₂ i₂ ex₂ J=>At.ret i₂ rfl
 | some names =>
  obtain ⟨h1,h2,h3,h4⟩:=hr names rfl
  obtain ⟨a,b,rfl⟩:∃a b,names=[a,b]:=by
   cases names with
   | nil=>injection h4
   | cons a q =>
    cases q with
    | nil=>cases h4
    | cons b q =>
     cases q with
     | nil=>exact ⟨a,b,rfl⟩
     | cons=>cases h4
  have hab:a≠b:=fun e=>by
   subst e
   exact (List.nodup_cons.mp h3).1 (List.mem_singleton.mpr rfl)
  have hl2:ts.length=2:=by
   have:=congrArg List.length h2
   simpa using this
  have core:∀xs,v=.tup xs∨v=.list xs→At K bb F A σ₁ env₁ (R:=R) (bnd (match ts.all isNameT&&decide (ts.length=xs.length) with|true=>stNames C ts xs|false=>stuck) fun J=>ret FL.next)
    (assignStores E u (some [a,b]) ((assignEach [.Tuple ts k p] E).map (fun x=>x.2))) (FlowRel K F):=fun xs hv=>by
   cases hc:ts.all isNameT&&decide (ts.length=xs.length) with
   | false=>exact At.stuck
   | true =>
    rw[Bool.and_eq_true,decide_eq_true_eq] at hc
    intro k X res q
    unfold assignStores
    refine wpAny_bind (wpAny_rule ?_)
    refine wpAny_bind (unpackItems_any G.room.hd hv rv (n:=[a,b].length) (by rw[←hc.2,hl2]; rfl) fun us h' rl he=>?_)
    have hk:∀b o,σ₁.s.heap.get? b=some o→h'.get? b=some o:=fun b o e=>he b o (Nat.ne_of_lt (Heap.lt_size e)) e
    obtain ⟨i₂,ex₂⟩:=i₁.heap (bb:=bb) (n:=σ₁.s.toks) hk
    refine wpAny_bind (wpAny_mono (swap2_ok G i₂ hab h2 (RelL.ext ex₂ rl) hc.2 (fun J e'=>k .next e') X res q) (fun _ s'' ⟨c,env'',ob'',i'',ex'',p',q''⟩=>wpAny_pure ⟨.next,env'',ob'',i'',ex₂.trans ex'',rfl,q''⟩)
     fun J J=>Res.trans ex₂)
  cases v with
  | tup xs=>rw[(asg_seq ts k p xs).1]; exact core xs (.inl rfl)
  | list xs=>rw[(asg_seq ts k p xs).2]; exact core xs (.inr rfl)
  | _ =>
   rw[asg_none ts k p]
   ·exact At.stuck
   all_goals exact fun J h=>nomatch h
theorem appOf_ok {e a:PySem.Expr} {x:Str} (h:appOf e=some (x,a)):∃np ap p0,e=.Call (.Attribute (.Name x np) (PySem.Str.ofString "append") ap) [a] [] p0∧plainArg a=true∧(ap.endLine == p0.line)=true:=by
 obtain ⟨⟨o,m,ap,as,ks,p0⟩,h0,h⟩:=obE h
 obtain ⟨y,h1,h⟩:=obE h
 obtain ⟨b,h2,h⟩:=obE h
 obtain ⟨hc,h⟩:=gdE h
 simp only[Bool.and_eq_true] at hc
 obtain ⟨np,e1⟩:=nameOf_ok h1
 rw[asCA_eq h0,e1,oneE h2,nilE hc.1,sEqB_true hc.2.1.1,(pI (sI h)).1,(pI (sI h)).2]
 exact ⟨_,_,_,rfl,(pI (sI h)).2▸hc.2.1.2,hc.2.2⟩
theorem Inv.mutate (i:Inv K F σ env){j:Nat}{p:Place}{a:Addr}{c':OC}{h':Heap}{tk:Nat}(hp:F.pl[j]?=some p)(hh:Holds σ.s.heap p (some (.ref a)))(hm:(j,a)∈σ.ob)(hs:∀b,b≠a→h'.get? b=σ.s.heap.get? b)
  (hr:Ext bb F σ ⟨{ σ.s with heap:=h',toks:=tk },σ.ob⟩→ORel K h' (Av F ⟨{ σ.s with heap:=h',toks:=tk },σ.ob⟩) a c') (ht:∃o,h'.get? a=some o) :
  Inv K F ⟨{ σ.s with heap:=h',toks:=tk },σ.ob⟩ (setSlot env j (some (.own c')))∧Ext bb F σ ⟨{ σ.s with heap:=h',toks:=tk },σ.ob⟩:=by
 have off:∀q:Place,q∈F.pl→q.addr≠a:=fun q hq e=>i.obp _ hm (.inr ⟨q,hq,e⟩)
 refine i.change (.inr (List.mem_map_of_mem hm)) hs ht (fun q hq ex=>?_) (fun k q u hk hq hu=>hu.at fun o eo=>(hs _ (off q (List.mem_of_getElem? hq))).trans eo) fun k b hk hb e=>?_
 ·rw[hp] at hq; obtain rfl:=sI hq
  exact ⟨_,hh.at fun o eo=>(hs _ (off p (List.mem_of_getElem? hp))).trans eo,a,rfl,hm,hr ex⟩
 ·subst e
  have:=nodup_inj i.obn hb hm rfl
  (injection this with this; subst this)
  exact hk rfl
set_option tactic.hygienic true in
theorem app_ok (G:Good K F A C E d){n:Nat}(S:Snd K F A C E n)(i:Inv K F σ env){x:Str}{a:PySem.Expr}{np ap p0 pos:Pos}{j:Nat}(hj:slotIx C x=some j)(hpl:plainArg a=true)(hline:(ap.endLine == p0.line)=true) :
  At K bb F A σ env (R:=R) (appM j (ev n C a)) (exec (.Expr (.Call (.Attribute (.Name x np) (PySem.Str.ofString "append") ap) [a] [] p0) pos) E) (FlowRel K F):=by
 intro k X res q
 obtain ⟨p,hp,acc,hd⟩:=G.fok.slot x j hj
 obtain ⟨v,hv,hr⟩:=i.slots j p hp
 obtain ⟨xs,hc,q⟩:=obE q
 rw[ownL_eq hc] at hr
 obtain ⟨b,rfl,hm,ro⟩:=hr
 obtain ⟨vs,hl,_,_⟩:=id ro
 refine wpAny_Expr_any ?_ (by unfold interactive; rw[G.fok.kind]; rfl) rfl
 have hall:[a].all plainArg=true:=by simp[hpl]
 refine wpAny_Call_method (T:="list") (id:="list.append") rfl (by rw[starEach_plain' hall]; rfl) hline PySem.F.plainAttrs_list PySem.slot_list_append PySem.type_list_append ?_
 refine wpAny_Name (load_at G.fok.kind acc hv ⟨hl.isList.typeIs,fun a' e=>?_,?_⟩) hd
 ·(injection e with e; subst e)
  obtain ⟨n,ho⟩:=hl
  exact ⟨_,ho,rfl⟩
 ·have hst:(backTo p0 (starEach [a] E)).any (fun x=>x.1)=false:=starEach_plain hall p0
  refine callWith_of (P:=fun h=>True) (by rw[hst]; rfl) (fun h J=>⟨.machine,.inr (.inl rfl),Looks.of_pure rfl⟩) ?_
  rw[evalArgs_eq hst rfl]
  have hA:At K true F A σ env (R:=R) (bnd (ev n C a) fun v=>ret [v]) (spliced (backTo p0 (starEach [a] E))) (fun us xs σ=>RelL K σ.s.heap (Av F σ) us xs):=by
   rw[arm_starEach_plain hpl]
   show At K true F A σ env (bnd (ev n C a) fun v=>ret [v]) (spliced [(false,eval a E)]) _
   rw[spliced]
   refine At.bind (S.ev _ _ _ _ i) fun va a σ₁ env₁ i₁ ex₁ ra=>?_
   simp only[Bool.false_eq_true,if_false,pure_bind]
   intro k X res q
   refine wpAny_bind (wpAny_holding ?_)
   show wpAny _ _ (pure []) _ _ _
   exact wpAny_pure (wpAny_pure ⟨[a],env₁,σ₁.ob,i₁,Ext.refl F σ₁,⟨va,[],rfl,ra,rfl⟩,q⟩)
  refine wpAny_bind (wpAny_mono (hA (fun xs' e'=>ob (one xs') fun v=>ob (ownL (slotAt e' j)) fun xs=>gd (fitL (xs.length+1)) <| k .next (setSlot e' j (some (.own (.list (xs++[v])))))) X res q) (fun us s' ⟨xs',env',ob',i',ex',rl,q'⟩=>?_) fun J J=>Res.weak)
  refine wpAny_holding (wpAny_bind (wpAny_pure (wpAny_pure ⟨trivial,?_⟩)))
  obtain ⟨v,h1,q'⟩:=obE q'
  obtain ⟨ys,hc',q'⟩:=obE q'
  obtain ⟨hfit,q'⟩:=gdE q'
  rw[oneE h1] at rl
  obtain ⟨u,r,rfl,ru,h0⟩:=rl
  subst h0
  obtain ⟨v',hv',hr'⟩:=i'.slots j p hp
  rw[ownL_eq hc'] at hr'
  obtain ⟨b',rfl,hm',ro'⟩:=hr'
  have hbb:b'=b:=by
   have:=nodup_inj i.obu (ex'.sub rfl _ hm') hm rfl
   cases this; rfl
  subst hbb
  obtain ⟨ws,hl',hle',rl'⟩:=ro'
  have hws:ws.size=ys.length:=by rw[←RelL.length _ rl',Array.length_toList]
  have hfit':ys.length+1≤16777216:=of_decide_eq_true hfit
  have e2:sizeLine=16777216:=rfl
  show wpAny _ _ (PySem.call (.builtin "list.append") [.ref b',u] []) _ _ _
  refine wpAny_list_append_plain (hsz:=by lia) hl' fun h₂ hl₂ hs₂=>?_
  obtain ⟨i₂,ex₂⟩:=i'.mutate (bb:=bb) (c':=.list (ys++[v])) (h':=h₂) (tk:=s'.toks) hp hv' hm' (fun c hc=>hs₂.2 c hc) (fun ex=>⟨ws.push u,hl₂,by rw[List.length_append,List.length_singleton]; lia,by
   rw[Array.toList_push]
   exact RelL.append _ (RelL.ext ex rl') ⟨u,[],rfl,VRel.ext ex ru,rfl⟩⟩) (by obtain ⟨n,e⟩:=hl₂; exact ⟨_,e⟩)
  exact ⟨.next,_,ob',i₂,ex'.weak.trans ex₂,rfl,q'⟩
theorem setIt_ok (G:Good K F A C E d){n:Nat}(S:Snd K F A C E n)(i:Inv K F σ env){x:Str}{s value:PySem.Expr}{np sp pos:Pos}{j:Nat}(hj:slotIx C x=some j)(hc:notComp value=true) :
  At K bb F A σ env (R:=R) (setIt j (ev n C value) (ev n C s)) (exec (.Assign [.Subscript (.Name x np) s sp] value pos) E) (FlowRel K F):=by
 intro k X res q
 obtain ⟨p,hp,acc,hd⟩:=G.fok.slot x j hj
 refine wpAny_Assign_Subscript ?_ (swaps_no hc)
 refine wpAny_mono (S.ev R value σ env i _ X res q) (fun u s₁ ⟨v,env₁,ob₁,i₁,ex₁,rv,q₁⟩=>?_) fun J J h=>h
 obtain ⟨w,hv,hr⟩:=i₁.slots j p hp
 obtain ⟨es,hc',q₁⟩:=obE q₁
 rw[ownD_eq hc'] at hr
 obtain ⟨b,rfl,hm,ro⟩:=hr
 refine wpAny_Name (load_at G.fok.kind acc hv ?_) hd
 refine wpAny_mono (S.ev (bb:=true) R s ⟨s₁,ob₁⟩ env₁ i₁ _ X res q₁) (fun ui s₂ ⟨iv,env₂,ob₂,i₂,ex₂,ri,q₂⟩=>?_) fun J J h=>.trans ex₁ h.weak
 obtain ⟨w',hv',hr'⟩:=i₂.slots j p hp
 obtain ⟨es',hc'',q₂⟩:=obE q₂
 obtain ⟨key,rfl,q₂⟩:=inSE q₂
 obtain ⟨hfit,q₂⟩:=gdE q₂
 rw[ownD_eq hc''] at hr'
 obtain ⟨b',rfl,hm',ro'⟩:=hr'
 have hbb:b'=b:=by
  have:=nodup_inj i₁.obu (ex₂.sub rfl _ hm') hm rfl
  cases this; rfl
 subst hbb
 obtain ⟨t,rfl,hkl⟩:=ri
 obtain ⟨kvs,hsm,hdo,hle,rd⟩:=ro'
 have hlen:=RelD.length _ rd
 have hfit':es'.length+1≤16777216:=of_decide_eq_true hfit
 have e2:sizeLine=16777216:=rfl
 have hnd:(kvs.map (fun x=>x.1)).Nodup:=by obtain ⟨_,_,_,_,_,_,_,_,h⟩:=hdo; exact h
 refine wpAny_setItem_pairs (knd:=PySem.strKind K.p K.w) (hsz:=by lia) (strKind_is _ _ key t) hdo fun h₃ hm₃ hs₃=>?_
 obtain ⟨i₃,ex₃⟩:=i₂.mutate (bb:=bb) (c':=.dict (putA key v es')) (h':=h₃) (tk:=s₂.toks+1) hp hv' hm' (fun c hc=>hs₃.2 c hc) (fun ex=>by
  have hrel:=putA_rel hkl (VRel.ext ex (VRel.ext ex₂ rv)) hnd (RelD.kp ex.hst _ rd)
  have hln:=RelD.length _ hrel
  have hst:=stored_length_le kvs key u
  exact ⟨stored kvs key u,hsm,hm₃,by lia,hrel⟩) (by obtain ⟨o,_,_,e,_⟩:=hm₃; exact ⟨o,e⟩)
 exact ⟨.next,_,ob₂,i₃,(ex₁.trans ex₂.weak).trans ex₃,rfl,q₂⟩
end
section
variable {bb:Bool}{K:PW}{F:Fx}{A:Around}{C:Ctx}{E:Env}{d:Nat}{R:Type}{σ:St}{env:AEnv}
set_option tactic.hygienic true in
theorem ownDict_ok (G:Good K F A C E d)(i:Inv K F σ env){x:Str}{np lp pos:Pos}{j:Nat}(hj:storeIx C x=some j)(hfx:j∉F.fix) :
  At K false F A σ env (R:=R) (bnd (putM j (.dict [])) fun J=>ret FL.next) (exec (.Assign [.Name x np] (.Dict [] [] lp) pos) E) (FlowRel K F):=by
 rw[arm_exec_Assign,swapsSole_no rfl]
 refine At.stand ?_
 show At K false F A σ env _ (do
  let v ←eval (.Dict [] [] lp) E
  assignStores E v (←swappedStores [.Name x np] (.Dict [] [] lp) E) ((assignEach [.Name x np] E).map (fun x=>x.2))) _
 rw[swapped_no rfl]
 intro k X res q
 have hbig:=i.big G.big
 refine wpAny_bind (wpAny_Dict_empty ?_)
 rw[pure_bind]
 show wpAny _ _ (do assign (.Name x np) E (.ref σ.s.heap.objs.size); pure Flow.next) _ _ _
 refine wpAny_bind (wpAny_mono (ownNew_ok (np:=np) G i hj hfx (o:={ cls:=.type "dict",data:=.dict #[] }) (c:=.dict []) rfl (fun h A' hst hn=>⟨[],hbig,?_,by show 0≤sizeLine; exact Nat.zero_le _,rfl⟩) (k:=fun J e'=>k .next e') (X:=X) q)
  (fun _ _ ⟨_,env'',ob'',i'',ex'',_,q''⟩=>wpAny_pure ⟨.next,env'',ob'',i'',ex'',rfl,q''⟩) fun J J h=>h)
 obtain ⟨o,es,ep,ho,r⟩:=Heap.DictOf.new (knd:=PySem.strKind K.p K.w) σ.s.heap
 have hnew:(σ.s.heap.push { cls:=.type "dict",data:=.dict #[] }).get? σ.s.heap.objs.size=some { cls:=.type "dict",data:=.dict #[] }:=Heap.get?_push_size _ rfl
 rw[hnew] at ho; obtain rfl:=sI ho
 exact ⟨_,es,ep,hn,r⟩
theorem assignC_ok (G:Good K F A C E d){n:Nat}(S:Snd K F A C E n)(i:Inv K F σ env){x:Str}{np pos vp:Pos}{elt:PySem.Expr}{gens:List Comprehension}{sc:Scope}(h:swapC C (.Name x np) (.ListComp elt gens sc vp)=false) :
  At K bb F A σ env (R:=R) (bnd (ev n C (.ListComp elt gens sc vp)) fun v=>bnd (asg C (.Name x np) v) fun J=>ret .next) (exec (.Assign [.Name x np] (.ListComp elt gens sc vp) pos) E) (FlowRel K F):=by
 have hsw:swapsWithSole [.Name x np] (.ListComp elt gens sc vp) pos.line E=pure false:=by
  show (pure _:Sem Bool)=pure false
  have hbk:E.blockKind=.function:=by unfold Env.blockKind; rw[G.fok.kind]; rfl
  have e:(E.blockKind == .function&&E.kindOf x == some .local&&np.line == vp.line&&!(sc.names.any fun (n,k)=>n == x&&(k == .local||k == .cell)))=false:=by
   rw[hbk,kindA_eq G]
   have h':((match kindA C x with|some .local=>true|_=>false)&&(np.line == vp.line)&&!(sc.names.any fun (n,k)=>n == x&&(k == .local||k == .cell)))=false:=h
   have:(kindA C x == some NameKind.local)=(match kindA C x with|some .local=>true|_=>false):=by
    cases kindA C x with
    | none=>rfl
    | some k=>cases k <;> rfl
   rw[this]
   exact h'
  exact congrArg pure e
 rw[arm_exec_Assign,hsw]
 refine At.stand ?_
 show At K bb F A σ env _ (do
  let v ←eval (.ListComp elt gens sc vp) E
  assignStores E v (←swappedStores [.Name x np] (.ListComp elt gens sc vp) E) ((assignEach [.Name x np] E).map (fun x=>x.2))) _
 rw[swapped_no rfl]
 refine At.bind (S.ev _ _ _ _ i) fun u v σ₁ env₁ i₁ ex₁ r=>?_
 rw[pure_bind]
 show At K bb F A σ₁ env₁ _ (do assignAll u [assign (.Name x np) E]; pure Flow.next) _
 exact At.bind (asg_ok G i₁ (IRel.of r)) fun J J σ₂ env₂ i₂ ex₂ J=>At.ret i₂ rfl
theorem assignCT_ok (G:Good K F A C E d){n:Nat}(S:Snd K F A C E n)(i:Inv K F σ env){ts:List PySem.Expr}{k:Nat}{p pos vp:Pos}{elt:PySem.Expr}{gens:List Comprehension}{sc:Scope} :
  At K bb F A σ env (R:=R) (bnd (ev n C (.ListComp elt gens sc vp)) fun v=>bnd (asg C (.Tuple ts k p) v) fun J=>ret .next) (exec (.Assign [.Tuple ts k p] (.ListComp elt gens sc vp) pos) E) (FlowRel K F):=by
 rw[arm_exec_Assign,show swapsWithSole [.Tuple ts k p] (.ListComp elt gens sc vp) pos.line E=pure false from rfl]
 refine At.stand ?_
 show At K bb F A σ env _ (do
  let v ←eval (.ListComp elt gens sc vp) E
  assignStores E v (←swappedStores [.Tuple ts k p] (.ListComp elt gens sc vp) E) ((assignEach [.Tuple ts k p] E).map (fun x=>x.2))) _
 rw[swapped_no (by rfl)]
 refine At.bind (S.ev _ _ _ _ i) fun u v σ₁ env₁ i₁ ex₁ r=>?_
 rw[pure_bind]
 show At K bb F A σ₁ env₁ _ (do assignAll u [assign (.Tuple ts k p) E]; pure Flow.next) _
 exact At.bind (asg_ok G i₁ (IRel.of r)) fun J J σ₂ env₂ i₂ ex₂ J=>At.ret i₂ rfl
theorem asn_ok (G:Good K F A C E d){n:Nat}(S:Snd K F A C E n)(i:Inv K F σ env)(t value:PySem.Expr)(pos:Pos):At K false F A σ env (R:=R) (asnG (ev n C) (evs n C) C t value) (exec (.Assign [t] value pos) E) (FlowRel K F):=by
 have hfx:∀{j},memN j C.fix=false→j∉F.fix:=fun h=>G.fok.fix▸memN_ok h
 cases t with
 | Name x np =>
  cases value with
  | List es lp =>
   show At K false F A σ env (match storeIx C x with
    | some j=>match memN j C.fix with
     | false=>bnd (evs n C es) fun vs=>bnd (liftO (match fitL vs.length with|true=>some vs|false=>none)) fun vs=>bnd (putM j (.list vs)) fun J=>ret FL.next
     | true=>stuck
    | none=>stuck) _ _
   cases hj:storeIx C x with
   | none=>exact At.stuck
   | some j =>
    dsimp only
    cases hm:memN j C.fix with
    | true=>exact At.stuck
    | false=>exact ownList_ok G S i hj (hfx hm)
  | Dict ks vs lp =>
   cases ks with
   | nil =>
    cases vs with
    | nil =>
     show At K false F A σ env (match storeIx C x with
      | some j=>match memN j C.fix with
       | false=>bnd (putM j (.dict [])) fun J=>ret FL.next
       | true=>stuck
      | none=>stuck) _ _
     cases hj:storeIx C x with
     | none=>exact At.stuck
     | some j =>
      dsimp only
      cases hm:memN j C.fix with
      | true=>exact At.stuck
      | false=>exact ownDict_ok G i hj (hfx hm)
    | cons=>exact assign_ok G S i rfl rfl
   | cons=>cases vs <;> exact assign_ok G S i rfl rfl
  | ListComp elt gens sc vp =>
   show At K false F A σ env (match swapC C (.Name x np) (.ListComp elt gens sc vp) with
    | true=>stuck
    | false=>bnd (ev n C (.ListComp elt gens sc vp)) fun v=>bnd (asg C (.Name x np) v) fun J=>ret FL.next) _ _
   cases h:swapC C (.Name x np) (.ListComp elt gens sc vp) with
   | true=>exact At.stuck
   | false=>exact assignC_ok G S i h
  | SetComp=>exact At.stuck
  | DictComp=>exact At.stuck
  | _=>exact assign_ok G S i rfl rfl
 | Tuple ts k p =>
  cases value with
  | Tuple vs k' p' =>
   show At K false F A σ env (match swapS C ts vs with
    | some _=>bnd (ev n C (.Tuple vs k' p')) fun v=>bnd (asg C (.Tuple ts k p) v) fun J=>ret FL.next
    | none=>stuck) _ _
   cases h:swapS C ts vs with
   | none=>exact At.stuck
   | some r=>exact assignT_ok G S i h
  | ListComp elt gens sc vp=>exact assignCT_ok G S i
  | SetComp=>exact At.stuck
  | DictComp=>exact At.stuck
  | _=>exact assign_ok G S i rfl rfl
 | Subscript o s p =>
  show At K false F A σ env (match notComp value with
   | true=>match ownIx C o with
    | some j=>setIt j (ev n C value) (ev n C s)
    | none=>stuck
   | false=>stuck) _ _
  cases hc:notComp value with
  | false=>exact At.stuck
  | true =>
   dsimp only
   cases ho:ownIx C o with
   | none=>exact At.stuck
   | some j =>
    obtain ⟨x,np,rfl,hj⟩:=ownIx_ok ho
    exact setIt_ok G S i hj hc
 | _=>exact At.stuck
set_option tactic.hygienic true in
theorem exs_all:∀(n:Nat) (F:Fx) (C:Ctx) (E:Env) (d:Nat),Good K F A C E d →
  (∀(R:Type) ss σ env,Inv K F σ env→At (R:=R) K false F A σ env (exs n C ss) (execs ss E) (FlowRel K F))∧(∀(R:Type) s σ env,Inv K F σ env→At (R:=R) K false F A σ env (exS n C s) (exec s E) (FlowRel K F))
 | 0,F,C,E,d,G=>⟨fun R ss σ env i=>At.stuck,fun R s σ env i=>At.stuck⟩
 | n+1,F,C,E,d,G=>by
  obtain ⟨ih1,ih2⟩:=exs_all n F C E d G
  have S:=snd_all (A:=A) n F C E d G
  refine ⟨fun R ss σ env i=>?_,fun R s σ env i=>?_⟩
  ·cases ss with
   | nil=>exact execs_nil_ok i
   | cons s r=>exact execs_cons_ok i (ih2 R s σ env i) fun σ env i=>ih1 R r σ env i
  ·cases s with
   | Pass pos=>rw[arm_exec_Pass]; exact At.stand (At.ret i rfl)
   | Break pos=>rw[arm_exec_Break]; exact At.stand (At.ret i rfl)
   | Continue pos=>rw[arm_exec_Continue]; exact At.stand (At.ret i rfl)
   | Expr value pos =>
    show At K false F A σ env (match appOf value with
     | some p=>match slotIx C p.1 with
      | some j=>appM j (ev n C p.2)
      | none=>stuck
     | none=>match notComp value with
      | true=>bnd (ev n C value) fun J=>ret FL.next
      | false=>stuck) _ _
    cases ha:appOf value with
    | some p =>
     obtain ⟨x,a⟩:=p
     obtain ⟨np,ap,p0,rfl,h1,h2⟩:=appOf_ok ha
     dsimp only
     cases hj:slotIx C x with
     | none=>exact At.stuck
     | some j=>exact app_ok G S i hj h1 h2
    | none =>
     dsimp only
     cases hc:notComp value with
     | false=>exact At.stuck
     | true =>
      intro k X res q
      refine wpAny_Expr_any ?_ (by unfold interactive; rw[G.fok.kind]; rfl) (swaps_no hc)
      exact wpAny_mono (S.ev R value σ env i (fun J e'=>k .next e') X res q) (fun v s' ⟨a,env',ob',i',ex',r,q'⟩=>⟨.next,env',ob',i',ex',rfl,q'⟩) fun J J h=>h
   | Assign ts value pos =>
    cases ts with
    | nil=>exact At.stuck
    | cons t tr =>
     cases tr with
     | cons=>exact At.stuck
     | nil=>exact asn_ok G S i t value pos
   | AugAssign t op value pos =>
    cases t with
    | Name x np =>
     show At K false F A σ env (match storeIx C x with
      | some j=>bnd (readM j) fun a=>bnd (ev n C value) fun b=>bnd (liftO (augA op a b)) fun c=>bnd (storeM j c) fun J=>ret FL.next
      | none=>stuck) _ _
     cases hj:storeIx C x with
     | none=>exact At.stuck
     | some j=>exact aug_ok G S i hj
    | _=>exact At.stuck
   | If test body els pos=>exact if_ok S i (fun σ env i=>ih1 R body σ env i) (fun σ env i=>ih1 R els σ env i)
   | While test body els pos =>
    cases els with
    | cons=>exact At.stuck
    | nil=>exact while_ok S i C.fuel (fun σ env i=>ih1 R body σ env i)
   | For target iter body els pos =>
    cases els with
    | cons=>exact At.stuck
    | nil =>
     show At K false F A σ env (match notSetE iter&&(isTupT target == isTup1 target) with
      | true=>bnd (itrG (ev n C) (evs n C) C (isTupT target) iter) fun xs=>forL (asg C target) (exs n C body) xs
      | false=>stuck) _ _
     cases hc:notSetE iter&&(isTupT target == isTup1 target) with
     | false=>exact At.stuck
     | true =>
      rw[Bool.and_eq_true,beq_iff_eq] at hc
      exact for_ok G i (itr_ok G S i iter hc.2) (fun W σ env i=>(exs_all n (F.wide W) C E d (G.wide W)).1 R body σ env i) (notSet_ok hc.1)
   | Return v pos =>
    cases v with
    | none=>exact return0_ok i
    | some e=>exact return_ok S i
   | Try body hs orelse final pos =>
    cases hs with
    | nil=>exact At.stuck
    | cons h hs =>
     cases orelse with
     | cons=>exact At.stuck
     | nil =>
      cases final with
      | cons=>exact At.stuck
      | nil=>exact try_ok i (ih1 R body σ env i)
   | _=>exact At.stuck
end
noncomputable def bindG {α:Type}:List (Str × Option α)→List α→List (Str × α)→Option (List α)
 | [],vs,_=>match vs with
  | []=>some []
  | _::_=>none
 | p::ps,vs,kw=>match vs with
  | v::vs=>ob (bindG ps vs kw) fun r=>some (v::r)
  | []=>match lookS p.1 kw with
   | some v=>ob (bindG ps [] kw) fun r=>some (v::r)
   | none=>ob p.2 fun d=>ob (bindG ps [] kw) fun r=>some (d::r)
noncomputable def sEqL:List Str→List Str→Bool
 | [],ys=>isNil ys
 | x::xs,ys=>match ys with
  | []=>false
  | y::ys=>sEqB x y&&sEqL xs ys
noncomputable def shapeIn (n:Nat) (ks:List Str):List (Nat × List Str)→Bool
 | []=>false
 | p::r=>match Nat.beq n p.1&&sEqL ks p.2 with
  | true=>true
  | false=>shapeIn n ks r
structure FnA where
 ps:List (Str × Option AV)
 sc:Scope
 body:List Stmt
 shapes:List (Nat × List Str)
noncomputable def slotNs:List (Str × NameKind)→List (Str × NameKind)
 | []=>[]
 | p::r=>match p with
  | (n,k)=>match k with
   | .local=>(n,.local)::slotNs r
   | .cell=>(n,.cell)::slotNs r
   | _=>slotNs r
noncomputable def slots0 (ps:List Str) (vals:List AV):List (Str × NameKind)→AEnv
 | []=>[]
 | p::r=>(match lookS p.1 (ps.zip vals) with
  | some v=>some (.pure v)
  | none=>none)::slots0 ps vals r
structure GlobT where
 glob:Str→Option AV
 attr:Addr→Str→Option AV
 isO:Kd→Addr→Option Bool
 isX:Addr→Addr→Option Bool
 dec:List UInt8→Option Str
 isGn:Addr→Bool
 gen:(Addr→List AV→List (Str × AV)→Option (Except AX AV))→Addr→List AV→Option (List AV)
 fuel:Nat
noncomputable def ctxF (T:GlobT) (f:FnA) (call:Addr→List AV→List (Str × AV)→Option (Except AX AV)) (gen:Addr→List AV→Option (List AV)):Ctx :=
 ⟨f.sc,(slotNs f.sc.names).map fun p=>some p.1,[],T.glob,T.attr,call,T.isO,T.isX,T.dec,T.isGn,gen,T.fuel⟩
noncomputable def endK:FL→AEnv→Option (Except AX AV):=fun fl J=>match fl with
 | .ret v=>some (.ok v)
 | .next=>some (.ok .none)
 | _=>none
noncomputable abbrev CallT:=Addr→List AV→List (Str × AV)→Option (Except AX AV)
noncomputable def runG (T:GlobT) (p:CallT × (Addr→List AV→Option (List AV))) (f:FnA) (vals:List AV):Option (Except AX AV) :=
 exs 60 (ctxF T f p.1 p.2) f.body endK (fun a J=>some (.error a)) (slots0 (f.ps.map (fun x=>x.1)) vals (slotNs f.sc.names))
noncomputable def callP (T:GlobT) (tb:Addr→Option FnA):Nat→CallT × (Addr→List AV→Option (List AV))
 | 0=>(fun J J J=>none,fun J J=>none)
 | d+1=>(fun a vs kw=>match tb a with
  | none=>none
  | some f=>match shapeIn vs.length (kw.map (fun x=>x.1)) f.shapes with
   | false=>none
   | true=>match bindG f.ps vs kw with
    | none=>none
    | some vals=>runG T (callP T tb d) f vals,T.gen (callP T tb d).1)
noncomputable def callN (T:GlobT) (tb:Addr→Option FnA) (d:Nat):CallT:=(callP T tb d).1
noncomputable def genD (T:GlobT) (tb:Addr→Option FnA) (d:Nat):Addr→List AV→Option (List AV):=(callP T tb d).2
noncomputable def runF (T:GlobT) (tb:Addr→Option FnA) (d:Nat) (f:FnA) (vals:List AV):Option (Except AX AV):=runG T (callP T tb d) f vals
theorem callN_succ (T:GlobT)(tb:Addr→Option FnA)(d:Nat)(a:Addr)(vs:List AV)(kw:List (Str × AV)):callN T tb (d+1) a vs kw=ob (tb a) fun f=>gd (shapeIn vs.length (kw.map (fun x=>x.1)) f.shapes) <| ob (bindG f.ps vs kw) fun vals=>runF T tb d f vals:=by kernel_rfl
noncomputable def fnChk (f:FnA):Bool:=isFn f.sc.kind&&!f.sc.isCoroutine&&!f.sc.isGenerator&&nodupS ((slotNs f.sc.names).map (fun x=>x.1))&&nodupS (f.ps.map (fun x=>x.1)) &&
 (slotNs f.sc.names).all (fun p=>(match lookS p.1 f.sc.names with|some k=>decide (k=p.2)|none=>false)&&!sEqB p.1 (PySem.Str.ofString "__debug__")) &&
 f.ps.all (fun p=>match lookS p.1 (slotNs f.sc.names) with|some _=>true|none=>false) &&
 f.sc.names.all (fun p=>match p.2 with|.free=>false|_=>true)
noncomputable def DRel (K:PW) (base:Heap):Option Value→Option AV→Prop
 | some v,some av=>VRel K base (fun J=>False) v av
 | none,none=>True
 | _,_=>False
noncomputable def DflL (K:PW) (base:Heap):List (Str × Option Value)→List (Str × Option AV)→Prop
 | [],[]=>True
 | x::xs,y::ys=>x.1=y.1∧DRel K base x.2 y.2∧DflL K base xs ys
 | _,_=>False
structure FnOK (K:PW) (base:Heap) (a:Addr) (f:FnA):Prop where
 chk:fnChk f=true
 ex:∃o fd pv,base.get? a=some o∧o.data=.func fd∧fd.body=.stmts f.body∧fd.scope=f.sc∧fd.closure=[]∧fd.globals=mainGlobals∧fd.builtins=builtinsNs∧base.CodeRec fd.code fd.qualname ∧
  (∀us ku,shapeIn us.length (ku.map (fun x=>x.1)) f.shapes=true→∃vals,bindG pv us ku=some vals∧∀s:Shared,(∀a o,base.get? a=some o→s.heap.get? a=some o)→BindsTo s fd ⟨us,ku⟩ ((pv.map (fun x=>x.1)).zip vals)) ∧
  DflL K base pv f.ps
theorem look_none {α:Type}{x:Str}:∀{l:List (Str × α)},x∉l.map (fun x=>x.1)→l.lookup x=none
 | [],_=>rfl
 | (n,v)::r,h=>by
  rw[List.map_cons,List.mem_cons,not_or] at h
  rw[List.lookup_cons,show (x == n)=false from beq_eq_false_iff_ne.mpr h.1]
  exact look_none h.2
section
variable {bb:Bool}{K:PW}{F:Fx}{A:Around}{C:Ctx}{E:Env}{d:Nat}{R:Type}{σ:St}{env:AEnv}
theorem bindL_at {kindOf:Str→Option NameKind}{x:Str}(hx:kindOf x=some .local):∀(binds:List (Str × Value)) (m:Str→Option Value),(binds.map (fun x=>x.1)).Nodup→bindL kindOf binds m x=(match binds.lookup x with|some v=>some v|none=>m x)
 | [],m,_=>rfl
 | (n,v)::r,m,h=>by
  rw[List.map_cons,List.nodup_cons] at h
  unfold bindL
  rw[bindL_at hx r _ h.2,List.lookup_cons]
  by_cases hn:x=n
  ·subst hn
   rw[look_none h.1,if_pos hx]; simp
  ·rw[show (x == n)=false from beq_eq_false_iff_ne.mpr hn]
   cases List.lookup x r with
   | some u=>rfl
   | none =>
    dsimp only
    split
    ·first|rfl|exact if_neg hn
    ·first|rfl|exact if_neg hn
theorem bindC_at {kindOf:Str→Option NameKind}{x:Str}(hx:kindOf x≠some .local):∀(binds:List (Str × Value)) (m:Str→Option Value),(binds.map (fun x=>x.1)).Nodup→bindC kindOf binds m x=(match binds.lookup x with|some v=>some v|none=>m x)
 | [],m,_=>rfl
 | (n,v)::r,m,h=>by
  rw[List.map_cons,List.nodup_cons] at h
  unfold bindC
  rw[bindC_at hx r _ h.2,List.lookup_cons]
  by_cases hn:x=n
  ·subst hn
   rw[look_none h.1,if_neg hx]; simp
  ·rw[show (x == n)=false from beq_eq_false_iff_ne.mpr hn]
   cases List.lookup x r with
   | some u=>rfl
   | none =>
    dsimp only
    split
    ·first|rfl|exact if_neg hn
    ·first|rfl|exact if_neg hn
set_option tactic.hygienic true in
theorem cells_some {x:Str}:∀(names:List (Str × NameKind)) (n:Nat) (acc:List (Str × Addr)),((x,NameKind.cell)∈names∨(acc.lookup x).isSome=true)→((cellsFrom n names acc).lookup x).isSome=true
 | [],n,acc,h=>by rcases h with h|h; cases h; exact h
 | (m,k)::r,n,acc,h=>by
  unfold cellsFrom
  split
  ·refine cells_some r _ _ ?_
   by_cases hm:x=m
   ·subst hm; right; simp
   ·rcases h with h|h
    ·left
     rcases List.mem_cons.mp h with e|h
     ·(injection e with e; subst e); exact absurd rfl hm
     ·exact h
    ·right
     rw[List.lookup_cons,show (x == m)=false from beq_eq_false_iff_ne.mpr hm]
     exact h
  ·rename_i hk
   refine cells_some r _ _ ?_
   rcases h with h|h
   ·left
    rcases List.mem_cons.mp h with e|h
    ·exfalso; cases e; exact hk rfl
    ·exact h
   ·exact .inr h
theorem slotNs_kind {x:Str}{k:NameKind}:∀{l:List (Str × NameKind)},(x,k)∈slotNs l→(x,k)∈l∧(k=.local∨k=.cell)
 | [],h=>nomatch h
 | (n,k')::r,h=>by
  cases k' with
  | «local» =>
   rcases List.mem_cons.mp h with e|h
   ·cases e; exact ⟨.head _,.inl rfl⟩
   ·exact ⟨.tail _ (slotNs_kind h).1,(slotNs_kind h).2⟩
  | cell =>
   rcases List.mem_cons.mp h with e|h
   ·cases e; exact ⟨.head _,.inr rfl⟩
   ·exact ⟨.tail _ (slotNs_kind h).1,(slotNs_kind h).2⟩
  | _=>exact ⟨.tail _ (slotNs_kind (l:=r) h).1,(slotNs_kind (l:=r) h).2⟩
noncomputable def placeOf (L:Addr) (cells:List (Str × Addr)) (p:Str × NameKind):Place:=match p.2 with
 | .cell=>.cell ((cells.lookup p.1).getD 0)
 | _=>.ns L p.1
theorem slots0_len {ps:List Str}{vals:List AV}:∀{l:List (Str × NameKind)},(slots0 ps vals l).length=l.length
 | []=>rfl
 | p::r=>by show (slots0 ps vals r).length+1=r.length+1; rw[slots0_len]
theorem slots0_at {ps:List Str}{vals:List AV}:∀{l:List (Str × NameKind)} {i:Nat} {p:Str × NameKind},l[i]?=some p→slotAt (slots0 ps vals l) i=(match lookS p.1 (ps.zip vals) with|some v=>some (.pure v)|none=>none)
 | [],i,p,h=>by simp at h
 | q::r,0,p,h=>by simp at h; subst h; rfl
 | q::r,i+1,p,h=>slots0_at (l:=r) (by simpa using h)
theorem zip_lookup {h:Heap}{A':Addr→Prop}{x:Str}:∀{ns:List Str} {us:List Value} {vs:List AV},RelL K h A' us vs→(∃u v,(ns.zip us).lookup x=some u∧lookS x (ns.zip vs)=some v∧VRel K h A' u v)∨((ns.zip us).lookup x=none∧lookS x (ns.zip vs)=none)
 | [],us,vs,r=>by cases us <;> cases vs <;> exact .inr ⟨rfl,rfl⟩
 | n::ns,us,[],r=>by subst r; exact .inr ⟨rfl,rfl⟩
 | n::ns,us,v::vs,⟨u,r,e,h1,h2⟩=>by
  subst e
  rw[List.zip_cons_cons,List.zip_cons_cons,List.lookup_cons]
  unfold lookS
  rw[sEqB_eq]
  by_cases hx:x=n
  ·subst hx
   exact .inl ⟨u,v,by simp,by simp,h1⟩
  ·rw[show (x == n)=false from beq_eq_false_iff_ne.mpr hx,decide_eq_false hx]
   exact zip_lookup h2
theorem bindG_cons {α:Type}{p:Str × Option α}{ps:List (Str × Option α)}{v:α}{vs:List α}{kw:List (Str × α)}{r:List α}(h:bindG (p::ps) (v::vs) kw=some r):∃r',bindG ps vs kw=some r'∧r=v::r':=by
 obtain ⟨r',e,h⟩:=obE h
 exact ⟨r',e,(sI h).symm⟩
theorem bindG_nil {α:Type}{p:Str × Option α}{ps:List (Str × Option α)}{kw:List (Str × α)}{r:List α}(h:bindG (p::ps) [] kw=some r):∃v r',bindG ps [] kw=some r'∧r=v::r'∧((lookS p.1 kw=some v)∨(lookS p.1 kw=none∧p.2=some v)):=by
 have h:(match lookS p.1 kw with
  | some v=>ob (bindG ps [] kw) fun r=>some (v::r)
  | none=>ob p.2 fun d=>ob (bindG ps [] kw) fun r=>some (d::r))=some r:=h
 cases hv:lookS p.1 kw with
 | some v =>
  rw[hv] at h
  obtain ⟨r',e,h⟩:=obE h
  exact ⟨v,r',e,(sI h).symm,.inl rfl⟩
 | none =>
  rw[hv] at h
  obtain ⟨v,hp,h⟩:=obE h
  obtain ⟨r',e,h⟩:=obE h
  exact ⟨v,r',e,(sI h).symm,.inr ⟨rfl,hp⟩⟩
theorem bindG_rel {h:Heap}{A':Addr→Prop}{base:Heap}(hb:∀{v:Value} {x:AV},VRel K base (fun J=>False) v x→VRel K h A' v x){ku:List (Str × Value)}{kw:List (Str × AV)}(hk:RelK K h A' ku kw) :
  ∀{pv:List (Str × Option Value)} {ps:List (Str × Option AV)} {us:List Value} {vs:List AV} {vals:List Value} {avs:List AV},
  DflL K base pv ps→RelL K h A' us vs→bindG pv us ku=some vals→bindG ps vs kw=some avs→RelL K h A' vals avs
 | [],[],us,vs,vals,avs,_,r,e1,e2=>by
  cases vs with
  | nil=>subst r; obtain rfl:=sI e1; obtain rfl:=sI e2; rfl
  | cons=>exact nS e2
 | [],_::_,_,_,_,_,h,_,_,_=>by cases h
 | _::_,[],_,_,_,_,h,_,_,_=>by cases h
 | p::pv,q::ps,us,vs,vals,avs,⟨hn1,hd,hf⟩,r,e1,e2=>by
   cases vs with
   | cons v vs =>
    obtain ⟨u,us',rfl,h1,h2⟩:=r
    obtain ⟨r1,b1,rfl⟩:=bindG_cons e1
    obtain ⟨r2,b2,rfl⟩:=bindG_cons e2
    exact ⟨u,r1,rfl,h1,bindG_rel hb hk hf h2 b1 b2⟩
   | nil =>
    subst r
    have hz:=zip_lookup (K:=K) (h:=h) (A':=A') (x:=p.1) (ns:=kw.map (fun x=>x.1)) hk.2
    have z1:(kw.map (fun x=>x.1)).zip (ku.map (fun x=>x.2))=ku:=by rw[←hk.1]; exact List.zip_unzip' ku
    have z2:(kw.map (fun x=>x.1)).zip (kw.map (fun x=>x.2))=kw:=List.zip_unzip' kw
    rw[z1,z2] at hz
    obtain ⟨u,r1,b1,rfl,c1⟩:=bindG_nil e1
    obtain ⟨v,r2,b2,rfl,c2⟩:=bindG_nil e2
    rw[lookS_eq] at c1
    rw[←hn1] at c2
    have fin:VRel K h A' u v→RelL K h A' (u::r1) (v::r2):=fun hv=>⟨u,r1,rfl,hv,bindG_rel hb hk hf (us:=[]) (vs:=[]) rfl b1 b2⟩
    rcases hz with ⟨u',v',l1,l2,hv⟩|⟨l1,l2⟩
    ·rw[l1] at c1; rw[l2] at c2
     rcases c1 with c1|⟨c1,_⟩
     ·obtain rfl:=sI c1
      rcases c2 with c2|⟨c2,_⟩
      ·obtain rfl:=sI c2; exact fin hv
      ·exact nS' c2
     ·exact nS' c1
    ·rw[l1] at c1; rw[l2] at c2
     rcases c1 with c1|⟨_,c1⟩
     ·exact nS c1
     ·rcases c2 with c2|⟨_,c2⟩
      ·exact nS c2
      ·rw[c1,c2] at hd
       exact fin (hb hd)
where
 List.zip_unzip' {α β:Type}:∀(l:List (α × β)),(l.map (fun x=>x.1)).zip (l.map (fun x=>x.2))=l
  | []=>rfl
  | (a,b)::r=>by simp[List.zip_unzip' r]
end
noncomputable def calleeG (U FR:Addr→Prop) (hF:∀a,FR a→U a) (base:Heap) (L:Addr) (cs:List (Str × Addr)) (names:List (Str × NameKind)):Fx :=
 ⟨(slotNs names).map (placeOf L cs),L,U,FR,hF,[],base⟩
noncomputable def calleeF (F:Fx) (σ:St) (L:Addr) (cs:List (Str × Addr)) (names:List (Str × NameKind)):Fx :=
 calleeG (Av F σ) (fun a=>F.fr a∨a=F.me) (fun a h=>h.elim (fun h=>.inr (F.fru a h)) fun h=>.inl (.inl (.inl h))) F.base L cs names
section
variable {bb:Bool}{K:PW}{F:Fx}{A:Around}{C:Ctx}{E:Env}{d:Nat}{R:Type}{σ:St}{env:AEnv}
theorem dfl_names {base:Heap}:∀{pv:List (Str × Option Value)} {ps:List (Str × Option AV)},DflL K base pv ps→pv.map (fun x=>x.1)=ps.map (fun x=>x.1)
 | [],[],_=>rfl
 | [],_::_,h=>h.elim
 | _::_,[],h=>h.elim
 | x::pv,y::ps,⟨h1,_,h2⟩=>by rw[List.map_cons,List.map_cons,h1,dfl_names h2]
theorem bindG_len {α:Type}:∀{ps:List (Str × Option α)} {vs:List α} {kw:List (Str × α)} {r:List α},bindG ps vs kw=some r→r.length=ps.length
 | [],vs,kw,r,h=>by
  cases vs with
  | nil=>obtain rfl:=sI h; rfl
  | cons=>exact nS h
 | p::ps,vs,kw,r,h=>by
  cases vs with
  | cons v vs=>obtain ⟨r',e,rfl⟩:=bindG_cons h; rw[List.length_cons,List.length_cons,bindG_len e]
  | nil=>obtain ⟨v,r',e,rfl,_⟩:=bindG_nil h; rw[List.length_cons,List.length_cons,bindG_len e]
theorem callee_pl {U FR:Addr→Prop}{hF:∀a,FR a→U a}{base:Heap}{L:Addr}{cs:List (Str × Addr)}{names:List (Str × NameKind)}{a:Addr}(hcs:∀p∈slotNs names,p.2=.cell→∃c,cs.lookup p.1=some c)(h:Pl (calleeG U FR hF base L cs names) a):a=L∨∃n,cs.lookup n=some a:=by
 rcases h with h|⟨p,hp,e⟩
 ·exact .inl h
 ·obtain ⟨q,hq,rfl⟩:=List.mem_map.mp hp
  obtain ⟨n,k⟩:=q
  have hk:=(slotNs_kind hq).2
  rcases hk with rfl|rfl
  ·exact .inl e.symm
  ·obtain ⟨c,hc⟩:=hcs _ hq rfl
   refine .inr ⟨n,?_⟩
   have:(placeOf L cs (n,.cell)).addr=c:=by show ((cs.lookup n).getD 0)=c; rw[hc]; rfl
   rw[this] at e
   exact e▸hc
structure FnC (f:FnA):Prop where
 fn:f.sc.kind=.function
 co:f.sc.isCoroutine=false
 n1:((slotNs f.sc.names).map (fun x=>x.1)).Nodup
 n2:(f.ps.map (fun x=>x.1)).Nodup
 kd:∀p∈slotNs f.sc.names,f.sc.names.lookup p.1=some p.2
 db:∀p∈slotNs f.sc.names,(p.1 == ("__debug__":Str))=false
 pp:∀n∈f.ps.map (fun x=>x.1),∀L,f.sc.names.lookup n=some .local∨(f.sc.names.lookup n=some .cell∧((cellsFrom L f.sc.names []).lookup n).isSome=true)
theorem fnC {f:FnA}(h:fnChk f=true):f.sc.isGenerator=false∧FnC f:=by
 unfold fnChk at h
 simp only[Bool.and_eq_true,Bool.not_eq_true'] at h
 obtain ⟨⟨⟨⟨⟨⟨⟨hk0,hk1⟩,hk2⟩,hn1⟩,hn2⟩,hkk⟩,hpp⟩,_⟩:=h
 have kd:∀p∈slotNs f.sc.names,f.sc.names.lookup p.1=some p.2:=fun p hp=>by
  have:=List.all_eq_true.mp hkk p hp
  rw[Bool.and_eq_true] at this
  have:=this.1
  rw[←lookS_eq]
  cases e:lookS p.1 f.sc.names with
  | none=>rw[e] at this; exact nT' this
  | some k=>rw[e] at this; rw[of_decide_eq_true this]
 refine ⟨hk2,isFn_ok hk0,hk1,nodupS_ok hn1,nodupS_ok hn2,kd,fun p hp=>?_,fun n hn L=>?_⟩
 ·have:=List.all_eq_true.mp hkk p hp
  rw[Bool.and_eq_true] at this
  exact beq_eq_false_iff_ne.mpr (sEqB_false (by simpa using this.2))
 ·obtain ⟨p,hp,rfl⟩:=List.mem_map.mp hn
  have:=List.all_eq_true.mp hpp p hp
  cases e:lookS p.1 (slotNs f.sc.names) with
  | none=>rw[e] at this; exact nT' this
  | some k =>
   have hm:=lookS_mem e
   have hl:=kd _ hm
   rcases (slotNs_kind hm).2 with rfl|rfl
   ·exact .inl hl
   ·exact .inr ⟨hl,cells_some _ _ _ (.inl (slotNs_kind hm).1)⟩
theorem cellsC (names:List (Str × NameKind))(L:Addr):∀p∈slotNs names,p.2=.cell→∃c,(cellsFrom L names []).lookup p.1=some c:=fun p hp e=>by
 obtain ⟨n,k⟩:=p
 dsimp only at e
 subst e
 exact Option.isSome_iff_exists.mp (cells_some _ _ _ (.inl (slotNs_kind hp).1))
theorem fok_callee {U FR:Addr→Prop}{hF:∀a,FR a→U a}{base:Heap}{f:FnA}(hc:FnC f)
  {T:GlobT} {call:CallT} {gen:Addr→List AV→Option (List AV)} {L:Addr} {cs:List (Str × Addr)} (hcs:∀p∈slotNs f.sc.names,p.2=.cell→∃c,cs.lookup p.1=some c) {E:Env}
  (e1:E.scope=f.sc) (e2:E.globals=mainGlobals) (e3:E.builtins=builtinsNs) (e4:E.locals=L) (e5:E.cells=cs):FOK (calleeG U FR hF base L cs f.sc.names) (ctxF T f call gen) E:=by
 have hknd:∀x,E.kindOf x=f.sc.names.lookup x:=fun x=>by unfold Env.kindOf; rw[e1]
 refine ⟨by rw[e1]; exact hc.fn,e2,e3,e1.symm,by show ((slotNs f.sc.names).map _).length=((slotNs f.sc.names).map _).length; rw[List.length_map,List.length_map],rfl,fun x j hx=>?_⟩
 unfold slotIx at hx
 cases hs:isSlot (ctxF T f call gen) x with
 | false=>rw[hs] at hx; exact nS hx
 | true =>
  rw[hs] at hx
  have hx:((slotNs f.sc.names).map fun p=>some p.1)[j]?=some (some x):=idx_some hx
  rw[List.getElem?_map] at hx
  cases hq:(slotNs f.sc.names)[j]? with
  | none=>rw[hq] at hx; exact nS hx
  | some q =>
   rw[hq] at hx
   obtain ⟨n,k⟩:=q
   obtain rfl:n=x:=sI (sI hx)
   have hqm:=List.mem_of_getElem? hq
   have hl:=hc.kd _ hqm
   refine ⟨placeOf L cs (n,k),by show ((slotNs f.sc.names).map _)[j]?=_; rw[List.getElem?_map,hq]; rfl,?_,hc.db _ hqm⟩
   rcases (slotNs_kind hqm).2 with rfl|rfl
   ·exact .inl ⟨(hknd n).trans hl,by rw[e4]; rfl⟩
   ·obtain ⟨c,hc⟩:=hcs _ hqm rfl
    refine .inr ⟨.inl ((hknd n).trans hl),c,by rw[e5]; exact hc,?_⟩
    show Place.cell ((cs.lookup n).getD 0)=_
    dsimp only at hc
    rw[hc]; rfl
theorem enterG {U FR:Addr→Prop}{hF:∀a,FR a→U a}{s:Shared}{base:Heap}(old:∀a o,base.get? a=some o→s.heap.get? a=some o)(gb:AllBare s.gens)(dom:∀a,U a→∃o,s.heap.get? a=some o)(new:∀a,U a→base.get? a=none){f:FnA}(hf:FnC f){s₁:Shared}{cs:List (Str × Addr)}{us:List Value}{vals:List AV}{kindOf:Str→Option NameKind}(hkind:∀x,kindOf x=f.sc.names.lookup x)
  (hcs:∀p∈slotNs f.sc.names,p.2=.cell→∃c,cs.lookup p.1=some c)
  (x:InCallC s s.heap.objs.size (bindL kindOf ((f.ps.map (fun x=>x.1)).zip us) fun J=>none) cs (bindC kindOf ((f.ps.map (fun x=>x.1)).zip us) fun J=>none) s₁)
  (hlen:us.length=f.ps.length) (rl:RelL K s.heap U us vals) :
  Inv K (calleeG U FR hF base s.heap.objs.size cs f.sc.names) ⟨s₁,[]⟩ (slots0 (f.ps.map (fun x=>x.1)) vals (slotNs f.sc.names)):=by
 have hn1:=hf.n1
 have hn2:=hf.n2
 have hkd:=hf.kd
 have hzn:(((f.ps.map (fun x=>x.1)).zip us).map (fun x=>x.1)).Nodup:=by
  rw[List.map_fst_zip (by rw[List.length_map,hlen]; exact Nat.le_refl _)]; exact hn2
 obtain ⟨h₁,tk,rfl⟩:=x.toInCall.same
 have keep:=x.toInCall.keep
 have freshL:s.heap.get? s.heap.objs.size=none:=get_size _
 have freshC:∀n c,cs.lookup n=some c→s.heap.get? c=none:=fun n c h=>Heap.get?_none_of_le (Nat.le_of_lt (x.above n c (mem_of_lookup h)))
 have plf:∀a,Pl (calleeG U FR hF base s.heap.objs.size cs f.sc.names) a→s.heap.get? a=none:=fun a h=>by
  rcases callee_pl hcs h with rfl|⟨n,h⟩
  ·exact freshL
  ·exact freshC n a h
 have av:∀a,Av (calleeG U FR hF base s.heap.objs.size cs f.sc.names) ⟨{ s with heap:=h₁,toks:=tk },[]⟩ a→Pl (calleeG U FR hF base s.heap.objs.size cs f.sc.names) a∨U a:=fun a q=>q.elim (fun q=>q.elim .inl fun q=>nomatch q) .inr
 have st:Hst s.heap U h₁ (Av (calleeG U FR hF base s.heap.objs.size cs f.sc.names) ⟨{ s with heap:=h₁,toks:=tk },[]⟩):=⟨fun a o e J=>keep a o e,fun a q=>(av a q).elim (fun q=>.inr (plf a q)) .inl⟩
 have exC:∀n c,cs.lookup n=some c→∃o,h₁.get? c=some o:=fun n c h=>by
  obtain ⟨o,ho,_⟩:=x.cell n c h
  exact ⟨o,ho⟩
 have exP:∀a,Pl (calleeG U FR hF base s.heap.objs.size cs f.sc.names) a→∃o,h₁.get? a=some o:=fun a h=>by
  rcases callee_pl hcs h with rfl|⟨n,h⟩
  ·obtain ⟨o,_,_,ho,_⟩:=x.toInCall.ns; exact ⟨o,ho⟩
  ·exact exC n a h
 refine ⟨by rw[slots0_len]; exact (List.length_map _).symm,fun j p hp=>?_,?_,List.nodup_nil,List.nodup_nil,nofun,fun a q=>?_,fun a q=>?_,fun a q=>?_,fun a o e=>keep a o (old a o e),gb⟩
 ·have hp:((slotNs f.sc.names).map (placeOf s.heap.objs.size cs))[j]?=some p:=hp
  rw[List.getElem?_map] at hp
  cases hq:(slotNs f.sc.names)[j]? with
  | none=>rw[hq] at hp; exact nS hp
  | some q =>
   rw[hq] at hp
   obtain rfl:=sI hp
   rw[slots0_at hq]
   have hqm:=List.mem_of_getElem? hq
   have hl:=hkd q hqm
   have fin:∀w:Option Value,w=((f.ps.map (fun x=>x.1)).zip us).lookup q.1→SlotRel K (calleeG U FR hF base s.heap.objs.size cs f.sc.names) ⟨{ s with heap:=h₁,toks:=tk },[]⟩ j w (match lookS q.1 ((f.ps.map (fun x=>x.1)).zip vals) with|some v=>some (.pure v)|none=>none):=fun w hw=>by
    rcases zip_lookup (K:=K) (x:=q.1) (ns:=f.ps.map (fun x=>x.1)) rl with ⟨u,v,l1,l2,hv⟩|⟨l1,l2⟩
    ·rw[l2,hw,l1]; exact ⟨u,rfl,hv.kp st⟩
    ·rw[l2,hw,l1]; rfl
   obtain ⟨n,k⟩:=q
   rcases (slotNs_kind hqm).2 with rfl|rfl
   ·refine ⟨bindL kindOf ((f.ps.map (fun x=>x.1)).zip us) (fun J=>none) n,⟨_,x.toInCall.ns,rfl⟩,fin _ ?_⟩
    rw[bindL_at (by rw[hkind]; exact hl) _ _ hzn]
    cases ((f.ps.map (fun x=>x.1)).zip us).lookup n <;> rfl
   ·obtain ⟨c,hc⟩:=hcs _ hqm rfl
    refine ⟨bindC kindOf ((f.ps.map (fun x=>x.1)).zip us) (fun J=>none) n,?_,fin _ ?_⟩
    ·show h₁.IsCell ((cs.lookup n).getD 0) _
     rw[hc]
     exact x.cell n c hc
    ·rw[bindC_at (by rw[hkind,hl]; exact nofun) _ _ hzn]
     cases ((f.ps.map (fun x=>x.1)).zip us).lookup n <;> rfl
 ·show ((slotNs f.sc.names).map (placeOf s.heap.objs.size cs)).Nodup
  have key:∀l:List (Str × NameKind),(∀q∈l,q∈slotNs f.sc.names)→(l.map (fun x=>x.1)).Nodup→(l.map (placeOf s.heap.objs.size cs)).Nodup:=by
   intro l
   induction l with
   | nil=>exact fun J J=>List.nodup_nil
   | cons q r ih =>
    intro hm hn
    rw[List.map_cons,List.nodup_cons] at hn ⊢
    refine ⟨fun hin=>?_,ih (fun q hq=>hm q (.tail _ hq)) hn.2⟩
    obtain ⟨q',hq',e⟩:=List.mem_map.mp hin
    have hne:q'.1≠q.1:=fun e=>hn.1 (e▸List.mem_map_of_mem hq')
    have m1:=hm q (.head _)
    have m2:=hm q' (.tail _ hq')
    obtain ⟨a,ka⟩:=q
    obtain ⟨b,kb⟩:=q'
    rcases (slotNs_kind m1).2 with rfl|rfl <;> rcases (slotNs_kind m2).2 with rfl|rfl
    ·have e:Place.ns s.heap.objs.size b=Place.ns s.heap.objs.size a:=e
     injection e with _ e
     exact hne e
    ·exact nomatch (show Place.cell _=Place.ns _ _ from e)
    ·exact nomatch (show Place.ns _ _=Place.cell _ from e)
    ·obtain ⟨c1,h1⟩:=hcs _ m1 rfl
     obtain ⟨c2,h2⟩:=hcs _ m2 rfl
     have e:Place.cell ((cs.lookup b).getD 0)=Place.cell ((cs.lookup a).getD 0):=e
     dsimp only at h1 h2
     rw[h1,h2] at e
     injection e with e
     have e:c2=c1:=e
     subst e
     exact hne (name_of_addr x.apart (mem_of_lookup h2) (mem_of_lookup h1))
  exact key _ (fun J h=>h) hn1
 ·rcases q with q|q
  ·intro h
   obtain ⟨o,e⟩:=dom a h
   rw[plf a q] at e; exact nS e
  ·exact nomatch q
 ·rcases av a q with q|q
  ·exact exP a q
  ·obtain ⟨o,e⟩:=dom a q; exact ⟨o,keep a o e⟩
 ·rcases av a q with q|q
  ·cases e:base.get? a with
   | none=>exact e
   | some o=>have:=old a o e; rw[plf a q] at this; exact nS this
  ·exact new a q
theorem Inv.enter (i:Inv K F σ env){f:FnA}(hf:FnC f){s₁:Shared}{cs:List (Str × Addr)}{us:List Value}{vals:List AV}{kindOf:Str→Option NameKind}(hkind:∀x,kindOf x=f.sc.names.lookup x)
  (hcs:∀p∈slotNs f.sc.names,p.2=.cell→∃c,cs.lookup p.1=some c)
  (x:InCallC σ.s σ.s.heap.objs.size (bindL kindOf ((f.ps.map (fun x=>x.1)).zip us) fun J=>none) cs (bindC kindOf ((f.ps.map (fun x=>x.1)).zip us) fun J=>none) s₁)
  (hlen:us.length=f.ps.length) (rl:RelL K σ.s.heap (Av F σ) us vals) :
  Inv K (calleeF F σ σ.s.heap.objs.size cs f.sc.names) ⟨s₁,[]⟩ (slots0 (f.ps.map (fun x=>x.1)) vals (slotNs f.sc.names)) :=
 enterG (fun a o e=>i.old a o e) i.gens i.dom i.new hf hkind hcs x hlen rl
theorem Inv.back (i:Inv K F σ env){L:Addr}{cs:List (Str × Addr)}{names:List (Str × NameKind)}{s₁:Shared}{σ':St}(hk:∀a o,σ.s.heap.get? a=some o→s₁.heap.get? a=some o)(hos:s₁.os=σ.s.os)(hgn:s₁.gens=σ.s.gens)
  (hpl:∀a,Pl (calleeF F σ L cs names) a→σ.s.heap.get? a=none) (ex:Ext false (calleeF F σ L cs names) ⟨s₁,[]⟩ σ') (hg:AllBare σ'.s.gens) :
  Inv K F ⟨σ'.s,σ.ob⟩ env∧Ext bb F σ ⟨σ'.s,σ.ob⟩:=by
 have notOwn:∀a o,σ.s.heap.get? a=some o→¬Own (calleeF F σ L cs names) ⟨s₁,[]⟩ a:=fun a o e q=>by
  rcases q with q|q
  ·rw[hpl a q] at e; exact nS e
  ·exact nomatch q
 have kp:∀a o,σ.s.heap.get? a=some o→¬F.fr a→a≠F.me→σ'.s.heap.get? a=some o:=fun a o e n1 n2=>ex.keep a o (hk a o e) (notOwn a o e) fun h=>h.elim n1 n2
 have st:Hst σ.s.heap (Av F σ) σ'.s.heap (Av F ⟨σ'.s,σ.ob⟩):=⟨fun a o e na=>kp a o e (fun h=>na (.inr (F.fru a h))) fun h=>na (.inl (.inl (.inl h))),fun a q=>.inl q⟩
 have exx:Ext bb F σ ⟨σ'.s,σ.ob⟩:=⟨fun a o e na nf=>kp a o e nf fun h=>na (.inl (.inl h)),fun a o e f=>ex.kfr a o (hk a o e) (.inl f),fun x hx=>.inl (.inr (List.mem_map_of_mem hx)),fun J J h=>h,fun J h J=>h,ex.os.trans hos,
  fun a o e=>ex.alive a o (hk a o e),fun g st e=>ex.gk g st (hgn▸e)⟩
 refine ⟨⟨i.len,fun j p hp=>?_,i.pln,i.obn,i.obu,i.obp,i.upd,fun a q=>?_,i.new,fun a o e=>?_,hg⟩,exx⟩
 ·obtain ⟨v,hv,r⟩:=i.slots j p hp
  refine ⟨v,hv.slots fun o e=>ex.there (hk _ o e) (notOwn _ o e),r.kp st fun a m=>⟨m,fun o e=>kp a o e (fun h=>?_) fun h=>?_⟩⟩
  ·exact i.upd a (.inr (List.mem_map_of_mem m)) (F.fru a h)
  ·exact i.obp _ m (.inl h)
 ·obtain ⟨o,e⟩:=i.dom a q
  exact ex.alive a o (hk a o e)
 ·have e':=i.old a o e
  refine kp a o e' (fun h=>?_) fun h=>?_
  ·rw[i.new a (.inr (F.fru a h))] at e; exact nS e
  ·rw[i.new a (.inl (.inl (.inl h)))] at e; exact nS e
structure WOK (K:PW) (base:Heap) (T:GlobT) (tb:Addr→Option FnA):Prop where
 gok:GOK K base (ctxF T ⟨[],default,[],[]⟩ (fun J J J=>none) fun J J=>none)
 isa:IsaOK K base (ctxF T ⟨[],default,[],[]⟩ (fun J J J=>none) fun J J=>none)
 dec:DecOK (ctxF T ⟨[],default,[],[]⟩ (fun J J J=>none) fun J J=>none)
 attr:AttrOK K base (ctxF T ⟨[],default,[],[]⟩ (fun J J J=>none) fun J J=>none)
 fns:∀a f,tb a=some f→FnOK K base a f
 gens:∀d (A:Around) (C:Ctx),Room A (d+1)→C.isGn=T.isGn→C.gen=T.gen (callN T tb d)→(∀(A':Around) (C':Ctx),Room A' d→C'.call=callN T tb d→CallOK K base A' C')→GenOK K base A C
 gisf:∀a,T.isGn a=true→∃o fd,base.get? a=some o∧o.data=.func fd
 lim:base.NoLimit
 big:∃a o,base.get? a=some o∧sysModules≤a
theorem genOK_of {base:Heap}{T:GlobT}{tb:Addr→Option FnA}(w:WOK K base T tb)(d:Nat)(ih:∀d' (A:Around) (C:Ctx),d'<d→Room A d'→C.call=callN T tb d'→CallOK K base A C){A:Around}{C:Ctx}(r:Room A d)(h1:C.isGn=T.isGn)
  (h2:C.gen=genD T tb d):GenOK K base A C:=by
 cases d with
 | zero=>exact ⟨fun a h=>w.gisf a (h1▸h),fun R F σ env a vs us xs target k res Q X hb i e=>by rw[h2] at e; exact nS e⟩
 | succ d=>exact w.gens d A C r h1 h2 fun A' C' r' hc'=>ih d A' C' (Nat.lt_succ_self d) r' hc'
inductive Ran (K:PW) (U FR:Addr→Prop) (hF:∀a,FR a→U a) (base:Heap) (s:Shared) (rr:Except AX AV) (v:Value) (s':Shared):Prop where
 | mk (y:AV) (s₁:Shared) (cs:List (Str × Addr)) (names:List (Str × NameKind)) (ob₂:List (Nat × Addr)) (e:rr=.ok y) (h1:∀a o,s.heap.get? a=some o→s₁.heap.get? a=some o) (h2:s₁.os=s.os) (h3:s₁.gens=s.gens)
  (hp:∀a,Pl (calleeG U FR hF base s.heap.objs.size cs names) a→s.heap.get? a=none) (ex:Ext false (calleeG U FR hF base s.heap.objs.size cs names) ⟨s₁,[]⟩ ⟨s',ob₂⟩) (gb:AllBare s'.gens) (rv:VRel K s'.heap U v y)
set_option tactic.hygienic true in
theorem run_ok {base:Heap}{T:GlobT}{tb:Addr→Option FnA}(w:WOK K base T tb)(d:Nat)(ih:∀d' (A:Around) (C:Ctx),d'≤d→Room A d'→C.call=callN T tb d'→CallOK K base A C){A:Around}(r:Room A (d+1)){U FR:Addr→Prop}(hF:∀a,FR a→U a){s:Shared}
 (old:∀a o,base.get? a=some o→s.heap.get? a=some o) (gb:AllBare s.gens) (dom:∀a,U a→∃o,s.heap.get? a=some o) (new:∀a,U a→base.get? a=none) {a:Addr} {vs:List AV} {us:List Value} {ku:List (Str × Value)} {kw:List (Str × AV)} {rr:Except AX AV}
 (r1:RelL K s.heap U us vs) (r2:RelK K s.heap U ku kw) (q:callN T tb (d+1) a vs kw=some rr) :
 wpAny (model K.p K.w) A (PySem.call (.ref a) us ku) (Ran K U FR hF base s rr) (fun e s'=>False) s:=by
  rw[callN_succ] at q
  obtain ⟨f,hf,q⟩:=obE q
  obtain ⟨hs,q⟩:=gdE q
  obtain ⟨avs,hbv,q⟩:=obE q
  obtain ⟨o,fd,pv,ho,hd,hbody,hsc,hclo,hglb,hblt,hcode,hbind,hdfl⟩:=(w.fns a f hf).ex
  have hchk:=(w.fns a f hf).chk
  have l1:=RelL.length _ r1
  obtain ⟨vals,hb1,hb2⟩:=hbind us ku (by rw[l1,r2.1]; exact hs)
  have rl:RelL K s.heap U vals avs:=bindG_rel (fun h=>h.kp ⟨fun a o e J=>old a o e,fun a h=>.inr (new a h)⟩) r2 hdfl r1 hb1 hbv
  have hpn:pv.map (fun x=>x.1)=f.ps.map (fun x=>x.1):=dfl_names hdfl
  have hvl:vals.length=f.ps.length:=by rw[bindG_len hb1,←List.length_map (f:=(fun x=>x.1)) (as:=pv),hpn,List.length_map]
  have ⟨hgn,hc⟩:=fnC hchk
  have hkind:fd.scope.kind=.function:=by rw[hsc]; exact hc.fn
  refine wpAny_call (codeAny_call_function (Nat.lt_of_le_of_lt (Nat.le_add_right _ _) (Nat.lt_of_le_of_lt (Nat.le_add_right _ _) r.dp)) (old a o ho) hd (by rw[hsc]; exact hc.co) (by rw[hsc]; exact hgn) hbody (hcode.keeps old) (hb2 s old _ _ _ _ ?_))
  rw[hclo]
  refine wpAny_newFunctionEnv_cells hkind (fun x hx=>hsc▸hc.pp x.1 (hpn▸(List.of_mem_zip hx).1) _) fun env' he s₁ x=>?_
  ·rw[hpn] at x
   rw[hsc,hblt,hglb] at he
   subst he
   have hcs:=cellsC f.sc.names (s.heap.objs.size+1)
   have inv:=enterG (FR:=FR) (hF:=hF) old gb dom new hc (cs:=cellsFrom (s.heap.objs.size+1) f.sc.names []) (fun x=>rfl) hcs x hvl rl
   refine ⟨w.lim.keeps fun b o e=>x.toInCall.keep b o (old b o e),codeAny_func ?_⟩
   have fok:FOK (calleeG U FR hF base s.heap.objs.size (cellsFrom (s.heap.objs.size+1) f.sc.names []) f.sc.names) (ctxF T f (callN T tb d) (genD T tb d)) (newEnv f.sc s.heap.objs.size mainGlobals (cellsFrom (s.heap.objs.size+1) f.sc.names []) (fd.qualname++".<locals>.") (some a) fd.code none builtinsNs):=fok_callee hc hcs rfl rfl rfl rfl rfl
   have hbF:(calleeG U FR hF base s.heap.objs.size (cellsFrom (s.heap.objs.size+1) f.sc.names []) f.sc.names).base=base:=rfl
   have room:Room (A.deeper (newEnv f.sc s.heap.objs.size mainGlobals (cellsFrom (s.heap.objs.size+1) f.sc.names []) (fd.qualname++".<locals>.") (some a) fd.code none builtinsNs)) d :=
    ⟨r.hd,by have:=r.dp; show A.depth+1+d+60<_; lia,by have:=r.un; show A.units+3+20*d+400<_; lia⟩
   have G:Good K (calleeG U FR hF base s.heap.objs.size (cellsFrom (s.heap.objs.size+1) f.sc.names []) f.sc.names) (A.deeper (newEnv f.sc s.heap.objs.size mainGlobals (cellsFrom (s.heap.objs.size+1) f.sc.names []) (fd.qualname++".<locals>.") (some a) fd.code none builtinsNs)) (ctxF T f (callN T tb d) (genD T tb d))
     (newEnv f.sc s.heap.objs.size mainGlobals (cellsFrom (s.heap.objs.size+1) f.sc.names []) (fd.qualname++".<locals>.") (some a) fd.code none builtinsNs) d :=
    ⟨fok,hbF▸w.gok,room,hbF▸ih d _ _ (Nat.le_refl d) room rfl,hbF▸⟨w.isa.ex,w.isa.isX⟩,w.dec,hbF▸w.attr,hbF▸genOK_of w d (fun d' A' C' h r' hc'=>ih d' A' C' (Nat.le_of_lt h) r' hc') room rfl rfl,rfl,hbF▸w.big⟩
   cases hr:runF T tb d f avs with
   | none=>rw[hr] at q; exact nS q
   | some rr =>
    rw[hr] at q
    refine wpAny_mono ((exs_all 60 _ _ _ d G).1 (Except AX AV) f.body ⟨s₁,[]⟩ _ inv endK (fun a J=>some (.error a)) rr hr) (fun fl s' ⟨ff,env₂,ob₂,i₂,ex₂,hf2,q₂⟩=>?_) fun J J=>Res.no
    obtain ⟨h₁,tk,e₁⟩:=x.toInCall.same
    have hpl:∀a,Pl (calleeG U FR hF base s.heap.objs.size (cellsFrom (s.heap.objs.size+1) f.sc.names []) f.sc.names) a→s.heap.get? a=none:=fun a h=>by
     rcases callee_pl hcs h with rfl|⟨n,h⟩
     ·exact get_size _
     ·exact Heap.get?_none_of_le (Nat.le_of_lt (x.above n a (mem_of_lookup h)))
    have down:∀{v:Value} {y:AV},VRel K s'.heap (Av (calleeG U FR hF base s.heap.objs.size (cellsFrom (s.heap.objs.size+1) f.sc.names []) f.sc.names) ⟨s',ob₂⟩) v y→VRel K s'.heap U v y:=fun h=>h.kp (Hst.of_sub fun a q=>.inr q)
    have os1:s₁.os=s.os:=by rw[e₁]
    have g1:s₁.gens=s.gens:=by rw[e₁]
    cases ff with
    | ret y =>
     obtain ⟨v,rfl,rv⟩:=hf2
     obtain rfl:=sI q₂
     obtain rfl:=sI q
     exact ⟨y,s₁,_,_,ob₂,rfl,x.toInCall.keep,os1,g1,hpl,ex₂,i₂.gens,down rv⟩
    | next =>
     subst hf2
     obtain rfl:=sI q₂
     obtain rfl:=sI q
     exact ⟨.none,s₁,_,_,ob₂,rfl,x.toInCall.keep,os1,g1,hpl,ex₂,i₂.gens,rfl⟩
    | brk=>exact nS q₂
    | cont=>exact nS q₂
theorem callOK_step {base:Heap}{T:GlobT}{tb:Addr→Option FnA}(w:WOK K base T tb)(d:Nat)(ih:∀d' (A:Around) (C:Ctx),d'≤d→Room A d'→C.call=callN T tb d'→CallOK K base A C)(A:Around)(C:Ctx)(r:Room A (d+1))(hc:C.call=callN T tb (d+1)):CallOK K base A C :=
⟨fun a vs kw r e=>(by
 rw[hc] at e
 rw[callN_succ] at e
 obtain ⟨f,hf,_⟩:=obE e
 obtain ⟨o,fd,pv,h1,h2,_⟩:=(w.fns a f hf).ex
 exact ⟨o,fd,h1,h2⟩),fun {bb} R F σ env a vs kw us ku hb i r1 r2=>(by
 rw[hc]
 subst hb
 intro k X res q
 cases hq:callN T tb (d+1) a vs kw with
 | none=>rw[hq] at q; exact nS q
 | some rr =>
  rw[hq] at q
  refine wpAny_mono (run_ok w d ih r (U:=Av F σ) (FR:=fun a=>F.fr a∨a=F.me) (fun a h=>h.elim (fun h=>.inr (F.fru a h)) fun h=>.inl (.inl (.inl h))) i.old i.gens i.dom i.new r1 r2 hq) (fun v s' ⟨y,s₁,cs,names,ob₂,e,h1,h2,h3,hpl,ex,gb,rv⟩=>?_) fun J J h=>h.elim
  subst e
  obtain ⟨i₃,ex₃⟩:=i.back (bb:=bb) h1 h2 h3 hpl ex gb
  exact ⟨y,env,σ.ob,i₃,ex₃,rv,q⟩)⟩
theorem callOK_all {base:Heap}{T:GlobT}{tb:Addr→Option FnA}(w:WOK K base T tb):∀(d:Nat) d' (A:Around) (C:Ctx),d'≤d→Room A d'→C.call=callN T tb d'→CallOK K base A C
 | 0,d',A,C,h,r,hc=>by
  cases Nat.le_zero.mp h
  exact ⟨fun a vs kw r e=>(by rw[hc] at e; exact nS e),fun R F σ env a vs kw us ku hb i r1 r2=>(by
   rw[hc]
   intro k X res q
   exact nS q)⟩
 | d+1,d',A,C,h,r,hc=>by
  rcases Nat.lt_or_eq_of_le h with h|rfl
  ·exact callOK_all w d d' A C (Nat.le_of_lt_succ h) r hc
  ·exact callOK_step w d (fun d' A C h r hc=>callOK_all w d d' A C h r hc) A C r hc
theorem topCall {base:Heap}{T:GlobT}{tb:Addr→Option FnA}(w:WOK K base T tb)(d:Nat){A:Around}(r:Room A (d+1)){s:Shared}(old:∀a o,base.get? a=some o→s.heap.get? a=some o)(gb:AllBare s.gens){a:Addr}{vs:List AV}{us:List Value}{res:AV}
  (r1:RelL K s.heap (fun J=>False) us vs) (q:callN T tb (d+1) a vs []=some (.ok res)) :
  wpAny (model K.p K.w) A (PySem.call (.ref a) us []) (fun v s'=>VRel K s'.heap (fun J=>False) v res∧(∀a o,s.heap.get? a=some o→s'.heap.get? a=some o)∧s'.os=s.os∧AllBare s'.gens) (fun e s'=>False) s:=by
 refine wpAny_mono (run_ok w d (fun d' A' C' h r' hc'=>callOK_all w d d' A' C' h r' hc') r (U:=fun J=>False) (FR:=fun J=>False) (fun J h=>h) (ku:=[]) (kw:=[]) old gb (fun J h=>h.elim) (fun J h=>h.elim) r1 ⟨rfl,rfl⟩ q) (fun v s' ⟨y,s₁,cs,names,ob₂,e,h1,h2,h3,hpl,ex,gb',rv⟩=>?_) fun J J h=>h
 (injection e with e; subst e)
 refine ⟨rv,fun a o e=>ex.keep a o (h1 a o e) (fun h=>?_) id,ex.os.trans h2,gb'⟩
 rcases h with h|h
 ·rw[hpl a h] at e; exact nS e
 ·exact nomatch h
end
noncomputable def eqBT (v w:Value):Bool:=match v with
 | .builtin x=>match w with
  | .builtin y=>decide (x=y)
  | _=>false
 | .type x=>match w with
  | .type y=>decide (x=y)
  | _=>false
 | _=>false
theorem eqBT_ok {v w:Value}(e:eqBT v w=true):v=w:=by
 cases v with
 | builtin x=>cases w <;> first|exact nT' e|rw[show x=_ from of_decide_eq_true e]
 | type x=>cases w <;> first|exact nT' e|rw[show x=_ from of_decide_eq_true e]
 | _=>exact nT' e
noncomputable def chkV (v:Value) (a:AV):Bool:=match a with
 | .none=>match v with
  | .none=>true
  | _=>false
 | .bool c=>match v with
  | .bool b=>b == c
  | _=>false
 | .int j=>match v with
  | .int i _=>decide (i=j)
  | _=>false
 | .str t=>match v with
  | .str s _=>sEqB s t&&decide (s.length≤16777216)
  | _=>false
 | .obj b=>match v with
  | .ref a=>Nat.beq a b
  | _=>false
 | .bi b=>eqBT v b.val
 | _=>false
section
variable {K:PW}{base t:Heap}
theorem chkV_ok {h:Heap}{A:Addr→Prop}{v:Value}{a:AV}(e:chkV v a=true):VRel K h A v a:=by
 cases a with
 | none=>cases v <;> first|exact nT' e|rfl
 | bool c=>cases v <;> first|exact nT' e|exact congrArg Value.bool (eq_of_beq e)
 | int j=>cases v <;> first|exact nT' e|exact ⟨_,congrArg (fun z=>Value.int z _) (of_decide_eq_true e)⟩
 | str s =>
  cases v with
  | str t k =>
   have e:(sEqB t s&&decide (t.length≤16777216))=true:=e
   rw[Bool.and_eq_true,sEqB_eq] at e
   have h:=of_decide_eq_true e.1
   exact ⟨_,congrArg (fun z=>Value.str z k) h,h▸of_decide_eq_true e.2⟩
  | _=>exact nT' e
 | obj b=>cases v <;> first|exact nT' e|exact congrArg Value.ref (Nat.eq_of_beq_eq_true e)
 | bi b=>exact eqBT_ok e
 | _=>exact nT' e
noncomputable def gChk (t:Heap) (p:Str × AV):Bool:=!sEqB p.1 (PySem.Str.ofString "__debug__")&&match t.nsMap mainGlobals p.1 with
 | some v=>chkV v p.2
 | none=>match t.nsMap builtinsNs p.1 with
  | some v=>chkV v p.2
  | none=>false
def GEnt (K:PW) (base t:Heap) (x:Str) (av:AV):Prop:=(x == ("__debug__":Str))=false∧∃v,VRel K base (fun J=>False) v av∧(t.nsMap mainGlobals x=some v∨(t.nsMap mainGlobals x=none∧t.nsMap builtinsNs x=some v))
set_option tactic.hygienic true in
theorem gChk_ok {x:Str}{av:AV}(e:gChk t (x,av)=true):GEnt K base t x av:=by
 unfold gChk at e
 rw[Bool.and_eq_true] at e
 obtain ⟨e1,e2⟩:=e
 rw[sEqB_eq] at e1
 refine ⟨by rw[beq_eq_false_iff_ne]; simpa using e1,?_⟩
 dsimp only at e2
 split at e2
 ·rename_i v hv; exact ⟨v,chkV_ok e2,.inl hv⟩
 ·rename_i hn
  split at e2
  ·rename_i v hv; exact ⟨v,chkV_ok e2,.inr ⟨hn,hv⟩⟩
  ·exact nT' e2
theorem gok_of {C:Ctx}(e0:base.get? builtinsNs=t.get? builtinsNs)(e3:base.get? mainGlobals=t.get? mainGlobals)(n0:t.isNs builtinsNs=true)(n3:t.isNs mainGlobals=true)
  (h:∀x av,C.glob x=some av→GEnt K base t x av):GOK K base C:=fun x av hx=>by
 obtain ⟨h1,v,h2,h3⟩:=h x av hx
 refine ⟨h1,v,h2,fun E s A Q X g1 g2 k q=>?_⟩
 have at_:∀a,t.isNs a=true→base.get? a=t.get? a→s.heap.Ns a (t.nsMap a):=fun a hn he=>by
  have:s.heap.get? a=t.get? a:=by
   rw[←he]
   cases ho:base.get? a with
   | none =>
    rw[ho] at he
    unfold Heap.isNs at hn; rw[←he] at hn; exact nT' hn
   | some o=>exact k _ _ ho
  have m:s.heap.nsMap a=t.nsMap a:=funext fun x=>nsMap_congr this x
  rw[←m]
  exact Heap.Ns.of_isNs ((isNs_congr this).trans hn)
 have m3:s.heap.Ns E.globals (t.nsMap mainGlobals):=by rw[g1]; exact at_ _ n3 e3
 have m0:s.heap.Ns E.builtins (t.nsMap builtinsNs):=by rw[g2]; exact at_ _ n0 e0
 rcases h3 with h3|⟨h3,h4⟩
 ·exact loadGlobal_global m3 h3 q
 ·exact loadGlobal_builtin m3 h3 m0 h4 q
noncomputable def allN:Nat→(List Value→Prop)→Prop
 | 0,P=>P []
 | n+1,P=>∀v,allN n fun l=>P (v::l)
theorem allN_all:∀{n:Nat} {P:List Value→Prop},allN n P→∀l,l.length=n→P l
 | 0,P,h,[],_=>h
 | n+1,P,h,v::l,e=>allN_all (h v) l (by simpa using e)
noncomputable def allK:List Str→(List (Str × Value)→Prop)→Prop
 | [],P=>P []
 | k::ks,P=>∀v,allK ks fun l=>P ((k,v)::l)
theorem allK_all:∀{ks:List Str} {P:List (Str × Value)→Prop},allK ks P→∀l,l.map (fun x=>x.1)=ks→P l
 | [],P,h,l,e=>by cases l with|nil=>exact h|cons=>injection e
 | k::ks,P,h,l,e=>by
  cases l with
  | nil=>injection e
  | cons p l =>
   obtain ⟨n,v⟩:=p
   rw[List.map_cons,List.cons.injEq] at e
   cases e.1
   exact allK_all (h v) l e.2
noncomputable def shapesHold (P:List Value→List (Str × Value)→Prop):List (Nat × List Str)→Prop
 | []=>True
 | x::r=>(allN x.1 fun us=>allK x.2 fun ku=>P us ku)∧shapesHold P r
theorem sEqL_eq:∀{a b:List Str},sEqL a b=true→a=b
 | [],ys,h=>(nilE h).symm
 | _::_,[],h=>nT' h
 | x::xs,y::ys,h=>by
  have h:(sEqB x y&&sEqL xs ys)=true:=h
  rw[Bool.and_eq_true,sEqB_eq] at h
  rw[of_decide_eq_true h.1,sEqL_eq h.2]
set_option tactic.hygienic true in
theorem shapesHold_at {P:List Value→List (Str × Value)→Prop}:∀{l:List (Nat × List Str)},shapesHold P l→∀us ku,shapeIn us.length (ku.map (fun x=>x.1)) l=true→P us ku
 | [],_,us,ku,e=>by exact nT' e
 | x::r,h,us,ku,e=>by
  unfold shapeIn at e
  split at e
  ·rename_i q
   rw[Bool.and_eq_true] at q
   exact allK_all (allN_all h.1 us (Nat.eq_of_beq_eq_true q.1)) ku (sEqL_eq q.2)
  ·exact shapesHold_at h.2 us ku e
theorem fnOK_of {a:Addr}{f:FnA}(frag:Frag)(hin:frag.In base)(pv:List (Str × Option Value)){o:Obj}{fd:FuncData}(ho:base.get? a=some o)(hd:o.data=.func fd)(hb:fd.body=.stmts f.body)(hs:fd.scope=f.sc)
  (hc:fd.closure=[]) (hg:fd.globals=mainGlobals) (hbl:fd.builtins=builtinsNs) (hcode:base.CodeRec fd.code fd.qualname) (hchk:fnChk f=true)
  (hsh:shapesHold (fun us ku=>∃vals,bindG pv us ku=some vals∧∀S,peek frag S (bindArgs fd ⟨us,ku⟩)=some ((pv.map (fun x=>x.1)).zip vals)) f.shapes) (hdf:DflL K base pv f.ps):FnOK K base a f :=
 ⟨hchk,o,fd,pv,ho,hd,hb,hs,hc,hg,hbl,hcode,fun us ku q=>by
  obtain ⟨vals,h1,h2⟩:=shapesHold_at hsh us ku q
  exact ⟨vals,h1,fun s k=>kp_binds (fun b o e=>k b o (hin b o e)) h2⟩,hdf⟩
theorem nilIn:Frag.In [] base:=fun a o e=>nomatch e
set_option tactic.hygienic true in
theorem oneIn {a:Addr}{o:Obj}(h:base.get? a=some o):Frag.In [(a,o)] base:=fun b p e=>by
 simp only[List.lookup] at e
 split at e
 ·rename_i q; obtain rfl:=sI e; rw[beq_iff_eq.mp q]; exact h
 ·exact nS e
set_option tactic.hygienic true in
theorem consIn {a:Addr}{o:Obj}{frag:Frag}(h:base.get? a=some o)(r:frag.In base):Frag.In ((a,o)::frag) base:=fun b p e=>by
 simp only[List.lookup] at e
 split at e
 ·rename_i q; obtain rfl:=sI e; rw[beq_iff_eq.mp q]; exact h
 ·exact r b p e
end
noncomputable def lookN {α:Type} (a:Nat):List (Nat × α)→Option α
 | []=>none
 | x::r=>match Nat.beq a x.1 with
  | true=>some x.2
  | false=>lookN a r
set_option tactic.hygienic true in
theorem lookN_all {α:Type}{P:Nat→α→Prop}:∀{l:List (Nat × α)},(∀p∈l,P p.1 p.2)→∀a x,lookN a l=some x→P a x
 | [],_,a,x,e=>by exact nS e
 | y::r,h,a,x,e=>by
  unfold lookN at e
  split at e
  ·rename_i q
   cases Nat.eq_of_beq_eq_true q
   obtain rfl:=sI e
   exact h _ (.head _)
  ·exact lookN_all (fun p hp=>h p (.tail _ hp)) a x e
structure GnA where
 f:FnA
 pre:List Stmt
 test:PySem.Expr
 bd:List Stmt
 ye:PySem.Expr
noncomputable def scal:AV→Bool
 | .tup _=>false
 | .list _=>false
 | .dict _=>false
 | _=>true
noncomputable def scalS:Option Slot→Bool
 | none=>true
 | some (.pure x)=>scal x
 | some (.own _)=>false
noncomputable def scalE:AEnv→Bool
 | []=>true
 | s::r=>match scalS s with
  | true=>scalE r
  | false=>false
noncomputable def gl (C:Ctx) (g:GnA):Nat→AEnv→Option (List AV)
 | 0,_=>none
 | n+1,e=>gd (scalE e) <| tst 60 C g.test (fun b e=>match b with
  | false=>some []
  | true=>exs 60 C g.bd (fun fl e=>match fl with
   | .next=>ev 60 C g.ye (fun v e=>ob (gl C g n e) fun r=>some (v::r)) (fun J J=>none) e
   | _=>none) (fun J J=>none) e) (fun J J=>none) e
noncomputable def genRun (T:GlobT) (call:CallT) (g:GnA) (vals:List AV):Option (List AV) :=
 exs 60 (ctxF T g.f call fun J J=>none) g.pre (fun fl e=>match fl with
  | .next=>gl (ctxF T g.f call fun J J=>none) g T.fuel e
  | _=>none) (fun J J=>none) (slots0 (g.f.ps.map (fun x=>x.1)) vals (slotNs g.f.sc.names))
noncomputable def genT0 (T:GlobT) (tg:Addr→Option GnA) (call:CallT) (a:Addr) (vs:List AV):Option (List AV):=ob (tg a) fun g=>gd (shapeIn vs.length [] g.f.shapes) <| ob (bindG g.f.ps vs []) fun vals =>
 gd (scalE (slots0 (g.f.ps.map (fun x=>x.1)) vals (slotNs g.f.sc.names))) <| ob (genRun T call g vals) fun r=>gd (Nat.ble r.length 16777216) (some r)
section
variable {K:PW}
theorem scal_rel {x:AV}{v:Value}{h h':Heap}{A A':Addr→Prop}(s:scal x=true)(r:VRel K h A v x):VRel K h' A' v x:=by
 cases x <;> first|exact r|exact nT' s
noncomputable def SRel (K:PW) (v:Option Value):Option Slot→Prop
 | none=>v=none
 | some (.pure x)=>∃w,v=some w∧∀h A,VRel K h A w x
 | some (.own _)=>False
set_option tactic.hygienic true in
theorem scalE_at:∀{e:AEnv},scalE e=true→∀i,scalS (slotAt e i)=true
 | [],_,i=>rfl
 | s::r,h,i=>by
  unfold scalE at h
  split at h
  ·rename_i hs
   cases i with
   | zero=>exact hs
   | succ i=>exact scalE_at (e:=r) h i
  ·exact nT' h
noncomputable def wrL (pl:List Place) (L:Addr):List Addr:=L::pl.map Place.addr
noncomputable def Fg (base:Heap) (pl:List Place) (L:Addr) (s:Shared):Fx:=⟨pl,L,fun a=>(∃o,s.heap.get? a=some o)∧base.get? a=none∧a∉wrL pl L,fun J=>False,fun J h=>h.elim,[],base⟩
theorem wr_pl {base:Heap}{pl:List Place}{L:Addr}{s:Shared}{a:Addr}(h:a∈wrL pl L):Pl (Fg base pl L s) a:=by
 rcases List.mem_cons.mp h with rfl|h
 ·exact .inl rfl
 ·obtain ⟨p,hp,rfl⟩:=List.mem_map.mp h
  exact .inr ⟨p,hp,rfl⟩
structure Ok (K:PW) (base:Heap) (pl:List Place) (L:Addr) (s:Shared) (e:AEnv):Prop where
 len:e.length=pl.length
 slots:∀(i:Nat) p,pl[i]?=some p→∃v,Holds s.heap p v∧SRel K v (slotAt e i)
 old:∀a o,base.get? a=some o→s.heap.get? a=some o
 ex:∀b∈wrL pl L,∃o,s.heap.get? b=some o
variable {base:Heap}{pl:List Place}{L:Addr}
theorem pl_wr {s:Shared}{a:Addr}(h:Pl (Fg base pl L s) a):a∈wrL pl L:=by
 rcases h with h|⟨p,hp,e⟩
 ·exact List.mem_cons.mpr (.inl h)
 ·exact .tail _ (e▸List.mem_map_of_mem hp)
theorem Ok.inv {s:Shared}{e:AEnv}(o:Ok K base pl L s e)(hn:pl.Nodup)(hb:∀b∈wrL pl L,base.get? b=none)(ha:AllBare s.gens):Inv K (Fg base pl L s) ⟨s,[]⟩ e:=by
 have own:∀a,Own (Fg base pl L s) ⟨s,[]⟩ a→a∈wrL pl L:=fun a h=>h.elim pl_wr fun h=>nomatch h
 refine ⟨o.len,fun i p hp=>?_,hn,List.nodup_nil,List.nodup_nil,nofun,fun a h q=>q.2.2 (own a h),fun a h=>h.elim (fun h=>o.ex a (own a h)) fun h=>h.1,fun a h=>h.elim (fun h=>hb a (own a h)) fun h=>h.2.1,o.old,ha⟩
 obtain ⟨v,h1,h2⟩:=o.slots i p hp
 refine ⟨v,h1,?_⟩
 cases hs:slotAt e i with
 | none=>rw[hs] at h2; exact h2
 | some sl =>
  rw[hs] at h2
  cases sl with
  | pure x=>obtain ⟨w,rfl,h⟩:=h2; exact ⟨w,rfl,h _ _⟩
  | own c=>exact h2.elim
theorem Ok.of_inv {F:Fx}(h1:F.pl=pl)(h2:F.me=L)(h3:F.base=base){s:Shared}{ob:List (Nat × Addr)}{e:AEnv}(i:Inv K F ⟨s,ob⟩ e)(hs:scalE e=true):Ok K base pl L s e:=by
 subst h1 h2 h3
 refine ⟨i.len,fun j p hp=>?_,i.old,fun b h=>?_⟩
 ·obtain ⟨v,h1,h2⟩:=i.slots j p hp
  refine ⟨v,h1,?_⟩
  have:=scalE_at hs j
  cases hsl:slotAt e j with
  | none=>rw[hsl] at h2; exact h2
  | some sl =>
   rw[hsl] at h2 this
   cases sl with
   | pure x=>obtain ⟨w,rfl,h⟩:=h2; exact ⟨w,rfl,fun J J=>scal_rel this h⟩
   | own c=>exact nT' this
 ·refine i.dom b (.inl (.inl ?_))
  rcases List.mem_cons.mp h with rfl|h
  ·exact .inl rfl
  ·obtain ⟨p,hp,rfl⟩:=List.mem_map.mp h
   exact .inr ⟨p,hp,rfl⟩
theorem Ok.later {s s':Shared}{e:AEnv}(o:Ok K base pl L s e)(k:∀b∈wrL pl L,∀x,s.heap.get? b=some x→s'.heap.get? b=some x)(old:∀a o,base.get? a=some o→s'.heap.get? a=some o):Ok K base pl L s' e :=
 ⟨o.len,fun i p hp=>let ⟨v,h1,h2⟩:=o.slots i p hp
  ⟨v,h1.at fun x hx=>k _ (.tail _ (List.mem_map_of_mem (List.mem_of_getElem? hp))) x hx,h2⟩,old,fun b h=>let ⟨x,hx⟩:=o.ex b h; ⟨x,k b h x hx⟩⟩
theorem moves_of {s₀ s:Shared}{ob:List (Nat × Addr)}{e:AEnv}(x:Ext false (Fg base pl L s₀) ⟨s₀,[]⟩ ⟨s,ob⟩)(i:Inv K (Fg base pl L s₀) ⟨s,ob⟩ e):Moves (wrL pl L) (fun J=>False) s₀ s :=
 ⟨fun b o nb h=>x.keep b o h (fun q=>q.elim (fun q=>nb (pl_wr q)) fun q=>nomatch q) id,fun J=>i.gens,fun g st J h=>x.gk g st h,x.os⟩
noncomputable def Rg (pl:List Place) (L:Addr):GenEnd:=fun n s₀ r s₁=>r=.ok (.ret .none)∧(n=1∧Moves (wrL pl L) (fun J=>False) s₀ s₁)
noncomputable def Yg (K:PW) (base:Heap) (pl:List Place) (L:Addr) (xs:List AV):Protocol:=fun m s₀ v s₁ kap=>Moves (wrL pl L) (fun J=>False) s₀ s₁ ∧
 (∃x,xs[xs.length-m]?=some x∧VRel K s₁.heap (fun a=>a∈wrL pl L∨((∃o,s₀.heap.get? a=some o)∧base.get? a=none)) v x) ∧
 ∃e',Ok K base pl L s₁ e'∧∀s'',Ok K base pl L s'' e'→AllBare s''.gens→kap (.send .none) s''
variable {A₁:Around}{C:Ctx}{E:Env}{d:Nat}{g:GnA}{xs:List AV}
set_option tactic.hygienic true in
theorem execs_append_wrap {Kf:Flow→Sem Fin}{H:Value→Sem Fin}{gd:Bool→Bool}{lv:List Value→List Value}{env:Env}{r:List Stmt}:∀(ss:List Stmt),(execs (ss++r) env).wrap Kf H gd lv =
  (execs ss env).wrap (fun f=>match f with|.next=>(execs r env).wrap Kf H gd lv|f=>Kf f) H gd lv
 | []=>rfl
 | s::ss=>by
  rw[List.cons_append,execs_cons_wrap,execs_append_wrap ss,execs_cons_wrap]
  exact Sem.wrap_congr _ _ _ (fun f=>by cases f <;> rfl) fun J=>rfl
set_option tactic.hygienic true in
theorem seg_gl (hn:pl.Nodup)(hb:∀b∈wrL pl L,base.get? b=none){p₁ p₂:Pos}{kf:Result→Sem Fin}{lv:List Value}{c₀:Code}{p:Pos}
  (G:∀s,Good K (Fg base pl L s) (A₁.over (.whileLoop g.test (g.bd++[.Expr (.Yield (some g.ye) p₁) p₂]) [] E) [.ret kf none false lv c₀ p []]) C E d) (hco:E.scope.isCoroutine=false) (hi:interactive E=false)
  (hend:∀s₀ s,Rg pl L 1 s₀ (.ok (.ret .none)) s→Seg (model K.p K.w) A₁ (Rg pl L) (Yg K base pl L xs) 1 s₀ c₀ (kf (.ok .next)) [] s) :
  ∀(n:Nat) (e:AEnv) (rest done:List AV) (s₀ s:Shared) (ob:List (Nat × Addr)),Inv K (Fg base pl L s₀) ⟨s,ob⟩ e→Ext false (Fg base pl L s₀) ⟨s₀,[]⟩ ⟨s,ob⟩→gl C g n e=some rest→xs=done++rest →
   Seg (model K.p K.w) A₁ (Rg pl L) (Yg K base pl L xs) (rest.length+1) s₀ (.whileLoop g.test (g.bd++[.Expr (.Yield (some g.ye) p₁) p₂]) [] E)
    ((model K.p K.w).den (.whileLoop g.test (g.bd++[.Expr (.Yield (some g.ye) p₁) p₂]) [] E)) [.ret kf none false lv c₀ p []] s
 | 0,e,rest,done,s₀,s,ob,i,x,h,hx=>by exact nS h
 | n+1,e,rest,done,s₀,s,ob,i,x,h,hx=>by
  obtain ⟨hsc,h⟩:=gdE h
  have S:=snd_all 60 _ _ _ _ (G s₀)
  refine seg_whileLoop (wpAny_mono (S.tst (bb:=false) (List AV) g.test ⟨s,ob⟩ e i _ _ rest h) (fun b s' ⟨c,e₁,ob₁,i₁,x₁,hc,q₁⟩=>?_) fun J J=>Res.no)
  subst hc
  have x₁:=x.trans x₁
  cases b with
  | false =>
   obtain rfl:=sI q₁
   rw[if_neg Bool.false_ne_true]
   refine seg_execs_nil ?_
   exact seg_leaf (.ok .next) (hend _ _ ⟨rfl,rfl,moves_of x₁ i₁⟩)
  | true =>
   rw[if_pos rfl,execs_append_wrap]
   refine seg_wrap (wpAny_mono ((exs_all 60 _ _ _ d (G s₀)).1 (List AV) g.bd ⟨s',ob₁⟩ e₁ i₁ _ _ rest q₁) (fun fl s₂ ⟨ff,e₂,ob₂,i₂,x₂,hf,q₂⟩=>?_) fun J J=>Res.no)
   have x₂:=x₁.trans x₂
   cases ff with
   | next =>
    subst hf
    dsimp only at q₂ ⊢
    refine seg_execs_cons (seg_Expr_Yield rfl rfl rfl (wpAny_mono (S.ev (bb:=false) (List AV) g.ye ⟨s₂,ob₂⟩ e₂ i₂ _ _ rest q₂) (fun v s₃ ⟨av,e₃,ob₃,i₃,x₃,rv,q₃⟩=>?_) fun J J=>Res.no) hco hi)
    intro kap hk
    have x₃:=x₂.trans x₃
    obtain ⟨rest,hr,q₃⟩:=obE q₃
    obtain rfl:=sI q₃
    have hsc:scalE e₃=true:=by
     cases n with
     | zero=>exact nS hr
     | succ n=>exact (gdE hr).1
    refine ⟨moves_of x₃ i₃,⟨av,?_,?_⟩,e₃,Ok.of_inv rfl rfl rfl i₃ hsc,fun s'' ok ha=>hk .none s'' ?_⟩
    ·rw[hx,List.length_append,List.length_cons,List.getElem?_append_right (by lia)]
     rw[show done.length+(rest.length+1)-(rest.length+1)-done.length=0 by lia]
     rfl
    ·exact rv.kp (Hst.of_sub fun a q=>q.elim (fun q=>.inl (.inl (wr_pl q))) fun q=>if hw:a∈wrL pl L then .inl (.inl (wr_pl hw)) else .inr ⟨q.1,q.2,hw⟩)
    ·refine seg_execs_nil ?_
     refine seg_again rfl ?_
     exact seg_gl hn hb G hco hi hend n e₃ rest (done++[av]) s'' s'' [] (ok.inv hn hb ha) (Ext.refl _ _) hr (by rw[hx,List.append_assoc]; rfl)
   | _=>exact nS q₂
noncomputable def gnBody (g:GnA) (p₁ p₂ p₃:Pos):List Stmt:=g.pre++[.While g.test (g.bd++[.Expr (.Yield (some g.ye) p₁) p₂]) [] p₃]
set_option tactic.hygienic true in
theorem seg_body (hn:pl.Nodup)(hb:∀b∈wrL pl L,base.get? b=none){p₁ p₂ p₃:Pos}{n:Nat}{e:AEnv}
  (G₀:∀s,Good K (Fg base pl L s) (A₁.over (.func (gnBody g p₁ p₂ p₃) E) []) C E d)
  (G:∀s kf lv p,Good K (Fg base pl L s) (A₁.over (.whileLoop g.test (g.bd++[.Expr (.Yield (some g.ye) p₁) p₂]) [] E) [.ret kf none false lv (.func (gnBody g p₁ p₂ p₃) E) p []]) C E d) (hco:E.scope.isCoroutine=false) (hi:interactive E=false)
  (hrun:exs 60 C g.pre (fun fl e=>match fl with
   | .next=>gl C g n e
   | _=>none) (fun J J=>none) e=some xs) (s:Shared) (ok:Ok K base pl L s e) (ha:AllBare s.gens) :
  Seg (model K.p K.w) A₁ (Rg pl L) (Yg K base pl L xs) (xs.length+1) s (.func (gnBody g p₁ p₂ p₃) E) ((model K.p K.w).den (.func (gnBody g p₁ p₂ p₃) E)) [] s:=by
 have i:=ok.inv hn hb ha
 refine seg_func ?_
 rw[gnBody,execs_append_wrap]
 refine seg_wrap (wpAny_mono ((exs_all 60 _ _ _ d (G₀ s)).1 (List AV) g.pre ⟨s,[]⟩ e i _ _ xs hrun) (fun fl s₂ ⟨ff,e₂,ob₂,i₂,x₂,hf,q₂⟩=>?_) fun J J=>Res.no)
 cases ff with
 | next =>
  subst hf
  dsimp only at q₂ ⊢
  refine seg_execs_cons (seg_While fun p=>?_)
  refine seg_gl hn hb (fun s=>G s _ _ _) hco hi (fun s₀ s₁ h=>?_) n e₂ xs [] s s₂ ob₂ i₂ x₂ q₂ rfl
  exact seg_execs_nil (env:=E) (seg_end (.ok (.ret .none)) h)
 | _=>exact nS q₂
theorem next_gen {A:Around}{I:Addr}{gi n:Nat}{gs:GenState}{P:Nat→Shared→Shared→Prop}{Y:Protocol}{s:Shared}{X:Value→Shared→Prop}{Q:Option Value→Shared→Prop}(hh:A.handled=none)
  (hl:s.heap.NoLimit) (hroom:A.depth<recursionLimit) (hg:s.heap.IsGen I gi) (hgs:s.gens[gi]?=some gs)
  (hgo:gs.Goes (model K.p K.w) A.in1 (fun n s₀ r s₁=>r=.ok (.ret .none)∧P n s₀ s₁) Y n (.send .none) (s.setGen gi .running))
  (hY:∀v s₁ gs',gs'.bare=true→Y (n-1) (s.setGen gi .running) v s₁ (fun r' s''=>match n with
    | 0=>False
    | m+1=>gs'.Goes (model K.p K.w) A.in1 (fun n s₀ r s₁=>r=.ok (.ret .none)∧P n s₀ s₁) Y m r' s'')→Q (some v) (s₁.setGen gi gs'))
  (hP:∀s₁,P n (s.setGen gi .running) s₁→∀h',(∀b o,s₁.heap.get? b=some o→h'.get? b=some o)→Q none { s₁.setGen gi .finished with heap:=h' }) :
  wpAny (model K.p K.w) A (pyNext (.ref I)) Q X s:=by
 have wake:wpAny (model K.p K.w) A.in1 (Builtin.Generator.genWake (.ref I) (.send .none)) (fun fin s₁=>(∃v,fin=.done (.ret v)∧Q (some v) s₁)) (fun e s₁=>s₁.TypeIs e "StopIteration"∧Q none s₁) s:=by
  unfold Builtin.Generator.genWake
  refine wpAny_bind (wpAny_holding (wpAny_genNumber hg (wpAny_bind (wpAny_genState hgs ?_))))
  cases gs with
  | running=>exact hgo.elim
  | finished=>exact hgo.elim
  | _ =>
   refine wpAny_bind (wpAny_roomToWake hl hroom ?_)
   refine wpAny_resumeQ hgs hgo (fun x s₁ hx=>?_) fun v s₁ gs' hb hv=>wpAny_pure ⟨v,rfl,hY v s₁ gs' hb hv⟩
   obtain ⟨rfl,hp⟩:=hx
   show wpAny _ A.in1 (newExc (.type "StopIteration") [] >>= _) _ _ _
   refine wpAny_bind ?_
   simp only[newExc,newTuple]
   refine wpAny_bind (wpAny_newObj_type ?_ (by size_fits))
   refine wpAny_bind (m:=firstArgMember _ _) (wpAny_of_eq (a:=Value.none) (by first|rfl|(simp only[firstArgMember]; rfl)) ?_)
   refine wpAny_newObj_type ?_ (by size_fits)
   simp only[raiseNew]
   refine wpAny_bind (wpAny_bind (wpAny_handled ?_))
   rw[show A.in1.handled=none from hh]
   refine wpAny_throw ?_
   exact ⟨⟨_,Heap.get?_push_size _ rfl,rfl⟩,hP s₁ hp _ fun b o hb=>Heap.get?_push_of_some _ (Heap.get?_push_of_some _ hb)⟩
 unfold pyNext
 refine wpAny_bind (wpAny_attempt (wpAny_callSpecial?_slot (name:=Str.ofString "__next__") hg.typeIs slot_gen_next (wpAny_call_entry slot_gen_next hg.typeIs entry_gen_next ?_ (args_gen_next _))))
 refine wpAny_mono wake (fun fin s₁ ⟨v,e,q⟩=>?_) fun e s₁ ⟨h,q⟩=>?_
 ·exact ⟨v,e,wpAny_pure q⟩
 ·exact wpAny_bind (wpAny_isInstance h isSubtype_stop (wpAny_pure q))
end
noncomputable def gnF (g:GnA):FnA:={ g.f with sc:={ g.f.sc with isGenerator:=false } }
structure GnOK (K:PW) (base:Heap) (a:Addr) (g:GnA):Prop where
 chk:fnChk (gnF g)=true
 gn:g.f.sc.isGenerator=true
 ex:∃o fd pv p₁ p₂ p₃,base.get? a=some o∧o.data=.func fd∧fd.body=.stmts (gnBody g p₁ p₂ p₃)∧fd.scope=g.f.sc∧fd.closure=[]∧fd.globals=mainGlobals∧fd.builtins=builtinsNs∧base.CodeRec fd.code fd.qualname ∧
  (∀us ku,shapeIn us.length (ku.map (fun x=>x.1)) g.f.shapes=true→∃vals,bindG pv us ku=some vals∧∀s:Shared,(∀a o,base.get? a=some o→s.heap.get? a=some o)→BindsTo s fd ⟨us,ku⟩ ((pv.map (fun x=>x.1)).zip vals)) ∧
  DflL K base pv g.f.ps
section
variable {K:PW}{base:Heap}
theorem bare_set {gens:Array GenState}(h:AllBare gens)(g:Nat){st:GenState}(hs:st.bare=true):AllBare (gens.setIfInBounds g st):=fun y hy=>by
 obtain ⟨i,hi,rfl⟩:=Array.mem_iff_getElem.mp hy
 rw[Array.getElem_setIfInBounds (by simpa using hi)]
 split
 ·exact hs
 ·exact h _ (Array.getElem_mem (by simpa using hi))
theorem set_ne {s:Shared}{g k:Nat}{st x:GenState}(h:k≠g)(e:s.gens[k]?=some st):(s.setGen g x).gens[k]?=some st:=by
 show (s.gens.setIfInBounds g x)[k]?=some st
 rw[Array.getElem?_setIfInBounds_ne (Ne.symm h)]; exact e
def Sg (K:PW)(base:Heap)(A:Around)(pl:List Place)(L I:Addr)(gi:Nat)(xs:List AV)(i:Nat)(s:Shared)(B:Addr→Prop):Prop :=
 s.heap.IsGen I gi∧(∀a,B a→base.get? a=none)∧i≤xs.length∧∃gs e,s.gens[gi]?=some gs∧Ok K base pl L s e ∧
  ∀s'',Ok K base pl L s'' e→AllBare s''.gens→gs.Goes (model K.p K.w) A.in1 (Rg pl L) (Yg K base pl L xs) (xs.length-i+1) (.send .none) s''
variable {A:Around}{pl:List Place}{L I:Addr}{gi:Nat}{xs:List AV}
theorem Sg.frame (hfp:base.get? I=none){i:Nat}{s s':Shared}{B B':Addr→Prop}(h:Sg K base A pl L I gi xs i s B)(st:Hst s.heap B s'.heap B')(k:∀b∈I::wrL pl L,∀o,s.heap.get? b=some o→s'.heap.get? b=some o)
  (kg:∀(g:Nat) st,s.gens[g]?=some st→s'.gens[g]?=some st):Sg K base A pl L I gi xs i s' B':=by
 obtain ⟨⟨o,nm,qn,ho,r⟩,hb,hi,gs,e,hgs,ok,go⟩:=h
 have old:∀a o,base.get? a=some o→s'.heap.get? a=some o:=fun a o e=>st.keep a o (ok.old a o e) fun q=>by rw[hb a q] at e; exact nS e
 refine ⟨⟨o,nm,qn,k I (.head _) o ho,r⟩,fun a q=>?_,hi,gs,e,kg _ _ hgs,ok.later (fun b hb o ho=>k b (.tail _ hb) o ho) old,go⟩
 rcases st.av a q with q|q
 ·exact hb a q
 ·cases e:base.get? a with
  | none=>rfl
  | some o=>rw[ok.old a o e] at q; exact nS' q
theorem gen_turn (hh:A.handled=none)(hroom:A.depth<recursionLimit)(hl:base.NoLimit)(hI:I∉wrL pl L){target:PySem.Expr}(ht:isTupT target=false){i:Nat}{s:Shared}{B:Addr→Prop}{X:Value→Shared→Prop}(hi:i<xs.length)(ha:AllBare s.gens)
  (hd:∀a,B a→∃o,s.heap.get? a=some o) (h:Sg K base A pl L I gi xs i s B) :
  wpAny (model K.p K.w) A (pyNext (.ref I)) (fun r s₁=>∃v,r=some v∧wpAny (model K.p K.w) A (letOwnedTupleGo target (.ref I) v) (fun J s₂=>Moves (wrL pl L) (·=gi) s s₂∧Sg K base A pl L I gi xs (i+1) s₂ B∧∃x,xs[i]?=some x∧IRel K target s₂.heap B v x) X s₁) X s:=by
 obtain ⟨hg,hb,hi',gs,e,hgs,ok,go⟩:=h
 have ok':Ok K base pl L (s.setGen gi .running) e:=ok.later (fun J J J h=>h) ok.old
 refine next_gen hh (hl.keeps ok.old) hroom hg hgs (go _ ok' (bare_set ha _ rfl)) (fun v s₁ gs' hbr y=>?_) fun s₁ hp h' hk=>?_
 rotate_left
 ·exfalso
  have:=hp.1
  lia
 obtain ⟨mv,⟨x,hx,rv⟩,e',ok₁,kap⟩:=y
 refine ⟨v,rfl,?_⟩
 rw[letGo_name ht]
 have run:s₁.gens[gi]?=some .running:=mv.gk gi _ id (setGen_self hgs)
 refine wpAny_pure ⟨⟨fun b o nb e=>mv.keep b o nb e,fun J=>bare_set (mv.gens (bare_set ha _ rfl)) _ hbr,fun k st hk e=>set_ne hk (mv.gk k st id (set_ne hk e)),mv.os⟩,⟨?_,hb,hi,gs',e',setGen_self run,ok₁.later (fun J J J h=>h) ok₁.old,fun s'' ok₂ ha₂=>?_⟩,x,?_,?_⟩
 ·obtain ⟨o,nm,qn,ho,r⟩:=hg
  exact ⟨o,nm,qn,mv.keep I o hI ho,r⟩
 ·rw[show xs.length-(i+1)+1=xs.length-i by lia]
  exact kap s'' ok₂ ha₂
 ·rw[←hx]
  exact congrArg (xs[·]?) (by lia)
 ·have rv':VRel K s₁.heap B v x:=rv.kp (Hst.of_sub fun a q=>.inr ⟨hd a q,hb a q⟩)
  unfold IRel
  cases target <;> first|exact rv'|exact nT ht
theorem gen_done (hh:A.handled=none)(hroom:A.depth<recursionLimit)(hl:base.NoLimit){s:Shared}{B:Addr→Prop}{X:Value→Shared→Prop}(ha:AllBare s.gens)(h:Sg K base A pl L I gi xs xs.length s B) :
  wpAny (model K.p K.w) A (pyNext (.ref I)) (fun r s₁=>r=none∧Moves (wrL pl L) (·=gi) s s₁) X s:=by
 obtain ⟨hg,hb,hi',gs,e,hgs,ok,go⟩:=h
 have ok':Ok K base pl L (s.setGen gi .running) e:=ok.later (fun J J J h=>h) ok.old
 refine next_gen hh (hl.keeps ok.old) hroom hg hgs (go _ ok' (bare_set ha _ rfl)) (fun v s₁ gs' hbr y=>?_) fun s₁ hp h' hk=>?_
 ·exfalso
  obtain ⟨mv,⟨x,hx,rv⟩,_⟩:=y
  rw[List.getElem?_eq_none (by lia)] at hx
  exact nS hx
 ·refine ⟨rfl,fun b o nb e=>hk _ _ (hp.2.keep b o nb e),fun J=>bare_set (hp.2.gens (bare_set ha _ rfl)) _ rfl,fun k st hk e=>set_ne hk (hp.2.gk k st id (set_ne hk e)),hp.2.os⟩
end
section
variable {K:PW}{base:Heap}
theorem room_func {A:Around}{d:Nat}(r:Room A (d+1))(b:List Stmt)(E:Env):Room (A.in1.over (.func b E) []) d :=
 ⟨r.hd,by
   have:=r.dp
   show A.depth+frameCount []+Code.weight (.func b E)+d+60<_
   have e:Code.weight (.func b E)=1:=rfl
   rw[e]; simp only[frameCount,List.map_nil,List.sum_nil]; lia,
  by
    have:=r.un
    show A.units+1+PySem.unitsOf []+Code.cUnits (.func b E)+20*d+400<_
    have e:Code.cUnits (.func b E)=3:=rfl
    rw[e,unitsOf_nil]; lia⟩
theorem room_loop {A:Around}{d:Nat}(r:Room A (d+1))(t:PySem.Expr)(b:List Stmt)(o:List Stmt)(E:Env){kf:Result→Sem PySem.Fin}{lv:List Value}{p:Pos}{b₀:List Stmt}:Room (A.in1.over (.whileLoop t b o E) [.ret kf none false lv (.func b₀ E) p []]) d :=
 ⟨r.hd,by
   have:=r.dp
   show A.depth+frameCount [(.func b₀ E,p)]+Code.weight (.whileLoop t b o E)+d+60<_
   have e:Code.weight (.func b₀ E)=1:=rfl
   have e':Code.weight (.whileLoop t b o E)=0:=rfl
   rw[e',frameCount_cons,e]; simp only[frameCount,List.map_nil,List.sum_nil]; lia,
  by
    have:=r.un
    show A.units+1+PySem.unitsOf [(.func b₀ E,p)]+Code.cUnits (.whileLoop t b o E)+20*d+400<_
    have e:Code.cUnits (.func b₀ E)=3:=rfl
    have e':Code.cUnits (.whileLoop t b o E)=0:=rfl
    rw[e',unitsOf_cons,e,unitsOf_nil]; lia⟩
theorem Inv.pushGen {bb:Bool}{F:Fx}{s:Shared}{ob:List (Nat × Addr)}{env:AEnv}(i:Inv K F ⟨s,ob⟩ env){st:GenState}(hs:st.bare=true):Inv K F ⟨{ s with gens:=s.gens.push st },ob⟩ env∧Ext bb F ⟨s,ob⟩ ⟨{ s with gens:=s.gens.push st },ob⟩ :=
 ⟨⟨i.len,i.slots,i.pln,i.obn,i.obu,i.obp,i.upd,i.dom,i.new,i.old,i.gens.push hs⟩,
  ⟨fun J J e J J=>e,fun J o e J=>⟨o.slots,e⟩,fun x hx=>.inl (.inr (List.mem_map_of_mem hx)),fun J J h=>h,fun J h J=>h,rfl,fun J o e=>⟨o,e⟩,fun k x e=>by
   have e:s.gens[k]?=some x:=e
   show (s.gens.push st)[k]?=some x
   obtain ⟨hk,e⟩:=Array.getElem?_eq_some_iff.mp e
   rw[Array.getElem?_push_lt hk]
   exact congrArg some e⟩⟩
theorem gens_tab {T:GlobT}{tb:Addr→Option FnA}{tg:Addr→Option GnA}(hgok:GOK K base (ctxF T ⟨[],default,[],[]⟩ (fun J J J=>none) fun J J=>none))(hisa:IsaOK K base (ctxF T ⟨[],default,[],[]⟩ (fun J J J=>none) fun J J=>none))
 (hdec:DecOK (ctxF T ⟨[],default,[],[]⟩ (fun J J J=>none) fun J J=>none)) (hattr:AttrOK K base (ctxF T ⟨[],default,[],[]⟩ (fun J J J=>none) fun J J=>none)) (lim:base.NoLimit) (big:∃a o,base.get? a=some o∧sysModules≤a)
 (gisf:∀a,T.isGn a=true→∃o fd,base.get? a=some o∧o.data=.func fd) (hG:∀a g,tg a=some g→GnOK K base a g) (htg:T.gen=genT0 T tg) (d:Nat) (A:Around) (C:Ctx) (r:Room A (d+1)) (h1:C.isGn=T.isGn)
 (h2:C.gen=T.gen (callN T tb d)) (hcall:∀(A':Around) (C':Ctx),Room A' d→C'.call=callN T tb d→CallOK K base A' C'):GenOK K base A C :=
⟨fun a h=>gisf a (h1▸h),fun {bb} R F σ env a vs us xs target k res Q X hb i e r1 ht it q=>by
 rw[h2,htg] at e
 obtain ⟨g,hg,e⟩:=obE e
 obtain ⟨hs,e⟩:=gdE e
 obtain ⟨avs,hbv,e⟩:=obE e
 obtain ⟨hsc0,e⟩:=gdE e
 obtain ⟨xs',hrun,e⟩:=obE e
 obtain ⟨hlen,e⟩:=gdE e
 obtain rfl:xs=xs':=(sI e).symm
 have hlen:xs.length≤sizeLine:=Nat.le_of_ble_eq_true hlen
 obtain ⟨o,fd,pv,p₁,p₂,p₃,ho,hd,hbody,hsc,hclo,hglb,hblt,hcode,hbind,hdfl⟩:=(hG a g hg).ex
 have hchk:=(hG a g hg).chk
 have hgn:=(hG a g hg).gn
 have l1:=RelL.length _ r1
 obtain ⟨vals,hb1,hb2⟩:=hbind us [] (by rw[l1]; exact hs)
 have old:∀a o,base.get? a=some o→σ.s.heap.get? a=some o:=fun a o e=>i.old a o (hb▸e)
 have rl:RelL K σ.s.heap (Av F σ) vals avs:=bindG_rel (fun h=>i.ofBase (hb▸h)) (kw:=[]) (ku:=[]) ⟨rfl,rfl⟩ hdfl r1 hb1 hbv
 have hpn:pv.map (fun x=>x.1)=g.f.ps.map (fun x=>x.1):=dfl_names hdfl
 have hvl:vals.length=g.f.ps.length:=by rw[bindG_len hb1,←List.length_map (f:=(fun x=>x.1)) (as:=pv),hpn,List.length_map]
 have hc':=(fnC hchk).2
 have hc:FnC g.f:=⟨hc'.fn,hc'.co,hc'.n1,hc'.n2,hc'.kd,hc'.db,hc'.pp⟩
 have hkind:fd.scope.kind=.function:=by rw[hsc]; exact hc.fn
 have hco:g.f.sc.isCoroutine=false:=hc.co
 have hroom:A.depth<recursionLimit:=Nat.lt_of_le_of_lt (Nat.le_add_right _ _) (Nat.lt_of_le_of_lt (Nat.le_add_right _ _) r.dp)
 refine wpAny_call (codeAny_call_generator hroom (old a o ho) hd (by rw[hsc]; exact hco) (by rw[hsc]; exact hgn) hbody (hcode.keeps old) (hb2 σ.s old _ _ _ _ ?_))
 rw[hclo]
 refine wpAny_newFunctionEnv_cells hkind (fun x hx=>hsc▸hc.pp x.1 (hpn▸(List.of_mem_zip hx).1) _) fun env' he s₁ x=>?_
 ·rw[hpn] at x
  rw[hsc,hblt,hglb] at he
  subst he
  have hcs:=cellsC g.f.sc.names (σ.s.heap.objs.size+1)
  have inv:Inv K (calleeF F σ σ.s.heap.objs.size (cellsFrom (σ.s.heap.objs.size+1) g.f.sc.names []) g.f.sc.names) ⟨s₁,[]⟩ (slots0 (g.f.ps.map (fun x=>x.1)) avs (slotNs g.f.sc.names)) :=
   i.enter (f:=gnF g) hc' (cs:=cellsFrom (σ.s.heap.objs.size+1) g.f.sc.names []) (fun x=>rfl) hcs x hvl rl
  generalize hcells:cellsFrom (σ.s.heap.objs.size+1) g.f.sc.names []=cs at *
  generalize hL:σ.s.heap.objs.size=L at *
  have keep₁:=x.toInCall.keep
  obtain ⟨h₁,tk,rfl⟩:=x.toInCall.same
  have hpl:∀a,Pl (calleeF F σ L cs g.f.sc.names) a→σ.s.heap.get? a=none:=fun a h=>by
   rcases callee_pl hcs h with rfl|⟨n,h⟩
   ·rw[←hL]; exact get_size _
   ·exact Heap.get?_none_of_le (by rw[hL]; exact Nat.le_of_lt (x.above n a (mem_of_lookup h)))
  have plw:∀a,a∈wrL ((slotNs g.f.sc.names).map (placeOf L cs)) L→Pl (calleeF F σ L cs g.f.sc.names) a:=fun a h=>by
   rcases List.mem_cons.mp h with rfl|h
   ·exact .inl rfl
   ·obtain ⟨p,hp,rfl⟩:=List.mem_map.mp h
    exact .inr ⟨p,hp,rfl⟩
  have wnone:∀b∈wrL ((slotNs g.f.sc.names).map (placeOf L cs)) L,base.get? b=none:=fun b h=>by
   have:=inv.new b (.inl (.inl (plw b h)))
   exact hb▸this
  have wex:∀b∈wrL ((slotNs g.f.sc.names).map (placeOf L cs)) L,∃o,h₁.get? b=some o:=fun b h=>inv.dom b (.inl (.inl (plw b h)))
  have ok₁:Ok K base ((slotNs g.f.sc.names).map (placeOf L cs)) L { σ.s with heap:=h₁,toks:=tk } (slots0 (g.f.ps.map (fun x=>x.1)) avs (slotNs g.f.sc.names)):=Ok.of_inv (F:=calleeF F σ L cs g.f.sc.names) rfl rfl hb inv hsc0
  refine ⟨lim.keeps fun b o e=>keep₁ b o (old b o e),?_⟩
  have hh:A.handled=none:=r.hd
  generalize hE:newEnv g.f.sc L mainGlobals cs (fd.qualname++".<locals>.") (some a) fd.code none builtinsNs=E at *
  have hEs:E.scope=g.f.sc:=by rw[←hE]; rfl
  have e2:E.globals=mainGlobals:=by rw[←hE]; rfl
  have e3:E.builtins=builtinsNs:=by rw[←hE]; rfl
  have e4:E.locals=L:=by rw[←hE]; rfl
  have e5:E.cells=cs:=by rw[←hE]; rfl
  have fok:FOK (calleeF F σ L cs g.f.sc.names) (ctxF T g.f (callN T tb d) fun J J=>none) E:=fok_callee (f:=g.f) hc hcs hEs e2 e3 e4 e5
  have good:∀(A':Around),Room A' d→∀s,Good K (Fg base ((slotNs g.f.sc.names).map (placeOf L cs)) L s) A' (ctxF T g.f (callN T tb d) fun J J=>none) E d:=fun A' r' s =>
   ⟨⟨fok.kind,fok.glb,fok.blt,fok.sc,fok.len,fok.fix,fok.slot⟩,hgok,r',hcall A' _ r' rfl,⟨hisa.ex,hisa.isX⟩,hdec,hattr,⟨gisf,fun R F σ env a vs us xs target k res Q X hb i e=>nomatch e⟩,by rw[←hE]; rfl,big⟩
  have hin:interactive E=false:=by unfold interactive; rw[fok.kind]; rfl
  have body:=fun s ok ha=>seg_body (A₁:=A.in1) (xs:=xs) inv.pln wnone (p₁:=p₁) (p₂:=p₂) (p₃:=p₃) (n:=T.fuel) (good _ (room_func r _ _)) (fun s kf lv p=>good _ (room_loop r _ _ _ _) s) (by rw[hEs]; exact hco) hin hrun s ok ha
  have hI:h₁.objs.size∉wrL ((slotNs g.f.sc.names).map (placeOf L cs)) L:=fun h=>by
   obtain ⟨o,e⟩:=wex _ h
   rw[get_size] at e; exact nS e
  have hIb:base.get? h₁.objs.size=none:=by
   cases e:base.get? h₁.objs.size with
   | none=>rfl
   | some o=>have:=keep₁ _ o (old _ o e); rw[get_size] at this; exact nS this
  have fresh:∀b∈h₁.objs.size::wrL ((slotNs g.f.sc.names).map (placeOf L cs)) L,σ.s.heap.get? b=none:=fun b h=>by
   rcases List.mem_cons.mp h with rfl|h
   ·cases e:σ.s.heap.get? h₁.objs.size with
    | none=>rfl
    | some o=>have:=keep₁ _ o e; rw[get_size] at this; exact nS this
   ·exact hpl b (plw b h)
  let go:Obj:={ cls:=.type "generator",data:=.fields #[.int σ.s.gens.size 0,.str fd.name tk,.str fd.qualname (tk+1)] }
  have kp:∀a o,σ.s.heap.get? a=some o→(h₁.push go).get? a=some o:=fun a o e=>Heap.get?_push_of_some _ (keep₁ a o e)
  obtain ⟨iw,ew⟩:=i.widen (bb:=bb) (W:=(·∈wrL ((slotNs g.f.sc.names).map (placeOf L cs)) L)) (s':={ σ.s with heap:=h₁.push go,toks:=tk+1+1 }) kp rfl rfl fun a h=>⟨fresh a (.tail _ h),let ⟨o,e⟩:=wex a h; ⟨o,Heap.get?_push_of_some _ e⟩⟩
  obtain ⟨i₃,_⟩:=iw.pushGen (bb:=bb) (st:=.fresh (.func (gnBody g p₁ p₂ p₃) E)) rfl
  obtain ⟨_,ep⟩:=iw.narrow.pushGen (bb:=bb) (st:=.fresh (.func (gnBody g p₁ p₂ p₃) E)) rfl
  have ex₃:=ew.trans ep
  have nOwn:∀b∈h₁.objs.size::wrL ((slotNs g.f.sc.names).map (placeOf L cs)) L,¬Av F σ b:=fun b h q=>by
   obtain ⟨o,e⟩:=i.dom b q
   rw[fresh b h] at e; exact nS e
  have isG:(h₁.push go).IsGen h₁.objs.size σ.s.gens.size:=⟨go,_,_,Heap.get?_push_size _ rfl,rfl,rfl,rfl⟩
  refine wpAny_pyIter_gen (g:=σ.s.gens.size) isG (it h₁.objs.size _ xs env σ.ob (h₁.objs.size::wrL ((slotNs g.f.sc.names).map (placeOf L cs)) L) (wrL ((slotNs g.f.sc.names).map (placeOf L cs)) L) (·=σ.s.gens.size)
   (Sg K base A ((slotNs g.f.sc.names).map (placeOf L cs)) L h₁.objs.size σ.s.gens.size xs) ⟨i₃,fun b h=>⟨fun q=>nOwn b h (.inl q),fun q=>nOwn b h (.inr (F.fru b q)),?_⟩,?_⟩ ex₃ ⟨fun b h=>.tail _ h,fun b h=>⟨.inr h,fun q=>nOwn b (.tail _ h) (.inr (F.fru b q))⟩,fun i s B h b hb=>?_,
    fun i s s' B B' h st k kg=>h.frame hIb st k kg,fun i s B X hi ha hB hd h=>gen_turn hh hroom lim hI ht hi ha hd h,fun s B X ha hd h=>gen_done hh hroom lim ha h,fun s B Q X h q=>wpAny_pyIter_gen h.1 q⟩ (fun b h=>fresh b (.tail _ h)) (fun k hk=>by subst hk; simp) hlen q)
  ·rcases List.mem_cons.mp h with rfl|h
   ·exact ⟨go,Heap.get?_push_size _ rfl⟩
   ·obtain ⟨o,e⟩:=wex b h; exact ⟨o,Heap.get?_push_of_some _ e⟩
  ·refine ⟨isG,fun a q=>hb▸i₃.new a q,Nat.zero_le _,.fresh (.func (gnBody g p₁ p₂ p₃) E),_,by simp,ok₁.later (fun b J o e=>Heap.get?_push_of_some _ e) (fun a o e=>kp a o (old a o e)),fun s'' ok ha=>⟨rfl,body s'' ok ha⟩⟩
  ·obtain ⟨_,_,_,gs,e,_,ok,_⟩:=h
   exact ok.ex b hb⟩
end
end
noncomputable section
open PySem PySem.W
noncomputable def obO {α β:Type} (o:Option α) (f:α→Option β):Option β:=match o with
 | none=>none
 | some a=>f a
noncomputable def cnd {α:Type} (b:Bool) (x y:Option α):Option α:=match b with
 | true=>x
 | false=>y
noncomputable def okE {β:Type} (o:Option (Except AX AV)) (f:AV→Option β) (g:AX→Option β):Option β:=match o with
 | none=>none
 | some r=>match r with
  | .ok v=>f v
  | .error x=>g x
noncomputable def onS {β:Type} (v:AV) (f:Str→Option β):Option β:=match v with
 | .str n=>f n
 | _=>none
noncomputable def onTL {β:Type} (v:AV) (f:List AV→Option β):Option β:=match v with
 | .tup n=>f n
 | .list n=>f n
 | _=>none
noncomputable def consL {α β:Type} (l:List α) (a:Option β) (f:α→List α→Option β):Option β:=match l with
 | []=>a
 | x::r=>f x r
end
noncomputable section
open PySem PySem.W PyProof.Rows
set_option maxRecDepth 100000
set_option maxHeartbeats 0
noncomputable def prog:Program:=PySem.Challenge.pw_ag0004_03
noncomputable def body:List Stmt:=behindTheImports prog
noncomputable def cell (i:Nat):Stmt:=nthS body i
noncomputable def cls (i j:Nat):Stmt:=nthS (cBody (cell i)) j
noncomputable def envT:Env:={ scope:=prog.main.scope,locals:=mainNs,globals:=mainNs,cells:=[],code:=(.ref 13),frame:=some 14 }
noncomputable def fpos:Pos:=⟨0,0,0,0⟩
noncomputable def cp (n:Nat):Value:=.str (S "/claim/cut.py") n
noncomputable def z (x:String) (n:Nat):Value:=.str (S x) n
noncomputable def i0 (x:Int):Value:=.int x 0
noncomputable def co (a:Array Value):Obj:=⟨.type "code",none,.fields a,#[]⟩
noncomputable def fo (n q:String) (st:Stmt) (cl:List (Str × Addr)) (dV kV doc pm:Value) (an:Option Addr) (cd ct:Value):Obj:=⟨.type "function",none,fD (S n) (S q) st cl dV kV doc pm an cd ct,#[]⟩
noncomputable def k (o:Obj):Params→Obj:=fun J=>o
noncomputable def cq (n q:String) (a l c r t:Nat):Obj:=co #[z n a,z q (a+1),cp (a+2),i0 (.ofNat l),i0 (.ofNat c),i0 0,i0 0,i0 3,.ref r,.bool true,i0 181,.ref (r+1),.none,.ref (r+2),.ref (r+3),.ref (r+4),i0 (.ofNat t),i0 (.ofNat l),cp (t+1)]
noncomputable def fo1 (n:String) (st:Stmt) (pm:Value) (c:Nat):Obj:=fo n n st [] .none .none .none pm none (.ref c) .none
def o13:=k <| co #[(z "<module>" 182),(z "<module>" 183),(cp 184),(i0 1),(i0 0),(i0 0),(i0 0),(i0 0),(.ref 11),(.bool false),(i0 181),(.ref 12),.none,.none,.none,.none,(i0 185),(i0 1),(cp 186)]
def o20:=k <| cq "_wall" "_wall" 187 1 1 15 191
def o21:=k <| fo1 "_wall" (cell 0) (z "__main__" 164) 20
def o29:=k <| ⟨(.type "tuple"),none,(.seq #[.none,.none] 0),#[]⟩
def o35:=k <| cq "__init__" "UUID.__init__" 208 7 3 30 215
def o36:=k <| fo "__init__" "UUID.__init__" (cls 2 0) [] (.ref 29) .none .none (z "bson.uuids" 194) none (.ref 35) .none
def o42:=k <| cq "__eq__" "UUID.__eq__" 218 13 2 37 223
def o43:=k <| fo "__eq__" "UUID.__eq__" (cls 2 1) [] .none .none .none (z "bson.uuids" 194) none (.ref 42) .none
def o45 (P:Params):Obj:=⟨(.type "dict"),none,(.dict #[eS P "__module__" 203 (z "bson.uuids" 194),eS P "__firstlineno__" 207 (.int 5 206),eS P "__init__" 217 (.ref 36),eS P "__eq__" 225 (.ref 43),eS P "__static_attributes__" 228 (.ref 44),eS P "__dict__" 230 (.ref 47),eS P "__weakref__" 232 (.ref 48),eS P "__doc__" 233 .none,eS P "__hash__" 234 .none] 5),#[]⟩
def o46:=k <| ⟨(.type "type"),none,(.cls ⟨(S "UUID"),[(.type "object")],[(.ref 46),(.type "object")],45,(S "UUID"),true,[],[],false,none,false⟩),#[none,none,some (z "UUID" 196),some (z "UUID" 204),some (.builtin "object.__new__"),some (.bool true)]⟩
def o56:=k <| cq "_turned" "_turned" 237 15 1 51 241
def o57:=k <| fo1 "_turned" (cell 3) (z "bson.uuids" 194) 56
def o66 (P:Params):Obj:=⟨(.type "dict"),none,(.dict #[eS P "__module__" 257 (z "bson.binary" 244),eS P "__firstlineno__" 261 (.int 20 260),eS P "UNSPECIFIED" 263 (.int 0 262),eS P "STANDARD" 266 (.int 4 265),eS P "PYTHON_LEGACY" 269 (.int 3 268),eS P "JAVA_LEGACY" 272 (.int 5 271),eS P "CSHARP_LEGACY" 275 (.int 6 274),eS P "__static_attributes__" 277 (.ref 65),eS P "__dict__" 279 (.ref 68),eS P "__weakref__" 281 (.ref 69),eS P "__doc__" 282 .none] 4),#[]⟩
def o67:=k <| ⟨(.type "type"),none,(.cls ⟨(S "UuidRepresentation"),[(.type "object")],[(.ref 67),(.type "object")],66,(S "UuidRepresentation"),true,[],[],false,none,false⟩),#[none,none,some (z "UuidRepresentation" 250),some (z "UuidRepresentation" 258),some (.builtin "object.__new__"),some (.bool true)]⟩
def o72:=k <| ⟨(.type "tuple"),none,(.seq #[(.int 3 287),(.int 4 288)] 0),#[]⟩
def o73:=k <| ⟨(.type "tuple"),none,(.seq #[(.int 0 290),(.int 4 291),(.int 3 292),(.int 5 293),(.int 6 294)] 0),#[]⟩
def o74:=k <| ⟨(.type "dict"),none,(.dict #[⟨0,(.int 0 296),(z "UuidRepresentation.UNSPECIFIED" 297)⟩,⟨4,(.int 4 298),(z "UuidRepresentation.STANDARD" 299)⟩,⟨3,(.int 3 300),(z "UuidRepresentation.PYTHON_LEGACY" 301)⟩,⟨5,(.int 5 302),(z "UuidRepresentation.JAVA_LEGACY" 303)⟩,⟨6,(.int 6 304),(z "UuidRepresentation.CSHARP_LEGACY" 305)⟩] 5),#[]⟩
def o82:=k <| ⟨(.type "tuple"),none,(.seq #[(.int 0 326)] 0),#[]⟩
def o88:=k <| cq "__init__" "Binary.__init__" 327 38 3 83 333
def o89:=k <| fo "__init__" "Binary.__init__" (cls 12 1) [] (.ref 82) .none .none (z "bson.binary" 244) none (.ref 88) .none
def o90:=k <| ⟨(.type "tuple"),none,(.seq #[(.int 4 336)] 0),#[]⟩
def o96:=k <| cq "from_uuid" "Binary.from_uuid" 337 46 3 91 346
def o97:=k <| fo "from_uuid" "Binary.from_uuid" (cls 12 2) [] (.ref 90) .none .none (z "bson.binary" 244) (some 100) (.ref 96) .none
def o98 (P:Params):Obj:=⟨(.type "dict"),none,(.dict #[eS P "__module__" 349 (z "bson.binary" 244),eS P "__name__" 352 (z "from_uuid" 351),eS P "__qualname__" 355 (z "Binary.from_uuid" 354),eS P "__doc__" 357 .none,eS P "__annotations__" 359 (.ref 100)] 5),#[]⟩
def o99:=k <| ⟨(.type "classmethod"),(some 98),(.fields #[(.ref 97),(.bool false)]),#[]⟩
def o100:=k <| ⟨(.type "dict"),none,(.dict #[] 0),#[]⟩
def o101:=k <| ⟨(.type "tuple"),none,(.seq #[(.int 4 361)] 0),#[]⟩
def o107:=k <| cq "as_uuid" "Binary.as_uuid" 362 67 2 102 367
def o108:=k <| fo "as_uuid" "Binary.as_uuid" (cls 12 3) [] (.ref 101) .none .none (z "bson.binary" 244) none (.ref 107) .none
def o109:=k <| ⟨(.type "tuple"),none,(.seq #[.none,.none] 0),#[]⟩
def o115:=k <| cq "from_vector" "Binary.from_vector" 370 89 4 110 377
def o116:=k <| fo "from_vector" "Binary.from_vector" (cls 12 4) [] (.ref 109) .none .none (z "bson.binary" 244) (some 119) (.ref 115) .none
def o117 (P:Params):Obj:=⟨(.type "dict"),none,(.dict #[eS P "__module__" 380 (z "bson.binary" 244),eS P "__name__" 383 (z "from_vector" 382),eS P "__qualname__" 386 (z "Binary.from_vector" 385),eS P "__doc__" 388 .none,eS P "__annotations__" 390 (.ref 119)] 5),#[]⟩
def o118:=k <| ⟨(.type "classmethod"),(some 117),(.fields #[(.ref 116),(.bool false)]),#[]⟩
def o119:=k <| ⟨(.type "dict"),none,(.dict #[] 0),#[]⟩
def o120:=k <| ⟨(.type "tuple"),none,(.seq #[(.bool false)] 0),#[]⟩
def o126:=k <| cq "as_vector" "Binary.as_vector" 392 93 2 121 397
def o127:=k <| fo "as_vector" "Binary.as_vector" (cls 12 5) [] (.ref 120) .none .none (z "bson.binary" 244) none (.ref 126) .none
def o133:=k <| cq "subtype" "Binary.subtype" 400 96 1 128 404
def o134:=k <| fo "subtype" "Binary.subtype" (cls 12 6) [] .none .none .none (z "bson.binary" 244) none (.ref 133) .none
def o135:=k <| ⟨(.type "property"),none,(.fields #[(.ref 134),.none,.none,.none,(z "subtype" 407),(.bool false)]),#[]⟩
def o141:=k <| cq "__eq__" "Binary.__eq__" 408 100 2 136 413
def o142:=k <| fo "__eq__" "Binary.__eq__" (cls 12 7) [] .none .none .none (z "bson.binary" 244) none (.ref 141) .none
def o148:=k <| cq "__ne__" "Binary.__ne__" 416 105 2 143 421
def o149:=k <| fo "__ne__" "Binary.__ne__" (cls 12 8) [] .none .none .none (z "bson.binary" 244) none (.ref 148) .none
def o151 (P:Params):Obj:=⟨(.type "dict"),none,(.dict #[eS P "__module__" 319 (z "bson.binary" 244),eS P "__firstlineno__" 323 (.int 35 322),eS P "_type_marker" 325 (.int 5 324),eS P "__init__" 335 (.ref 89),eS P "from_uuid" 360 (.ref 99),eS P "as_uuid" 369 (.ref 108),eS P "from_vector" 391 (.ref 118),eS P "as_vector" 399 (.ref 127),eS P "subtype" 407 (.ref 135),eS P "__eq__" 415 (.ref 142),eS P "__ne__" 423 (.ref 149),eS P "__static_attributes__" 426 (.ref 150),eS P "__dict__" 428 (.ref 153),eS P "__weakref__" 430 (.ref 154),eS P "__doc__" 431 .none,eS P "__hash__" 432 .none] 5),#[]⟩
def o152:=k <| ⟨(.type "type"),none,(.cls ⟨(S "Binary"),[(.type "object")],[(.ref 152),(.type "object")],151,(S "Binary"),true,[],[],false,none,false⟩),#[none,none,some (z "Binary" 312),some (z "Binary" 320),some (.builtin "object.__new__"),some (.bool true)]⟩
def o164:=k <| ⟨(.type "tuple"),none,(.seq #[.none] 0),#[]⟩
def o170:=k <| co #[(z "__init__" 451),(z "Code.__init__" 452),(cp 453),(i0 111),(i0 3),(i0 0),(i0 0),(i0 11),(.ref 165),(.bool true),(i0 181),(.ref 166),.none,(.ref 167),(.ref 168),(.ref 169),(i0 458),(i0 111),(cp 459)]
def o171:=k <| fo "__init__" "Code.__init__" (cls 14 1) [] (.ref 164) .none .none (z "bson.code" 435) none (.ref 170) .none
def o177:=k <| cq "scope" "Code.scope" 461 133 1 172 465
def o178:=k <| fo "scope" "Code.scope" (cls 14 2) [] .none .none .none (z "bson.code" 435) none (.ref 177) .none
def o179:=k <| ⟨(.type "property"),none,(.fields #[(.ref 178),.none,.none,.none,(z "scope" 468),(.bool false)]),#[]⟩
def o185:=k <| cq "__eq__" "Code.__eq__" 469 137 2 180 474
def o186:=k <| fo "__eq__" "Code.__eq__" (cls 14 3) [] .none .none .none (z "bson.code" 435) none (.ref 185) .none
def o192:=k <| cq "__ne__" "Code.__ne__" 477 142 2 187 482
def o193:=k <| fo "__ne__" "Code.__ne__" (cls 14 4) [] .none .none .none (z "bson.code" 435) none (.ref 192) .none
def o195 (P:Params):Obj:=⟨(.type "dict"),none,(.dict #[eS P "__module__" 444 (z "bson.code" 435),eS P "__firstlineno__" 448 (.int 108 447),eS P "_type_marker" 450 (.int 13 449),eS P "__init__" 460 (.ref 171),eS P "scope" 468 (.ref 179),eS P "__eq__" 476 (.ref 186),eS P "__ne__" 484 (.ref 193),eS P "__static_attributes__" 487 (.ref 194),eS P "__dict__" 489 (.ref 197),eS P "__weakref__" 491 (.ref 198),eS P "__doc__" 492 .none,eS P "__hash__" 493 .none] 5),#[]⟩
def o196:=k <| ⟨(.type "type"),none,(.cls ⟨(S "Code"),[(.type "object")],[(.ref 196),(.type "object")],195,(S "Code"),true,[],[],false,none,false⟩),#[none,none,some (z "Code" 437),some (z "Code" 445),some (.builtin "object.__new__"),some (.bool true)]⟩
def o208:=k <| ⟨(.type "tuple"),none,(.seq #[.none,.none] 0),#[]⟩
def o214:=k <| cq "__init__" "TypeRegistry.__init__" 510 147 3 209 516
def o215:=k <| fo "__init__" "TypeRegistry.__init__" (cls 16 0) [] (.ref 208) .none .none (z "bson.codec_options" 496) none (.ref 214) .none
def o221:=k <| cq "codecs" "TypeRegistry.codecs" 519 154 1 216 523
def o222:=k <| fo "codecs" "TypeRegistry.codecs" (cls 16 1) [] .none .none .none (z "bson.codec_options" 496) none (.ref 221) .none
def o223:=k <| ⟨(.type "property"),none,(.fields #[(.ref 222),.none,.none,.none,(z "codecs" 526),(.bool false)]),#[]⟩
def o229:=k <| cq "fallback_encoder" "TypeRegistry.fallback_encoder" 527 158 1 224 531
def o230:=k <| fo "fallback_encoder" "TypeRegistry.fallback_encoder" (cls 16 2) [] .none .none .none (z "bson.codec_options" 496) none (.ref 229) .none
def o231:=k <| ⟨(.type "property"),none,(.fields #[(.ref 230),.none,.none,.none,(z "fallback_encoder" 534),(.bool false)]),#[]⟩
def o233 (P:Params):Obj:=⟨(.type "dict"),none,(.dict #[eS P "__module__" 505 (z "bson.codec_options" 496),eS P "__firstlineno__" 509 (.int 145 508),eS P "__init__" 518 (.ref 215),eS P "codecs" 526 (.ref 223),eS P "fallback_encoder" 534 (.ref 231),eS P "__static_attributes__" 537 (.ref 232),eS P "__dict__" 539 (.ref 235),eS P "__weakref__" 541 (.ref 236),eS P "__doc__" 542 .none] 4),#[]⟩
def o234:=k <| ⟨(.type "type"),none,(.cls ⟨(S "TypeRegistry"),[(.type "object")],[(.ref 234),(.type "object")],233,(S "TypeRegistry"),true,[],[],false,none,false⟩),#[none,none,some (z "TypeRegistry" 498),some (z "TypeRegistry" 506),some (.builtin "object.__new__"),some (.bool true)]⟩
def o246:=k <| ⟨(.type "tuple"),none,(.seq #[(.int 0 557),(z "strict" 558),.none] 0),#[]⟩
def o252:=k <| cq "__init__" "CodecOptions.__init__" 559 163 4 247 566
def o253:=k <| fo "__init__" "CodecOptions.__init__" (cls 17 0) [] (.ref 246) .none .none (z "bson.codec_options" 496) none (.ref 252) .none
def o255 (P:Params):Obj:=⟨(.type "dict"),none,(.dict #[eS P "__module__" 552 (z "bson.codec_options" 496),eS P "__firstlineno__" 556 (.int 161 555),eS P "__init__" 568 (.ref 253),eS P "__static_attributes__" 572 (.ref 254),eS P "__dict__" 574 (.ref 257),eS P "__weakref__" 576 (.ref 258),eS P "__doc__" 577 .none] 4),#[]⟩
def o256:=k <| ⟨(.type "type"),none,(.cls ⟨(S "CodecOptions"),[(.type "object")],[(.ref 256),(.type "object")],255,(S "CodecOptions"),true,[],[],false,none,false⟩),#[none,none,some (z "CodecOptions" 545),some (z "CodecOptions" 553),some (.builtin "object.__new__"),some (.bool true)]⟩
def o261 (P:Params):Obj:=⟨(.type "dict"),none,(.dict #[eS P "uuid_representation" 593 (.int 0 557),eS P "unicode_decode_error_handler" 595 (z "strict" 558),eS P "type_registry" 597 (.ref 265)] 3),#[]⟩
def o262:=k <| ⟨(.ref 256),(some 261),.plain,#[]⟩
def o264 (P:Params):Obj:=⟨(.type "dict"),none,(.dict #[eS P "_type_codecs" 588 (.ref 268),eS P "_fallback_encoder" 590 .none] 2),#[]⟩
def o265:=k <| ⟨(.ref 234),(some 264),.plain,#[]⟩
def o268:=k <| ⟨(.type "list"),none,(.seq #[] 0),#[]⟩
def o281:=k <| cq "__init__" "DatetimeMS.__init__" 613 178 2 276 618
def o282:=k <| fo "__init__" "DatetimeMS.__init__" (cls 20 0) [] .none .none .none (z "bson.datetime_ms" 599) none (.ref 281) .none
def o288:=k <| cq "__lt__" "DatetimeMS.__lt__" 621 186 2 283 626
def o289:=k <| fo "__lt__" "DatetimeMS.__lt__" (cls 20 1) [] .none .none .none (z "bson.datetime_ms" 599) none (.ref 288) .none
def o295:=k <| cq "__le__" "DatetimeMS.__le__" 629 189 2 290 634
def o296:=k <| fo "__le__" "DatetimeMS.__le__" (cls 20 2) [] .none .none .none (z "bson.datetime_ms" 599) none (.ref 295) .none
def o302:=k <| cq "__eq__" "DatetimeMS.__eq__" 637 192 2 297 642
def o303:=k <| fo "__eq__" "DatetimeMS.__eq__" (cls 20 3) [] .none .none .none (z "bson.datetime_ms" 599) none (.ref 302) .none
def o309:=k <| cq "__ne__" "DatetimeMS.__ne__" 645 197 2 304 650
def o310:=k <| fo "__ne__" "DatetimeMS.__ne__" (cls 20 4) [] .none .none .none (z "bson.datetime_ms" 599) none (.ref 309) .none
def o316:=k <| cq "__gt__" "DatetimeMS.__gt__" 653 202 2 311 658
def o317:=k <| fo "__gt__" "DatetimeMS.__gt__" (cls 20 5) [] .none .none .none (z "bson.datetime_ms" 599) none (.ref 316) .none
def o323:=k <| cq "__ge__" "DatetimeMS.__ge__" 661 205 2 318 666
def o324:=k <| fo "__ge__" "DatetimeMS.__ge__" (cls 20 6) [] .none .none .none (z "bson.datetime_ms" 599) none (.ref 323) .none
def o330:=k <| cq "__int__" "DatetimeMS.__int__" 671 209 1 325 675
def o331:=k <| fo "__int__" "DatetimeMS.__int__" (cls 20 8) [] .none .none .none (z "bson.datetime_ms" 599) none (.ref 330) .none
def o333 (P:Params):Obj:=⟨(.type "dict"),none,(.dict #[eS P "__module__" 608 (z "bson.datetime_ms" 599),eS P "__firstlineno__" 612 (.int 176 611),eS P "__init__" 620 (.ref 282),eS P "__lt__" 628 (.ref 289),eS P "__le__" 636 (.ref 296),eS P "__eq__" 644 (.ref 303),eS P "__ne__" 652 (.ref 310),eS P "__gt__" 660 (.ref 317),eS P "__ge__" 668 (.ref 324),eS P "_type_marker" 670 (.int 9 669),eS P "__int__" 677 (.ref 331),eS P "__static_attributes__" 679 (.ref 332),eS P "__dict__" 681 (.ref 335),eS P "__weakref__" 683 (.ref 336),eS P "__doc__" 684 .none,eS P "__hash__" 685 .none] 5),#[]⟩
def o334:=k <| ⟨(.type "type"),none,(.cls ⟨(S "DatetimeMS"),[(.type "object")],[(.ref 334),(.type "object")],333,(S "DatetimeMS"),true,[],[],false,none,false⟩),#[none,none,some (z "DatetimeMS" 601),some (z "DatetimeMS" 609),some (.builtin "object.__new__"),some (.bool true)]⟩
def o346:=k <| ⟨(.type "tuple"),none,(.seq #[.none,.none] 0),#[]⟩
def o352:=k <| co #[(z "__init__" 704),(z "DBRef.__init__" 705),(cp 706),(i0 215),(i0 5),(i0 0),(i0 0),(i0 11),(.ref 347),(.bool true),(i0 181),(.ref 348),.none,(.ref 349),(.ref 350),(.ref 351),(i0 713),(i0 215),(cp 714)]
def o353:=k <| fo "__init__" "DBRef.__init__" (cls 22 1) [] (.ref 346) .none .none (z "bson.dbref" 688) none (.ref 352) .none
def o359:=k <| cq "collection" "DBRef.collection" 716 226 1 354 720
def o360:=k <| fo "collection" "DBRef.collection" (cls 22 2) [] .none .none .none (z "bson.dbref" 688) none (.ref 359) .none
def o361:=k <| ⟨(.type "property"),none,(.fields #[(.ref 360),.none,.none,.none,(z "collection" 723),(.bool false)]),#[]⟩
def o367:=k <| cq "id" "DBRef.id" 724 230 1 362 728
def o368:=k <| fo "id" "DBRef.id" (cls 22 3) [] .none .none .none (z "bson.dbref" 688) none (.ref 367) .none
def o369:=k <| ⟨(.type "property"),none,(.fields #[(.ref 368),.none,.none,.none,(z "id" 731),(.bool false)]),#[]⟩
def o375:=k <| cq "database" "DBRef.database" 732 234 1 370 736
def o376:=k <| fo "database" "DBRef.database" (cls 22 4) [] .none .none .none (z "bson.dbref" 688) none (.ref 375) .none
def o377:=k <| ⟨(.type "property"),none,(.fields #[(.ref 376),.none,.none,.none,(z "database" 739),(.bool false)]),#[]⟩
def o383:=k <| cq "__eq__" "DBRef.__eq__" 740 238 2 378 747
def o384:=k <| fo "__eq__" "DBRef.__eq__" (cls 22 5) [] .none .none .none (z "bson.dbref" 688) none (.ref 383) .none
def o390:=k <| cq "__ne__" "DBRef.__ne__" 750 245 2 385 755
def o391:=k <| fo "__ne__" "DBRef.__ne__" (cls 22 6) [] .none .none .none (z "bson.dbref" 688) none (.ref 390) .none
def o393 (P:Params):Obj:=⟨(.type "dict"),none,(.dict #[eS P "__module__" 697 (z "bson.dbref" 688),eS P "__firstlineno__" 701 (.int 212 700),eS P "_type_marker" 703 (.int 100 702),eS P "__init__" 715 (.ref 353),eS P "collection" 723 (.ref 361),eS P "id" 731 (.ref 369),eS P "database" 739 (.ref 377),eS P "__eq__" 749 (.ref 384),eS P "__ne__" 757 (.ref 391),eS P "__static_attributes__" 762 (.ref 392),eS P "__dict__" 764 (.ref 395),eS P "__weakref__" 766 (.ref 396),eS P "__doc__" 767 .none,eS P "__hash__" 768 .none] 5),#[]⟩
def o394:=k <| ⟨(.type "type"),none,(.cls ⟨(S "DBRef"),[(.type "object")],[(.ref 394),(.type "object")],393,(S "DBRef"),true,[],[],false,none,false⟩),#[none,none,some (z "DBRef" 690),some (z "DBRef" 698),some (.builtin "object.__new__"),some (.bool true)]⟩
def o411:=k <| cq "__init__" "Decimal.__init__" 785 250 2 406 790
def o412:=k <| fo "__init__" "Decimal.__init__" (cls 24 0) [] .none .none .none (z "bson.decimals" 771) none (.ref 411) .none
def o418:=k <| cq "as_tuple" "Decimal.as_tuple" 793 255 1 413 797
def o419:=k <| fo "as_tuple" "Decimal.as_tuple" (cls 24 1) [] .none .none .none (z "bson.decimals" 771) none (.ref 418) .none
def o425:=k <| cq "is_infinite" "Decimal.is_infinite" 800 258 1 420 804
def o426:=k <| fo "is_infinite" "Decimal.is_infinite" (cls 24 2) [] .none .none .none (z "bson.decimals" 771) none (.ref 425) .none
def o432:=k <| cq "is_nan" "Decimal.is_nan" 807 261 1 427 811
def o433:=k <| fo "is_nan" "Decimal.is_nan" (cls 24 3) [] .none .none .none (z "bson.decimals" 771) none (.ref 432) .none
def o439:=k <| cq "is_snan" "Decimal.is_snan" 814 264 1 434 818
def o440:=k <| fo "is_snan" "Decimal.is_snan" (cls 24 4) [] .none .none .none (z "bson.decimals" 771) none (.ref 439) .none
def o446:=k <| cq "is_signed" "Decimal.is_signed" 821 267 1 441 825
def o447:=k <| fo "is_signed" "Decimal.is_signed" (cls 24 5) [] .none .none .none (z "bson.decimals" 771) none (.ref 446) .none
def o453:=k <| cq "__eq__" "Decimal.__eq__" 828 270 2 448 833
def o454:=k <| fo "__eq__" "Decimal.__eq__" (cls 24 6) [] .none .none .none (z "bson.decimals" 771) none (.ref 453) .none
def o456 (P:Params):Obj:=⟨(.type "dict"),none,(.dict #[eS P "__module__" 780 (z "bson.decimals" 771),eS P "__firstlineno__" 784 (.int 248 783),eS P "__init__" 792 (.ref 412),eS P "as_tuple" 799 (.ref 419),eS P "is_infinite" 806 (.ref 426),eS P "is_nan" 813 (.ref 433),eS P "is_snan" 820 (.ref 440),eS P "is_signed" 827 (.ref 447),eS P "__eq__" 835 (.ref 454),eS P "__static_attributes__" 839 (.ref 455),eS P "__dict__" 841 (.ref 458),eS P "__weakref__" 843 (.ref 459),eS P "__doc__" 844 .none,eS P "__hash__" 845 .none] 5),#[]⟩
def o457:=k <| ⟨(.type "type"),none,(.cls ⟨(S "Decimal"),[(.type "object")],[(.ref 457),(.type "object")],456,(S "Decimal"),true,[],[],false,none,false⟩),#[none,none,some (z "Decimal" 773),some (z "Decimal" 781),some (.builtin "object.__new__"),some (.bool true)]⟩
def o467:=k <| cq "_PACK_64" "_PACK_64" 850 273 1 462 854
def o468:=k <| fo1 "_PACK_64" (cell 26) (z "bson.decimal128" 848) 467
def o474:=k <| cq "_UNPACK_64" "_UNPACK_64" 857 275 1 469 861
def o475:=k <| fo1 "_UNPACK_64" (cell 27) (z "bson.decimal128" 848) 474
def o476:=k <| ⟨(.type "tuple"),none,(.seq #[(.int 17870283321406128128 872),(.int 0 873)] 0),#[]⟩
def o477:=k <| ⟨(.type "tuple"),none,(.seq #[(.int 8646911284551352320 875),(.int 0 876)] 0),#[]⟩
def o478:=k <| ⟨(.type "tuple"),none,(.seq #[(.int 18158513697557839872 878),(.int 0 879)] 0),#[]⟩
def o479:=k <| ⟨(.type "tuple"),none,(.seq #[(.int 8935141660703064064 881),(.int 0 882)] 0),#[]⟩
def o480:=k <| ⟨(.type "tuple"),none,(.seq #[(.int 18302628885633695744 884),(.int 0 885)] 0),#[]⟩
def o481:=k <| ⟨(.type "tuple"),none,(.seq #[(.int 9079256848778919936 887),(.int 0 888)] 0),#[]⟩
def o487:=k <| cq "_check_fits" "_check_fits" 890 287 1 482 894
def o488:=k <| fo1 "_check_fits" (cell 38) (z "bson.decimal128" 848) 487
def o492:=k <| co #[(z "_decimal_to_128" 897),(z "_decimal_to_128" 898),(cp 899),(i0 291),(i0 1),(i0 0),(i0 0),(i0 3),(.ref 489),(.bool true),(i0 181),(.ref 490),.none,.none,.none,(.ref 491),(i0 900),(i0 291),(cp 901)]
def o493:=k <| fo1 "_decimal_to_128" (cell 39) (z "bson.decimal128" 848) 492
def o506:=k <| cq "__init__" "Decimal128.__init__" 917 325 2 501 922
def o507:=k <| fo "__init__" "Decimal128.__init__" (cls 40 1) [] .none .none .none (z "bson.decimal128" 848) none (.ref 506) .none
def o513:=k <| cq "to_decimal" "Decimal128.to_decimal" 925 335 1 508 929
def o514:=k <| fo "to_decimal" "Decimal128.to_decimal" (cls 40 2) [] .none .none .none (z "bson.decimal128" 848) none (.ref 513) .none
def o520:=k <| cq "from_bid" "Decimal128.from_bid" 932 338 2 515 937
def o521:=k <| fo "from_bid" "Decimal128.from_bid" (cls 40 3) [] .none .none .none (z "bson.decimal128" 848) (some 524) (.ref 520) .none
def o522 (P:Params):Obj:=⟨(.type "dict"),none,(.dict #[eS P "__module__" 940 (z "bson.decimal128" 848),eS P "__name__" 943 (z "from_bid" 942),eS P "__qualname__" 946 (z "Decimal128.from_bid" 945),eS P "__doc__" 948 .none,eS P "__annotations__" 950 (.ref 524)] 5),#[]⟩
def o523:=k <| ⟨(.type "classmethod"),(some 522),(.fields #[(.ref 521),(.bool false)]),#[]⟩
def o524:=k <| ⟨(.type "dict"),none,(.dict #[] 0),#[]⟩
def o530:=k <| cq "bid" "Decimal128.bid" 952 346 1 525 956
def o531:=k <| fo "bid" "Decimal128.bid" (cls 40 4) [] .none .none .none (z "bson.decimal128" 848) none (.ref 530) .none
def o532:=k <| ⟨(.type "property"),none,(.fields #[(.ref 531),.none,.none,.none,(z "bid" 959),(.bool false)]),#[]⟩
def o538:=k <| cq "__eq__" "Decimal128.__eq__" 960 350 2 533 965
def o539:=k <| fo "__eq__" "Decimal128.__eq__" (cls 40 5) [] .none .none .none (z "bson.decimal128" 848) none (.ref 538) .none
def o545:=k <| cq "__ne__" "Decimal128.__ne__" 968 355 2 540 973
def o546:=k <| fo "__ne__" "Decimal128.__ne__" (cls 40 6) [] .none .none .none (z "bson.decimal128" 848) none (.ref 545) .none
def o548 (P:Params):Obj:=⟨(.type "dict"),none,(.dict #[eS P "__module__" 910 (z "bson.decimal128" 848),eS P "__firstlineno__" 914 (.int 322 913),eS P "_type_marker" 916 (.int 19 915),eS P "__init__" 924 (.ref 507),eS P "to_decimal" 931 (.ref 514),eS P "from_bid" 951 (.ref 523),eS P "bid" 959 (.ref 532),eS P "__eq__" 967 (.ref 539),eS P "__ne__" 975 (.ref 546),eS P "__static_attributes__" 978 (.ref 547),eS P "__dict__" 980 (.ref 550),eS P "__weakref__" 982 (.ref 551),eS P "__doc__" 983 .none,eS P "__hash__" 984 .none] 5),#[]⟩
def o549:=k <| ⟨(.type "type"),none,(.cls ⟨(S "Decimal128"),[(.type "object")],[(.ref 549),(.type "object")],548,(S "Decimal128"),true,[],[],false,none,false⟩),#[none,none,some (z "Decimal128" 903),some (z "Decimal128" 911),some (.builtin "object.__new__"),some (.bool true)]⟩
def o562 (P:Params):Obj:=⟨(.type "dict"),none,(.dict #[eS P "__module__" 996 (z "bson.errors" 987),eS P "__firstlineno__" 1000 (.int 358 999),eS P "__static_attributes__" 1001 (.ref 561),eS P "__weakref__" 1003 (.ref 564),eS P "__doc__" 1004 .none] 3),#[]⟩
def o575 (P:Params):Obj:=⟨(.type "dict"),none,(.dict #[eS P "__module__" 1016 (z "bson.errors" 987),eS P "__firstlineno__" 1020 (.int 360 1019),eS P "__static_attributes__" 1021 (.ref 574),eS P "__doc__" 1022 .none] 2),#[]⟩
def o576:=k <| ⟨(.type "type"),none,(.cls ⟨(S "InvalidBSON"),[(.ref 563)],[(.ref 576),(.ref 563),(.type "Exception"),(.type "BaseException"),(.type "object")],575,(S "InvalidBSON"),true,[],[],false,none,false⟩),#[some (.ref 567),none,some (z "InvalidBSON" 1009),some (z "InvalidBSON" 1017),some (.builtin "Exception.__new__"),some (.bool true)]⟩
def o587 (P:Params):Obj:=⟨(.type "dict"),none,(.dict #[eS P "__module__" 1032 (z "bson.errors" 987),eS P "__firstlineno__" 1036 (.int 362 1035),eS P "__static_attributes__" 1037 (.ref 586),eS P "__doc__" 1038 .none] 2),#[]⟩
def o588:=k <| ⟨(.type "type"),none,(.cls ⟨(S "InvalidStringData"),[(.ref 563)],[(.ref 588),(.ref 563),(.type "Exception"),(.type "BaseException"),(.type "object")],587,(S "InvalidStringData"),true,[],[],false,none,false⟩),#[some (.ref 579),none,some (z "InvalidStringData" 1025),some (z "InvalidStringData" 1033),some (.builtin "Exception.__new__"),some (.bool true)]⟩
def o594:=k <| ⟨(.type "cell"),none,(.cell (some (.ref 618))),#[]⟩
def o599:=k <| ⟨(.type "tuple"),none,(.seq #[.none] 0),#[]⟩
def o606:=k <| cq "__init__" "InvalidDocument.__init__" 1053 366 3 601 1060
def o607:=k <| fo "__init__" "InvalidDocument.__init__" (cls 45 0) [((S "__class__"),594)] (.ref 599) .none .none (z "bson.errors" 987) none (.ref 606) (.ref 600)
def o613:=k <| cq "document" "InvalidDocument.document" 1063 370 1 608 1067
def o614:=k <| fo "document" "InvalidDocument.document" (cls 45 1) [] .none .none .none (z "bson.errors" 987) none (.ref 613) .none
def o615:=k <| ⟨(.type "property"),none,(.fields #[(.ref 614),.none,.none,.none,(z "document" 1070),(.bool false)]),#[]⟩
def o617 (P:Params):Obj:=⟨(.type "dict"),none,(.dict #[eS P "__module__" 1048 (z "bson.errors" 987),eS P "__firstlineno__" 1052 (.int 364 1051),eS P "__init__" 1062 (.ref 607),eS P "document" 1070 (.ref 615),eS P "__static_attributes__" 1072 (.ref 616),eS P "__doc__" 1074 .none] 3),#[]⟩
def o618:=k <| ⟨(.type "type"),none,(.cls ⟨(S "InvalidDocument"),[(.ref 563)],[(.ref 618),(.ref 563),(.type "Exception"),(.type "BaseException"),(.type "object")],617,(S "InvalidDocument"),true,[],[],false,none,false⟩),#[some (.ref 591),none,some (z "InvalidDocument" 1041),some (z "InvalidDocument" 1049),some (.builtin "Exception.__new__"),some (.bool true)]⟩
def o629 (P:Params):Obj:=⟨(.type "dict"),none,(.dict #[eS P "__module__" 1084 (z "bson.errors" 987),eS P "__firstlineno__" 1088 (.int 373 1087),eS P "__static_attributes__" 1089 (.ref 628),eS P "__doc__" 1090 .none] 2),#[]⟩
def o630:=k <| ⟨(.type "type"),none,(.cls ⟨(S "InvalidId"),[(.ref 563)],[(.ref 630),(.ref 563),(.type "Exception"),(.type "BaseException"),(.type "object")],629,(S "InvalidId"),true,[],[],false,none,false⟩),#[some (.ref 621),none,some (z "InvalidId" 1077),some (z "InvalidId" 1085),some (.builtin "Exception.__new__"),some (.bool true)]⟩
def o645:=k <| cq "__init__" "Int64.__init__" 1109 379 2 640 1114
def o646:=k <| fo "__init__" "Int64.__init__" (cls 48 1) [] .none .none .none (z "bson.int64" 1093) none (.ref 645) .none
def o652:=k <| cq "__eq__" "Int64.__eq__" 1117 382 2 647 1122
def o653:=k <| fo "__eq__" "Int64.__eq__" (cls 48 2) [] .none .none .none (z "bson.int64" 1093) none (.ref 652) .none
def o655 (P:Params):Obj:=⟨(.type "dict"),none,(.dict #[eS P "__module__" 1102 (z "bson.int64" 1093),eS P "__firstlineno__" 1106 (.int 376 1105),eS P "_type_marker" 1108 (.int 18 1107),eS P "__init__" 1116 (.ref 646),eS P "__eq__" 1124 (.ref 653),eS P "__static_attributes__" 1126 (.ref 654),eS P "__dict__" 1128 (.ref 657),eS P "__weakref__" 1130 (.ref 658),eS P "__doc__" 1131 .none,eS P "__hash__" 1132 .none] 5),#[]⟩
def o656:=k <| ⟨(.type "type"),none,(.cls ⟨(S "Int64"),[(.type "object")],[(.ref 656),(.type "object")],655,(S "Int64"),true,[],[],false,none,false⟩),#[none,none,some (z "Int64" 1095),some (z "Int64" 1103),some (.builtin "object.__new__"),some (.bool true)]⟩
def o673:=k <| cq "__eq__" "MaxKey.__eq__" 1151 388 2 668 1156
def o674:=k <| fo "__eq__" "MaxKey.__eq__" (cls 50 1) [] .none .none .none (z "bson.max_key" 1135) none (.ref 673) .none
def o680:=k <| cq "__ne__" "MaxKey.__ne__" 1159 391 2 675 1164
def o681:=k <| fo "__ne__" "MaxKey.__ne__" (cls 50 2) [] .none .none .none (z "bson.max_key" 1135) none (.ref 680) .none
def o687:=k <| cq "__le__" "MaxKey.__le__" 1167 394 2 682 1172
def o688:=k <| fo "__le__" "MaxKey.__le__" (cls 50 3) [] .none .none .none (z "bson.max_key" 1135) none (.ref 687) .none
def o694:=k <| cq "__lt__" "MaxKey.__lt__" 1175 397 2 689 1180
def o695:=k <| fo "__lt__" "MaxKey.__lt__" (cls 50 4) [] .none .none .none (z "bson.max_key" 1135) none (.ref 694) .none
def o701:=k <| cq "__ge__" "MaxKey.__ge__" 1183 400 2 696 1188
def o702:=k <| fo "__ge__" "MaxKey.__ge__" (cls 50 5) [] .none .none .none (z "bson.max_key" 1135) none (.ref 701) .none
def o708:=k <| cq "__gt__" "MaxKey.__gt__" 1191 403 2 703 1196
def o709:=k <| fo "__gt__" "MaxKey.__gt__" (cls 50 6) [] .none .none .none (z "bson.max_key" 1135) none (.ref 708) .none
def o715:=k <| cq "__repr__" "MaxKey.__repr__" 1199 406 1 710 1203
def o716:=k <| fo "__repr__" "MaxKey.__repr__" (cls 50 7) [] .none .none .none (z "bson.max_key" 1135) none (.ref 715) .none
def o718 (P:Params):Obj:=⟨(.type "dict"),none,(.dict #[eS P "__module__" 1144 (z "bson.max_key" 1135),eS P "__firstlineno__" 1148 (.int 385 1147),eS P "_type_marker" 1150 (.int 127 1149),eS P "__eq__" 1158 (.ref 674),eS P "__ne__" 1166 (.ref 681),eS P "__le__" 1174 (.ref 688),eS P "__lt__" 1182 (.ref 695),eS P "__ge__" 1190 (.ref 702),eS P "__gt__" 1198 (.ref 709),eS P "__repr__" 1205 (.ref 716),eS P "__static_attributes__" 1206 (.ref 717),eS P "__dict__" 1208 (.ref 720),eS P "__weakref__" 1210 (.ref 721),eS P "__doc__" 1211 .none,eS P "__hash__" 1212 .none] 5),#[]⟩
def o719:=k <| ⟨(.type "type"),none,(.cls ⟨(S "MaxKey"),[(.type "object")],[(.ref 719),(.type "object")],718,(S "MaxKey"),true,[],[],false,none,false⟩),#[none,none,some (z "MaxKey" 1137),some (z "MaxKey" 1145),some (.builtin "object.__new__"),some (.bool true)]⟩
def o736:=k <| cq "__eq__" "MinKey.__eq__" 1231 412 2 731 1236
def o737:=k <| fo "__eq__" "MinKey.__eq__" (cls 52 1) [] .none .none .none (z "bson.min_key" 1215) none (.ref 736) .none
def o743:=k <| cq "__ne__" "MinKey.__ne__" 1239 415 2 738 1244
def o744:=k <| fo "__ne__" "MinKey.__ne__" (cls 52 2) [] .none .none .none (z "bson.min_key" 1215) none (.ref 743) .none
def o750:=k <| cq "__le__" "MinKey.__le__" 1247 418 2 745 1252
def o751:=k <| fo "__le__" "MinKey.__le__" (cls 52 3) [] .none .none .none (z "bson.min_key" 1215) none (.ref 750) .none
def o757:=k <| cq "__lt__" "MinKey.__lt__" 1255 421 2 752 1260
def o758:=k <| fo "__lt__" "MinKey.__lt__" (cls 52 4) [] .none .none .none (z "bson.min_key" 1215) none (.ref 757) .none
def o764:=k <| cq "__ge__" "MinKey.__ge__" 1263 424 2 759 1268
def o765:=k <| fo "__ge__" "MinKey.__ge__" (cls 52 5) [] .none .none .none (z "bson.min_key" 1215) none (.ref 764) .none
def o771:=k <| cq "__gt__" "MinKey.__gt__" 1271 427 2 766 1276
def o772:=k <| fo "__gt__" "MinKey.__gt__" (cls 52 6) [] .none .none .none (z "bson.min_key" 1215) none (.ref 771) .none
def o778:=k <| cq "__repr__" "MinKey.__repr__" 1279 430 1 773 1283
def o779:=k <| fo "__repr__" "MinKey.__repr__" (cls 52 7) [] .none .none .none (z "bson.min_key" 1215) none (.ref 778) .none
def o781 (P:Params):Obj:=⟨(.type "dict"),none,(.dict #[eS P "__module__" 1224 (z "bson.min_key" 1215),eS P "__firstlineno__" 1228 (.int 409 1227),eS P "_type_marker" 1230 (.int 255 1229),eS P "__eq__" 1238 (.ref 737),eS P "__ne__" 1246 (.ref 744),eS P "__le__" 1254 (.ref 751),eS P "__lt__" 1262 (.ref 758),eS P "__ge__" 1270 (.ref 765),eS P "__gt__" 1278 (.ref 772),eS P "__repr__" 1285 (.ref 779),eS P "__static_attributes__" 1286 (.ref 780),eS P "__dict__" 1288 (.ref 783),eS P "__weakref__" 1290 (.ref 784),eS P "__doc__" 1291 .none,eS P "__hash__" 1292 .none] 5),#[]⟩
def o782:=k <| ⟨(.type "type"),none,(.cls ⟨(S "MinKey"),[(.type "object")],[(.ref 782),(.type "object")],781,(S "MinKey"),true,[],[],false,none,false⟩),#[none,none,some (z "MinKey" 1217),some (z "MinKey" 1225),some (.builtin "object.__new__"),some (.bool true)]⟩
def o790:=k <| co #[(z "_from_hex" 1299),(z "_from_hex" 1300),(cp 1301),(i0 434),(i0 1),(i0 0),(i0 0),(i0 3),(.ref 787),(.bool true),(i0 181),(.ref 788),.none,.none,.none,(.ref 789),(i0 1302),(i0 434),(cp 1303)]
def o791:=k <| fo1 "_from_hex" (cell 55) (z "bson.objectid" 1295) 790
def o797:=k <| cq "_raise_invalid_id" "_raise_invalid_id" 1305 441 1 792 1309
def o798:=k <| fo1 "_raise_invalid_id" (cell 56) (z "bson.objectid" 1295) 797
def o811:=k <| cq "__init__" "ObjectId.__init__" 1326 446 2 806 1331
def o812:=k <| fo "__init__" "ObjectId.__init__" (cls 57 1) [] .none .none .none (z "bson.objectid" 1295) none (.ref 811) .none
def o818:=k <| cq "is_valid" "ObjectId.is_valid" 1334 464 2 813 1339
def o819:=k <| fo "is_valid" "ObjectId.is_valid" (cls 57 2) [] .none .none .none (z "bson.objectid" 1295) (some 822) (.ref 818) .none
def o820 (P:Params):Obj:=⟨(.type "dict"),none,(.dict #[eS P "__module__" 1342 (z "bson.objectid" 1295),eS P "__name__" 1345 (z "is_valid" 1344),eS P "__qualname__" 1348 (z "ObjectId.is_valid" 1347),eS P "__doc__" 1350 .none,eS P "__annotations__" 1352 (.ref 822)] 5),#[]⟩
def o821:=k <| ⟨(.type "classmethod"),(some 820),(.fields #[(.ref 819),(.bool false)]),#[]⟩
def o822:=k <| ⟨(.type "dict"),none,(.dict #[] 0),#[]⟩
def o828:=k <| cq "binary" "ObjectId.binary" 1354 468 1 823 1358
def o829:=k <| fo "binary" "ObjectId.binary" (cls 57 3) [] .none .none .none (z "bson.objectid" 1295) none (.ref 828) .none
def o830:=k <| ⟨(.type "property"),none,(.fields #[(.ref 829),.none,.none,.none,(z "binary" 1361),(.bool false)]),#[]⟩
def o836:=k <| cq "generation_time" "ObjectId.generation_time" 1362 472 1 831 1366
def o837:=k <| fo "generation_time" "ObjectId.generation_time" (cls 57 4) [] .none .none .none (z "bson.objectid" 1295) none (.ref 836) .none
def o838:=k <| ⟨(.type "property"),none,(.fields #[(.ref 837),.none,.none,.none,(z "generation_time" 1369),(.bool false)]),#[]⟩
def o842:=k <| co #[(z "__str__" 1370),(z "ObjectId.__str__" 1371),(cp 1372),(i0 476),(i0 1),(i0 0),(i0 0),(i0 3),(.ref 839),(.bool true),(i0 181),(.ref 840),.none,.none,.none,(.ref 841),(i0 1373),(i0 476),(cp 1374)]
def o843:=k <| fo "__str__" "ObjectId.__str__" (cls 57 5) [] .none .none .none (z "bson.objectid" 1295) none (.ref 842) .none
def o849:=k <| cq "__repr__" "ObjectId.__repr__" 1376 479 1 844 1380
def o850:=k <| fo "__repr__" "ObjectId.__repr__" (cls 57 6) [] .none .none .none (z "bson.objectid" 1295) none (.ref 849) .none
def o856:=k <| cq "__eq__" "ObjectId.__eq__" 1383 482 2 851 1388
def o857:=k <| fo "__eq__" "ObjectId.__eq__" (cls 57 7) [] .none .none .none (z "bson.objectid" 1295) none (.ref 856) .none
def o863:=k <| cq "__ne__" "ObjectId.__ne__" 1391 487 2 858 1396
def o864:=k <| fo "__ne__" "ObjectId.__ne__" (cls 57 8) [] .none .none .none (z "bson.objectid" 1295) none (.ref 863) .none
def o870:=k <| cq "__lt__" "ObjectId.__lt__" 1399 492 2 865 1404
def o871:=k <| fo "__lt__" "ObjectId.__lt__" (cls 57 9) [] .none .none .none (z "bson.objectid" 1295) none (.ref 870) .none
def o877:=k <| cq "__le__" "ObjectId.__le__" 1407 497 2 872 1412
def o878:=k <| fo "__le__" "ObjectId.__le__" (cls 57 10) [] .none .none .none (z "bson.objectid" 1295) none (.ref 877) .none
def o884:=k <| cq "__gt__" "ObjectId.__gt__" 1415 502 2 879 1420
def o885:=k <| fo "__gt__" "ObjectId.__gt__" (cls 57 11) [] .none .none .none (z "bson.objectid" 1295) none (.ref 884) .none
def o891:=k <| cq "__ge__" "ObjectId.__ge__" 1423 507 2 886 1428
def o892:=k <| fo "__ge__" "ObjectId.__ge__" (cls 57 12) [] .none .none .none (z "bson.objectid" 1295) none (.ref 891) .none
def o894 (P:Params):Obj:=⟨(.type "dict"),none,(.dict #[eS P "__module__" 1319 (z "bson.objectid" 1295),eS P "__firstlineno__" 1323 (.int 443 1322),eS P "_type_marker" 1325 (.int 7 1324),eS P "__init__" 1333 (.ref 812),eS P "is_valid" 1353 (.ref 821),eS P "binary" 1361 (.ref 830),eS P "generation_time" 1369 (.ref 838),eS P "__str__" 1375 (.ref 843),eS P "__repr__" 1382 (.ref 850),eS P "__eq__" 1390 (.ref 857),eS P "__ne__" 1398 (.ref 864),eS P "__lt__" 1406 (.ref 871),eS P "__le__" 1414 (.ref 878),eS P "__gt__" 1422 (.ref 885),eS P "__ge__" 1430 (.ref 892),eS P "__static_attributes__" 1432 (.ref 893),eS P "__dict__" 1434 (.ref 896),eS P "__weakref__" 1436 (.ref 897),eS P "__doc__" 1437 .none,eS P "__hash__" 1438 .none] 5),#[]⟩
def o895:=k <| ⟨(.type "type"),none,(.cls ⟨(S "ObjectId"),[(.type "object")],[(.ref 895),(.type "object")],894,(S "ObjectId"),true,[],[],false,none,false⟩),#[none,none,some (z "ObjectId" 1312),some (z "ObjectId" 1320),some (.builtin "object.__new__"),some (.bool true)]⟩
def o905:=k <| cq "str_flags_to_int" "str_flags_to_int" 1455 518 1 900 1460
def o906:=k <| fo1 "str_flags_to_int" (cell 65) (z "bson.regex" 1441) 905
def o914:=k <| ⟨(.type "tuple"),none,(.seq #[(.int 0 1477)] 0),#[]⟩
def o920:=k <| cq "__init__" "Regex.__init__" 1478 536 3 915 1484
def o921:=k <| fo "__init__" "Regex.__init__" (cls 66 1) [] (.ref 914) .none .none (z "bson.regex" 1441) none (.ref 920) .none
def o927:=k <| cq "__eq__" "Regex.__eq__" 1487 547 2 922 1492
def o928:=k <| fo "__eq__" "Regex.__eq__" (cls 66 2) [] .none .none .none (z "bson.regex" 1441) none (.ref 927) .none
def o934:=k <| cq "__ne__" "Regex.__ne__" 1495 553 2 929 1500
def o935:=k <| fo "__ne__" "Regex.__ne__" (cls 66 3) [] .none .none .none (z "bson.regex" 1441) none (.ref 934) .none
def o937 (P:Params):Obj:=⟨(.type "dict"),none,(.dict #[eS P "__module__" 1470 (z "bson.regex" 1441),eS P "__firstlineno__" 1474 (.int 533 1473),eS P "_type_marker" 1476 (.int 11 1475),eS P "__init__" 1486 (.ref 921),eS P "__eq__" 1494 (.ref 928),eS P "__ne__" 1502 (.ref 935),eS P "__static_attributes__" 1505 (.ref 936),eS P "__dict__" 1507 (.ref 939),eS P "__weakref__" 1509 (.ref 940),eS P "__doc__" 1510 .none,eS P "__hash__" 1511 .none] 5),#[]⟩
def o938:=k <| ⟨(.type "type"),none,(.cls ⟨(S "Regex"),[(.type "object")],[(.ref 938),(.type "object")],937,(S "Regex"),true,[],[],false,none,false⟩),#[none,none,some (z "Regex" 1463),some (z "Regex" 1471),some (.builtin "object.__new__"),some (.bool true)]⟩
def o955:=k <| cq "__init__" "Timestamp.__init__" 1532 560 3 950 1538
def o956:=k <| fo "__init__" "Timestamp.__init__" (cls 69 1) [] .none .none .none (z "bson.timestamp" 1514) none (.ref 955) .none
def o962:=k <| cq "time" "Timestamp.time" 1541 572 1 957 1545
def o963:=k <| fo "time" "Timestamp.time" (cls 69 2) [] .none .none .none (z "bson.timestamp" 1514) none (.ref 962) .none
def o964:=k <| ⟨(.type "property"),none,(.fields #[(.ref 963),.none,.none,.none,(z "time" 1548),(.bool false)]),#[]⟩
def o970:=k <| cq "inc" "Timestamp.inc" 1549 576 1 965 1553
def o971:=k <| fo "inc" "Timestamp.inc" (cls 69 3) [] .none .none .none (z "bson.timestamp" 1514) none (.ref 970) .none
def o972:=k <| ⟨(.type "property"),none,(.fields #[(.ref 971),.none,.none,.none,(z "inc" 1556),(.bool false)]),#[]⟩
def o978:=k <| cq "__eq__" "Timestamp.__eq__" 1557 580 2 973 1562
def o979:=k <| fo "__eq__" "Timestamp.__eq__" (cls 69 4) [] .none .none .none (z "bson.timestamp" 1514) none (.ref 978) .none
def o985:=k <| cq "__ne__" "Timestamp.__ne__" 1565 586 2 980 1570
def o986:=k <| fo "__ne__" "Timestamp.__ne__" (cls 69 5) [] .none .none .none (z "bson.timestamp" 1514) none (.ref 985) .none
def o992:=k <| cq "__lt__" "Timestamp.__lt__" 1573 589 2 987 1578
def o993:=k <| fo "__lt__" "Timestamp.__lt__" (cls 69 6) [] .none .none .none (z "bson.timestamp" 1514) none (.ref 992) .none
def o999:=k <| cq "__le__" "Timestamp.__le__" 1581 594 2 994 1586
def o1000:=k <| fo "__le__" "Timestamp.__le__" (cls 69 7) [] .none .none .none (z "bson.timestamp" 1514) none (.ref 999) .none
def o1006:=k <| cq "__gt__" "Timestamp.__gt__" 1589 599 2 1001 1594
def o1007:=k <| fo "__gt__" "Timestamp.__gt__" (cls 69 8) [] .none .none .none (z "bson.timestamp" 1514) none (.ref 1006) .none
def o1013:=k <| cq "__ge__" "Timestamp.__ge__" 1597 604 2 1008 1602
def o1014:=k <| fo "__ge__" "Timestamp.__ge__" (cls 69 9) [] .none .none .none (z "bson.timestamp" 1514) none (.ref 1013) .none
def o1016 (P:Params):Obj:=⟨(.type "dict"),none,(.dict #[eS P "__module__" 1525 (z "bson.timestamp" 1514),eS P "__firstlineno__" 1529 (.int 557 1528),eS P "_type_marker" 1531 (.int 17 1530),eS P "__init__" 1540 (.ref 956),eS P "time" 1548 (.ref 964),eS P "inc" 1556 (.ref 972),eS P "__eq__" 1564 (.ref 979),eS P "__ne__" 1572 (.ref 986),eS P "__lt__" 1580 (.ref 993),eS P "__le__" 1588 (.ref 1000),eS P "__gt__" 1596 (.ref 1007),eS P "__ge__" 1604 (.ref 1014),eS P "__static_attributes__" 1607 (.ref 1015),eS P "__dict__" 1609 (.ref 1018),eS P "__weakref__" 1611 (.ref 1019),eS P "__doc__" 1612 .none,eS P "__hash__" 1613 .none] 5),#[]⟩
def o1017:=k <| ⟨(.type "type"),none,(.cls ⟨(S "Timestamp"),[(.type "object")],[(.ref 1017),(.type "object")],1016,(S "Timestamp"),true,[],[],false,none,false⟩),#[none,none,some (z "Timestamp" 1518),some (z "Timestamp" 1526),some (.builtin "object.__new__"),some (.bool true)]⟩
def o1027:=k <| cq "_unpack" "_unpack" 1618 609 4 1022 1625
def o1028:=k <| fo1 "_unpack" (cell 71) (z "bson" 1616) 1027
def o1034:=k <| cq "_UNPACK_INT_FROM" "_UNPACK_INT_FROM" 1628 613 2 1029 1633
def o1035:=k <| fo1 "_UNPACK_INT_FROM" (cell 72) (z "bson" 1616) 1034
def o1041:=k <| cq "_UNPACK_LENGTH_SUBTYPE_FROM" "_UNPACK_LENGTH_SUBTYPE_FROM" 1636 615 2 1036 1641
def o1042:=k <| fo1 "_UNPACK_LENGTH_SUBTYPE_FROM" (cell 73) (z "bson" 1616) 1041
def o1048:=k <| cq "_UNPACK_LONG_FROM" "_UNPACK_LONG_FROM" 1644 619 2 1043 1649
def o1049:=k <| fo1 "_UNPACK_LONG_FROM" (cell 74) (z "bson" 1616) 1048
def o1055:=k <| cq "_UNPACK_TIMESTAMP_FROM" "_UNPACK_TIMESTAMP_FROM" 1652 621 2 1050 1657
def o1056:=k <| fo1 "_UNPACK_TIMESTAMP_FROM" (cell 75) (z "bson" 1616) 1055
def o1062:=k <| cq "_utf_8_decode" "_utf_8_decode" 1660 625 3 1057 1666
def o1063:=k <| fo1 "_utf_8_decode" (cell 76) (z "bson" 1616) 1062
def o1069:=k <| cq "_utf_8_encode" "_utf_8_encode" 1669 627 1 1064 1673
def o1070:=k <| fo1 "_utf_8_encode" (cell 77) (z "bson" 1616) 1069
def o1076:=k <| cq "_index_nul" "_index_nul" 1676 629 2 1071 1682
def o1077:=k <| fo1 "_index_nul" (cell 78) (z "bson" 1616) 1076
def o1083:=k <| cq "get_data_and_view" "get_data_and_view" 1685 634 1 1078 1689
def o1084:=k <| fo1 "get_data_and_view" (cell 79) (z "bson" 1616) 1083
def o1090:=k <| cq "_raise_unknown_type" "_raise_unknown_type" 1692 636 2 1085 1697
def o1091:=k <| fo1 "_raise_unknown_type" (cell 80) (z "bson" 1616) 1090
def o1097:=k <| cq "_get_int" "_get_int" 1700 638 6 1092 1709
def o1098:=k <| fo1 "_get_int" (cell 81) (z "bson" 1616) 1097
def o1104:=k <| cq "_get_c_string" "_get_c_string" 1712 640 4 1099 1720
def o1105:=k <| fo1 "_get_c_string" (cell 82) (z "bson" 1616) 1104
def o1111:=k <| cq "_get_string" "_get_string" 1723 643 6 1106 1734
def o1112:=k <| fo1 "_get_string" (cell 83) (z "bson" 1616) 1111
def o1118:=k <| cq "_get_object_size" "_get_object_size" 1737 652 3 1113 1746
def o1119:=k <| fo1 "_get_object_size" (cell 84) (z "bson" 1616) 1118
def o1125:=k <| cq "_get_object" "_get_object" 1749 665 6 1120 1761
def o1126:=k <| fo1 "_get_object" (cell 85) (z "bson" 1616) 1125
def o1132:=k <| cq "_get_array" "_get_array" 1764 672 6 1127 1778
def o1133:=k <| fo1 "_get_array" (cell 86) (z "bson" 1616) 1132
def o1139:=k <| cq "_get_binary" "_get_binary" 1781 691 6 1134 1797
def o1140:=k <| fo1 "_get_binary" (cell 87) (z "bson" 1616) 1139
def o1146:=k <| cq "_get_oid" "_get_oid" 1800 714 6 1141 1810
def o1147:=k <| fo1 "_get_oid" (cell 88) (z "bson" 1616) 1146
def o1153:=k <| cq "_get_boolean" "_get_boolean" 1813 717 6 1148 1824
def o1154:=k <| fo1 "_get_boolean" (cell 89) (z "bson" 1616) 1153
def o1160:=k <| cq "_get_date" "_get_date" 1827 725 6 1155 1836
def o1161:=k <| fo1 "_get_date" (cell 90) (z "bson" 1616) 1160
def o1167:=k <| cq "_get_code" "_get_code" 1839 727 6 1162 1849
def o1168:=k <| fo1 "_get_code" (cell 91) (z "bson" 1616) 1167
def o1174:=k <| cq "_get_code_w_scope" "_get_code_w_scope" 1852 730 6 1169 1864
def o1175:=k <| fo1 "_get_code_w_scope" (cell 92) (z "bson" 1616) 1174
def o1181:=k <| cq "_get_regex" "_get_regex" 1867 737 6 1176 1879
def o1182:=k <| fo1 "_get_regex" (cell 93) (z "bson" 1616) 1181
def o1188:=k <| cq "_get_ref" "_get_ref" 1882 742 6 1183 1893
def o1189:=k <| fo1 "_get_ref" (cell 94) (z "bson" 1616) 1188
def o1195:=k <| cq "_get_timestamp" "_get_timestamp" 1896 746 6 1190 1907
def o1196:=k <| fo1 "_get_timestamp" (cell 95) (z "bson" 1616) 1195
def o1202:=k <| cq "_get_int64" "_get_int64" 1910 749 6 1197 1919
def o1203:=k <| fo1 "_get_int64" (cell 96) (z "bson" 1616) 1202
def o1209:=k <| cq "_get_decimal128" "_get_decimal128" 1922 751 6 1204 1932
def o1210:=k <| fo1 "_get_decimal128" (cell 97) (z "bson" 1616) 1209
def o1216:=k <| cq "_get_element" "_get_element" 1935 754 7 1211 1945
def o1217:=k <| fo1 "_get_element" (cell 98) (z "bson" 1616) 1216
def o1223:=k <| cq "_element_to_dict" "_element_to_dict" 1948 796 5 1218 1959
def o1224:=k <| fo1 "_element_to_dict" (cell 99) (z "bson" 1616) 1223
def o1230:=k <| cq "_elements_to_dict" "_elements_to_dict" 1962 805 5 1225 1974
def o1231:=k <| fo1 "_elements_to_dict" (cell 100) (z "bson" 1616) 1230
def o1237:=k <| cq "_bson_to_dict" "_bson_to_dict" 1977 814 2 1232 1986
def o1238:=k <| fo1 "_bson_to_dict" (cell 101) (z "bson" 1616) 1237
def o1244:=k <| cq "_PACK_INT" "_PACK_INT" 1989 823 1 1239 1993
def o1245:=k <| fo1 "_PACK_INT" (cell 102) (z "bson" 1616) 1244
def o1251:=k <| cq "_PACK_LENGTH_SUBTYPE" "_PACK_LENGTH_SUBTYPE" 1996 825 2 1246 2001
def o1252:=k <| fo1 "_PACK_LENGTH_SUBTYPE" (cell 103) (z "bson" 1616) 1251
def o1258:=k <| cq "_PACK_LONG" "_PACK_LONG" 2004 827 1 1253 2008
def o1259:=k <| fo1 "_PACK_LONG" (cell 104) (z "bson" 1616) 1258
def o1265:=k <| cq "_PACK_TIMESTAMP" "_PACK_TIMESTAMP" 2011 831 2 1260 2016
def o1266:=k <| fo1 "_PACK_TIMESTAMP" (cell 105) (z "bson" 1616) 1265
def o1272:=k <| cq "_make_c_string_check" "_make_c_string_check" 2019 833 1 1267 2023
def o1273:=k <| fo1 "_make_c_string_check" (cell 106) (z "bson" 1616) 1272
def o1279:=k <| cq "_make_c_string" "_make_c_string" 2026 846 1 1274 2030
def o1280:=k <| fo1 "_make_c_string" (cell 107) (z "bson" 1616) 1279
def o1286:=k <| cq "_make_name" "_make_name" 2033 855 1 1281 2037
def o1287:=k <| fo1 "_make_name" (cell 108) (z "bson" 1616) 1286
def o1293:=k <| cq "_encode_bytes" "_encode_bytes" 2040 859 4 1288 2047
def o1294:=k <| fo1 "_encode_bytes" (cell 109) (z "bson" 1616) 1293
def o1298:=k <| co #[(z "_encode_mapping" 2050),(z "_encode_mapping" 2051),(cp 2052),(i0 861),(i0 4),(i0 0),(i0 0),(i0 3),(.ref 1295),(.bool true),(i0 181),(.ref 1296),.none,.none,.none,(.ref 1297),(i0 2053),(i0 861),(cp 2054)]
def o1299:=k <| fo1 "_encode_mapping" (cell 110) (z "bson" 1616) 1298
def o1305:=k <| cq "_encode_dbref" "_encode_dbref" 2056 864 4 1300 2067
def o1306:=k <| fo1 "_encode_dbref" (cell 111) (z "bson" 1616) 1305
def o1310:=k <| co #[(z "_encode_list" 2070),(z "_encode_list" 2071),(cp 2072),(i0 876),(i0 4),(i0 0),(i0 0),(i0 3),(.ref 1307),(.bool true),(i0 181),(.ref 1308),.none,.none,.none,(.ref 1309),(i0 2073),(i0 876),(cp 2074)]
def o1311:=k <| fo1 "_encode_list" (cell 112) (z "bson" 1616) 1310
def o1317:=k <| cq "_encode_text" "_encode_text" 2076 879 4 1312 2084
def o1318:=k <| fo1 "_encode_text" (cell 113) (z "bson" 1616) 1317
def o1324:=k <| cq "_encode_binary" "_encode_binary" 2087 882 4 1319 2096
def o1325:=k <| fo1 "_encode_binary" (cell 114) (z "bson" 1616) 1324
def o1331:=k <| cq "_encode_uuid" "_encode_uuid" 2099 888 4 1326 2108
def o1332:=k <| fo1 "_encode_uuid" (cell 115) (z "bson" 1616) 1331
def o1338:=k <| cq "_encode_objectid" "_encode_objectid" 2111 892 4 1333 2118
def o1339:=k <| fo1 "_encode_objectid" (cell 116) (z "bson" 1616) 1338
def o1345:=k <| cq "_encode_bool" "_encode_bool" 2121 894 4 1340 2128
def o1346:=k <| fo1 "_encode_bool" (cell 117) (z "bson" 1616) 1345
def o1352:=k <| cq "_encode_datetime_ms" "_encode_datetime_ms" 2131 896 4 1347 2139
def o1353:=k <| fo1 "_encode_datetime_ms" (cell 118) (z "bson" 1616) 1352
def o1359:=k <| cq "_encode_none" "_encode_none" 2142 899 4 1354 2149
def o1360:=k <| fo1 "_encode_none" (cell 119) (z "bson" 1616) 1359
def o1366:=k <| cq "_encode_regex" "_encode_regex" 2152 901 4 1361 2161
def o1367:=k <| fo1 "_encode_regex" (cell 120) (z "bson" 1616) 1366
def o1373:=k <| cq "_encode_code" "_encode_code" 2164 923 4 1368 2175
def o1374:=k <| fo1 "_encode_code" (cell 121) (z "bson" 1616) 1373
def o1380:=k <| cq "_encode_int" "_encode_int" 2178 931 4 1375 2185
def o1381:=k <| fo1 "_encode_int" (cell 122) (z "bson" 1616) 1380
def o1387:=k <| cq "_encode_timestamp" "_encode_timestamp" 2188 939 4 1382 2195
def o1388:=k <| fo1 "_encode_timestamp" (cell 123) (z "bson" 1616) 1387
def o1394:=k <| cq "_encode_long" "_encode_long" 2198 941 4 1389 2205
def o1395:=k <| fo1 "_encode_long" (cell 124) (z "bson" 1616) 1394
def o1401:=k <| cq "_encode_decimal128" "_encode_decimal128" 2208 946 4 1396 2215
def o1402:=k <| fo1 "_encode_decimal128" (cell 125) (z "bson" 1616) 1401
def o1408:=k <| cq "_encode_minkey" "_encode_minkey" 2218 948 4 1403 2225
def o1409:=k <| fo1 "_encode_minkey" (cell 126) (z "bson" 1616) 1408
def o1415:=k <| cq "_encode_maxkey" "_encode_maxkey" 2228 950 4 1410 2235
def o1416:=k <| fo1 "_encode_maxkey" (cell 127) (z "bson" 1616) 1415
def o1417:=k <| ⟨(.type "tuple"),none,(.seq #[(.bool false)] 0),#[]⟩
def o1423:=k <| cq "_name_value_to_bson" "_name_value_to_bson" 2238 952 5 1418 2248
def o1424:=k <| fo "_name_value_to_bson" "_name_value_to_bson" (cell 128) [] (.ref 1417) .none .none (z "bson" 1616) none (.ref 1423) .none
def o1430:=k <| cq "_element_to_bson" "_element_to_bson" 2251 1001 4 1425 2259
def o1431:=k <| fo1 "_element_to_bson" (cell 129) (z "bson" 1616) 1430
def o1432:=k <| ⟨(.type "tuple"),none,(.seq #[(.bool true)] 0),#[]⟩
def o1438:=k <| cq "_dict_to_bson" "_dict_to_bson" 2262 1011 4 1433 2274
def o1439:=k <| fo "_dict_to_bson" "_dict_to_bson" (cell 130) [] (.ref 1432) .none .none (z "bson" 1616) none (.ref 1438) .none
def o1440:=k <| ⟨(.type "tuple"),none,(.seq #[(.bool false),(.ref 262)] 0),#[]⟩
def o1446:=k <| cq "encode" "encode" 2277 1025 3 1441 2283
def o1447:=k <| fo "encode" "encode" (cell 131) [] (.ref 1440) .none .none (z "bson" 1616) none (.ref 1446) .none
def o1448:=k <| ⟨(.type "tuple"),none,(.seq #[.none] 0),#[]⟩
def o1454:=k <| cq "decode" "decode" 2286 1029 2 1449 2292
def o1455:=k <| fo "decode" "decode" (cell 132) [] (.ref 1448) .none .none (z "bson" 1616) none (.ref 1454) .none
def o1461:=k <| cq "_decode_all" "_decode_all" 2295 1034 2 1456 2307
def o1462:=k <| fo1 "_decode_all" (cell 133) (z "bson" 1616) 1461
def o1463:=k <| ⟨(.type "tuple"),none,(.seq #[.none] 0),#[]⟩
def o1469:=k <| cq "decode_all" "decode_all" 2310 1058 2 1464 2315
def o1470:=k <| fo "decode_all" "decode_all" (cell 134) [] (.ref 1463) .none .none (z "bson" 1616) none (.ref 1469) .none
def o1471:=k <| ⟨(.type "tuple"),none,(.seq #[.none] 0),#[]⟩
def o1477:=k <| co #[(z "decode_iter" 2318),(z "decode_iter" 2319),(cp 2320),(i0 1064),(i0 2),(i0 0),(i0 0),(i0 35),(.ref 1472),(.bool true),(i0 181),(.ref 1473),.none,(.ref 1474),(.ref 1475),(.ref 1476),(i0 2328),(i0 1064),(cp 2329)]
def o1478:=k <| fo "decode_iter" "decode_iter" (cell 135) [] (.ref 1471) .none .none (z "bson" 1616) none (.ref 1477) .none
def o1482:=k <| co #[(z "_law_size" 2333),(z "_law_size" 2334),(cp 2335),(i0 1076),(i0 2),(i0 0),(i0 0),(i0 3),(.ref 1479),(.bool true),(i0 181),(.ref 1480),.none,.none,.none,(.ref 1481),(i0 2336),(i0 1076),(cp 2337)]
def o1483:=k <| fo1 "_law_size" (cell 137) (z "law_ag0004_03" 2331) 1482
def o1489:=k <| cq "_law_borders" "_law_borders" 2339 1078 1 1484 2344
def o1490:=k <| fo1 "_law_borders" (cell 138) (z "law_ag0004_03" 2331) 1489
def o1494:=k <| co #[(z "_law_le" 2347),(z "_law_le" 2348),(cp 2349),(i0 1083),(i0 2),(i0 0),(i0 0),(i0 3),(.ref 1491),(.bool true),(i0 181),(.ref 1492),.none,.none,.none,(.ref 1493),(i0 2350),(i0 1083),(cp 2351)]
def o1495:=k <| fo1 "_law_le" (cell 139) (z "law_ag0004_03" 2331) 1494
def o1501:=k <| cq "_law_held" "_law_held" 2353 1085 1 1496 2357
def o1502:=k <| fo1 "_law_held" (cell 140) (z "law_ag0004_03" 2331) 1501
def o1508:=k <| cq "_law_made" "_law_made" 2360 1087 1 1503 2370
def o1509:=k <| fo1 "_law_made" (cell 141) (z "law_ag0004_03" 2331) 1508
def o1513:=k <| co #[(z "_law_alike" 2373),(z "_law_alike" 2374),(cp 2375),(i0 1103),(i0 2),(i0 0),(i0 0),(i0 3),(.ref 1510),(.bool true),(i0 181),(.ref 1511),.none,.none,.none,(.ref 1512),(i0 2376),(i0 1103),(cp 2377)]
def o1514:=k <| fo1 "_law_alike" (cell 142) (z "law_ag0004_03" 2331) 1513
def o1518:=k <| co #[(z "law" 2379),(z "law" 2380),(cp 2381),(i0 1109),(i0 1),(i0 0),(i0 0),(i0 3),(.ref 1515),(.bool true),(i0 181),(.ref 1516),.none,.none,.none,(.ref 1517),(i0 2382),(i0 1109),(cp 2383)]
def o1519:=k <| fo1 "law" (cell 143) (z "law_ag0004_03" 2331) 1518
noncomputable def tree:OT:=(.br 790 (.br 377 (.br 186 (.br 107 (.br 67 (.br 42 (.br 29 (.br 20 (.leaf 13 o13) (.br 21 (.leaf 20 o20) (.leaf 21 o21))) (.br 35 (.leaf 29 o29) (.br 36 (.leaf 35 o35) (.leaf 36 o36)))) (.br 46 (.br 43 (.leaf 42 o42) (.br 45 (.leaf 43 o43) (.leaf 45 o45))) (.br 57 (.br 56 (.leaf 46 o46) (.leaf 56 o56)) (.br 66 (.leaf 57 o57) (.leaf 66 o66))))) (.br 90 (.br 74 (.br 72 (.leaf 67 o67) (.br 73 (.leaf 72 o72) (.leaf 73 o73))) (.br 88 (.br 82 (.leaf 74 o74) (.leaf 82 o82)) (.br 89 (.leaf 88 o88) (.leaf 89 o89)))) (.br 98 (.br 96 (.leaf 90 o90) (.br 97 (.leaf 96 o96) (.leaf 97 o97))) (.br 100 (.br 99 (.leaf 98 o98) (.leaf 99 o99)) (.br 101 (.leaf 100 o100) (.leaf 101 o101)))))) (.br 135 (.br 118 (.br 115 (.br 108 (.leaf 107 o107) (.br 109 (.leaf 108 o108) (.leaf 109 o109))) (.br 116 (.leaf 115 o115) (.br 117 (.leaf 116 o116) (.leaf 117 o117)))) (.br 126 (.br 119 (.leaf 118 o118) (.br 120 (.leaf 119 o119) (.leaf 120 o120))) (.br 133 (.br 127 (.leaf 126 o126) (.leaf 127 o127)) (.br 134 (.leaf 133 o133) (.leaf 134 o134))))) (.br 164 (.br 148 (.br 141 (.leaf 135 o135) (.br 142 (.leaf 141 o141) (.leaf 142 o142))) (.br 151 (.br 149 (.leaf 148 o148) (.leaf 149 o149)) (.br 152 (.leaf 151 o151) (.leaf 152 o152)))) (.br 177 (.br 170 (.leaf 164 o164) (.br 171 (.leaf 170 o170) (.leaf 171 o171))) (.br 179 (.br 178 (.leaf 177 o177) (.leaf 178 o178)) (.br 185 (.leaf 179 o179) (.leaf 185 o185))))))) (.br 282 (.br 231 (.br 214 (.br 195 (.br 192 (.leaf 186 o186) (.br 193 (.leaf 192 o192) (.leaf 193 o193))) (.br 196 (.leaf 195 o195) (.br 208 (.leaf 196 o196) (.leaf 208 o208)))) (.br 222 (.br 215 (.leaf 214 o214) (.br 221 (.leaf 215 o215) (.leaf 221 o221))) (.br 229 (.br 223 (.leaf 222 o222) (.leaf 223 o223)) (.br 230 (.leaf 229 o229) (.leaf 230 o230))))) (.br 256 (.br 246 (.br 233 (.leaf 231 o231) (.br 234 (.leaf 233 o233) (.leaf 234 o234))) (.br 253 (.br 252 (.leaf 246 o246) (.leaf 252 o252)) (.br 255 (.leaf 253 o253) (.leaf 255 o255)))) (.br 264 (.br 261 (.leaf 256 o256) (.br 262 (.leaf 261 o261) (.leaf 262 o262))) (.br 268 (.br 265 (.leaf 264 o264) (.leaf 265 o265)) (.br 281 (.leaf 268 o268) (.leaf 281 o281)))))) (.br 331 (.br 309 (.br 295 (.br 288 (.leaf 282 o282) (.br 289 (.leaf 288 o288) (.leaf 289 o289))) (.br 302 (.br 296 (.leaf 295 o295) (.leaf 296 o296)) (.br 303 (.leaf 302 o302) (.leaf 303 o303)))) (.br 317 (.br 310 (.leaf 309 o309) (.br 316 (.leaf 310 o310) (.leaf 316 o316))) (.br 324 (.br 323 (.leaf 317 o317) (.leaf 323 o323)) (.br 330 (.leaf 324 o324) (.leaf 330 o330))))) (.br 360 (.br 346 (.br 333 (.leaf 331 o331) (.br 334 (.leaf 333 o333) (.leaf 334 o334))) (.br 353 (.br 352 (.leaf 346 o346) (.leaf 352 o352)) (.br 359 (.leaf 353 o353) (.leaf 359 o359)))) (.br 368 (.br 361 (.leaf 360 o360) (.br 367 (.leaf 361 o361) (.leaf 367 o367))) (.br 375 (.br 369 (.leaf 368 o368) (.leaf 369 o369)) (.br 376 (.leaf 375 o375) (.leaf 376 o376)))))))) (.br 549 (.br 476 (.br 432 (.br 394 (.br 390 (.br 383 (.leaf 377 o377) (.br 384 (.leaf 383 o383) (.leaf 384 o384))) (.br 391 (.leaf 390 o390) (.br 393 (.leaf 391 o391) (.leaf 393 o393)))) (.br 418 (.br 411 (.leaf 394 o394) (.br 412 (.leaf 411 o411) (.leaf 412 o412))) (.br 425 (.br 419 (.leaf 418 o418) (.leaf 419 o419)) (.br 426 (.leaf 425 o425) (.leaf 426 o426))))) (.br 454 (.br 440 (.br 433 (.leaf 432 o432) (.br 439 (.leaf 433 o433) (.leaf 439 o439))) (.br 447 (.br 446 (.leaf 440 o440) (.leaf 446 o446)) (.br 453 (.leaf 447 o447) (.leaf 453 o453)))) (.br 467 (.br 456 (.leaf 454 o454) (.br 457 (.leaf 456 o456) (.leaf 457 o457))) (.br 474 (.br 468 (.leaf 467 o467) (.leaf 468 o468)) (.br 475 (.leaf 474 o474) (.leaf 475 o475)))))) (.br 514 (.br 487 (.br 479 (.br 477 (.leaf 476 o476) (.br 478 (.leaf 477 o477) (.leaf 478 o478))) (.br 480 (.leaf 479 o479) (.br 481 (.leaf 480 o480) (.leaf 481 o481)))) (.br 493 (.br 488 (.leaf 487 o487) (.br 492 (.leaf 488 o488) (.leaf 492 o492))) (.br 507 (.br 506 (.leaf 493 o493) (.leaf 506 o506)) (.br 513 (.leaf 507 o507) (.leaf 513 o513))))) (.br 531 (.br 522 (.br 520 (.leaf 514 o514) (.br 521 (.leaf 520 o520) (.leaf 521 o521))) (.br 524 (.br 523 (.leaf 522 o522) (.leaf 523 o523)) (.br 530 (.leaf 524 o524) (.leaf 530 o530)))) (.br 539 (.br 532 (.leaf 531 o531) (.br 538 (.leaf 532 o532) (.leaf 538 o538))) (.br 546 (.br 545 (.leaf 539 o539) (.leaf 545 o545)) (.br 548 (.leaf 546 o546) (.leaf 548 o548))))))) (.br 687 (.br 617 (.br 594 (.br 576 (.br 562 (.leaf 549 o549) (.br 575 (.leaf 562 o562) (.leaf 575 o575))) (.br 587 (.leaf 576 o576) (.br 588 (.leaf 587 o587) (.leaf 588 o588)))) (.br 607 (.br 599 (.leaf 594 o594) (.br 606 (.leaf 599 o599) (.leaf 606 o606))) (.br 614 (.br 613 (.leaf 607 o607) (.leaf 613 o613)) (.br 615 (.leaf 614 o614) (.leaf 615 o615))))) (.br 653 (.br 630 (.br 618 (.leaf 617 o617) (.br 629 (.leaf 618 o618) (.leaf 629 o629))) (.br 646 (.br 645 (.leaf 630 o630) (.leaf 645 o645)) (.br 652 (.leaf 646 o646) (.leaf 652 o652)))) (.br 673 (.br 655 (.leaf 653 o653) (.br 656 (.leaf 655 o655) (.leaf 656 o656))) (.br 680 (.br 674 (.leaf 673 o673) (.leaf 674 o674)) (.br 681 (.leaf 680 o680) (.leaf 681 o681)))))) (.br 743 (.br 709 (.br 695 (.br 688 (.leaf 687 o687) (.br 694 (.leaf 688 o688) (.leaf 694 o694))) (.br 702 (.br 701 (.leaf 695 o695) (.leaf 701 o701)) (.br 708 (.leaf 702 o702) (.leaf 708 o708)))) (.br 718 (.br 715 (.leaf 709 o709) (.br 716 (.leaf 715 o715) (.leaf 716 o716))) (.br 736 (.br 719 (.leaf 718 o718) (.leaf 719 o719)) (.br 737 (.leaf 736 o736) (.leaf 737 o737))))) (.br 765 (.br 751 (.br 744 (.leaf 743 o743) (.br 750 (.leaf 744 o744) (.leaf 750 o750))) (.br 758 (.br 757 (.leaf 751 o751) (.leaf 757 o757)) (.br 764 (.leaf 758 o758) (.leaf 764 o764)))) (.br 778 (.br 771 (.leaf 765 o765) (.br 772 (.leaf 771 o771) (.leaf 772 o772))) (.br 781 (.br 779 (.leaf 778 o778) (.leaf 779 o779)) (.br 782 (.leaf 781 o781) (.leaf 782 o782))))))))) (.br 1168 (.br 978 (.br 877 (.br 830 (.br 818 (.br 798 (.br 791 (.leaf 790 o790) (.br 797 (.leaf 791 o791) (.leaf 797 o797))) (.br 811 (.leaf 798 o798) (.br 812 (.leaf 811 o811) (.leaf 812 o812)))) (.br 821 (.br 819 (.leaf 818 o818) (.br 820 (.leaf 819 o819) (.leaf 820 o820))) (.br 828 (.br 822 (.leaf 821 o821) (.leaf 822 o822)) (.br 829 (.leaf 828 o828) (.leaf 829 o829))))) (.br 850 (.br 838 (.br 836 (.leaf 830 o830) (.br 837 (.leaf 836 o836) (.leaf 837 o837))) (.br 843 (.br 842 (.leaf 838 o838) (.leaf 842 o842)) (.br 849 (.leaf 843 o843) (.leaf 849 o849)))) (.br 863 (.br 856 (.leaf 850 o850) (.br 857 (.leaf 856 o856) (.leaf 857 o857))) (.br 870 (.br 864 (.leaf 863 o863) (.leaf 864 o864)) (.br 871 (.leaf 870 o870) (.leaf 871 o871)))))) (.br 927 (.br 894 (.br 885 (.br 878 (.leaf 877 o877) (.br 884 (.leaf 878 o878) (.leaf 884 o884))) (.br 891 (.leaf 885 o885) (.br 892 (.leaf 891 o891) (.leaf 892 o892)))) (.br 906 (.br 895 (.leaf 894 o894) (.br 905 (.leaf 895 o895) (.leaf 905 o905))) (.br 920 (.br 914 (.leaf 906 o906) (.leaf 914 o914)) (.br 921 (.leaf 920 o920) (.leaf 921 o921))))) (.br 956 (.br 935 (.br 928 (.leaf 927 o927) (.br 934 (.leaf 928 o928) (.leaf 934 o934))) (.br 938 (.br 937 (.leaf 935 o935) (.leaf 937 o937)) (.br 955 (.leaf 938 o938) (.leaf 955 o955)))) (.br 964 (.br 962 (.leaf 956 o956) (.br 963 (.leaf 962 o962) (.leaf 963 o963))) (.br 971 (.br 970 (.leaf 964 o964) (.leaf 970 o970)) (.br 972 (.leaf 971 o971) (.leaf 972 o972))))))) (.br 1070 (.br 1017 (.br 999 (.br 986 (.br 979 (.leaf 978 o978) (.br 985 (.leaf 979 o979) (.leaf 985 o985))) (.br 992 (.leaf 986 o986) (.br 993 (.leaf 992 o992) (.leaf 993 o993)))) (.br 1007 (.br 1000 (.leaf 999 o999) (.br 1006 (.leaf 1000 o1000) (.leaf 1006 o1006))) (.br 1014 (.br 1013 (.leaf 1007 o1007) (.leaf 1013 o1013)) (.br 1016 (.leaf 1014 o1014) (.leaf 1016 o1016))))) (.br 1048 (.br 1034 (.br 1027 (.leaf 1017 o1017) (.br 1028 (.leaf 1027 o1027) (.leaf 1028 o1028))) (.br 1041 (.br 1035 (.leaf 1034 o1034) (.leaf 1035 o1035)) (.br 1042 (.leaf 1041 o1041) (.leaf 1042 o1042)))) (.br 1056 (.br 1049 (.leaf 1048 o1048) (.br 1055 (.leaf 1049 o1049) (.leaf 1055 o1055))) (.br 1063 (.br 1062 (.leaf 1056 o1056) (.leaf 1062 o1062)) (.br 1069 (.leaf 1063 o1063) (.leaf 1069 o1069)))))) (.br 1119 (.br 1097 (.br 1083 (.br 1076 (.leaf 1070 o1070) (.br 1077 (.leaf 1076 o1076) (.leaf 1077 o1077))) (.br 1090 (.br 1084 (.leaf 1083 o1083) (.leaf 1084 o1084)) (.br 1091 (.leaf 1090 o1090) (.leaf 1091 o1091)))) (.br 1105 (.br 1098 (.leaf 1097 o1097) (.br 1104 (.leaf 1098 o1098) (.leaf 1104 o1104))) (.br 1112 (.br 1111 (.leaf 1105 o1105) (.leaf 1111 o1111)) (.br 1118 (.leaf 1112 o1112) (.leaf 1118 o1118))))) (.br 1146 (.br 1132 (.br 1125 (.leaf 1119 o1119) (.br 1126 (.leaf 1125 o1125) (.leaf 1126 o1126))) (.br 1139 (.br 1133 (.leaf 1132 o1132) (.leaf 1133 o1133)) (.br 1140 (.leaf 1139 o1139) (.leaf 1140 o1140)))) (.br 1154 (.br 1147 (.leaf 1146 o1146) (.br 1153 (.leaf 1147 o1147) (.leaf 1153 o1153))) (.br 1161 (.br 1160 (.leaf 1154 o1154) (.leaf 1160 o1160)) (.br 1167 (.leaf 1161 o1161) (.leaf 1167 o1167)))))))) (.br 1353 (.br 1265 (.br 1216 (.br 1189 (.br 1181 (.br 1174 (.leaf 1168 o1168) (.br 1175 (.leaf 1174 o1174) (.leaf 1175 o1175))) (.br 1182 (.leaf 1181 o1181) (.br 1188 (.leaf 1182 o1182) (.leaf 1188 o1188)))) (.br 1202 (.br 1195 (.leaf 1189 o1189) (.br 1196 (.leaf 1195 o1195) (.leaf 1196 o1196))) (.br 1209 (.br 1203 (.leaf 1202 o1202) (.leaf 1203 o1203)) (.br 1210 (.leaf 1209 o1209) (.leaf 1210 o1210))))) (.br 1238 (.br 1224 (.br 1217 (.leaf 1216 o1216) (.br 1223 (.leaf 1217 o1217) (.leaf 1223 o1223))) (.br 1231 (.br 1230 (.leaf 1224 o1224) (.leaf 1230 o1230)) (.br 1237 (.leaf 1231 o1231) (.leaf 1237 o1237)))) (.br 1251 (.br 1244 (.leaf 1238 o1238) (.br 1245 (.leaf 1244 o1244) (.leaf 1245 o1245))) (.br 1258 (.br 1252 (.leaf 1251 o1251) (.leaf 1252 o1252)) (.br 1259 (.leaf 1258 o1258) (.leaf 1259 o1259)))))) (.br 1306 (.br 1286 (.br 1273 (.br 1266 (.leaf 1265 o1265) (.br 1272 (.leaf 1266 o1266) (.leaf 1272 o1272))) (.br 1279 (.leaf 1273 o1273) (.br 1280 (.leaf 1279 o1279) (.leaf 1280 o1280)))) (.br 1294 (.br 1287 (.leaf 1286 o1286) (.br 1293 (.leaf 1287 o1287) (.leaf 1293 o1293))) (.br 1299 (.br 1298 (.leaf 1294 o1294) (.leaf 1298 o1298)) (.br 1305 (.leaf 1299 o1299) (.leaf 1305 o1305))))) (.br 1331 (.br 1317 (.br 1310 (.leaf 1306 o1306) (.br 1311 (.leaf 1310 o1310) (.leaf 1311 o1311))) (.br 1324 (.br 1318 (.leaf 1317 o1317) (.leaf 1318 o1318)) (.br 1325 (.leaf 1324 o1324) (.leaf 1325 o1325)))) (.br 1339 (.br 1332 (.leaf 1331 o1331) (.br 1338 (.leaf 1332 o1332) (.leaf 1338 o1338))) (.br 1346 (.br 1345 (.leaf 1339 o1339) (.leaf 1345 o1345)) (.br 1352 (.leaf 1346 o1346) (.leaf 1352 o1352))))))) (.br 1440 (.br 1401 (.br 1374 (.br 1366 (.br 1359 (.leaf 1353 o1353) (.br 1360 (.leaf 1359 o1359) (.leaf 1360 o1360))) (.br 1367 (.leaf 1366 o1366) (.br 1373 (.leaf 1367 o1367) (.leaf 1373 o1373)))) (.br 1387 (.br 1380 (.leaf 1374 o1374) (.br 1381 (.leaf 1380 o1380) (.leaf 1381 o1381))) (.br 1394 (.br 1388 (.leaf 1387 o1387) (.leaf 1388 o1388)) (.br 1395 (.leaf 1394 o1394) (.leaf 1395 o1395))))) (.br 1423 (.br 1409 (.br 1402 (.leaf 1401 o1401) (.br 1408 (.leaf 1402 o1402) (.leaf 1408 o1408))) (.br 1416 (.br 1415 (.leaf 1409 o1409) (.leaf 1415 o1415)) (.br 1417 (.leaf 1416 o1416) (.leaf 1417 o1417)))) (.br 1431 (.br 1424 (.leaf 1423 o1423) (.br 1430 (.leaf 1424 o1424) (.leaf 1430 o1430))) (.br 1438 (.br 1432 (.leaf 1431 o1431) (.leaf 1432 o1432)) (.br 1439 (.leaf 1438 o1438) (.leaf 1439 o1439)))))) (.br 1482 (.br 1462 (.br 1448 (.br 1446 (.leaf 1440 o1440) (.br 1447 (.leaf 1446 o1446) (.leaf 1447 o1447))) (.br 1455 (.br 1454 (.leaf 1448 o1448) (.leaf 1454 o1454)) (.br 1461 (.leaf 1455 o1455) (.leaf 1461 o1461)))) (.br 1470 (.br 1463 (.leaf 1462 o1462) (.br 1469 (.leaf 1463 o1463) (.leaf 1469 o1469))) (.br 1477 (.br 1471 (.leaf 1470 o1470) (.leaf 1471 o1471)) (.br 1478 (.leaf 1477 o1477) (.leaf 1478 o1478))))) (.br 1502 (.br 1490 (.br 1483 (.leaf 1482 o1482) (.br 1489 (.leaf 1483 o1483) (.leaf 1489 o1489))) (.br 1495 (.br 1494 (.leaf 1490 o1490) (.leaf 1494 o1494)) (.br 1501 (.leaf 1495 o1495) (.leaf 1501 o1501)))) (.br 1513 (.br 1508 (.leaf 1502 o1502) (.br 1509 (.leaf 1508 o1508) (.leaf 1509 o1509))) (.br 1518 (.br 1514 (.leaf 1513 o1513) (.leaf 1514 o1514)) (.br 1519 (.leaf 1518 o1518) (.leaf 1519 o1519))))))))))
theorem tr {P:Params}{V:List (Nat × Obj)}{n k:Nat}{os:OsState}{s:Shared}(T:TopAt tree P V n k os s)(a:Nat)(o:Params→Obj)(h:tree.get a=some o:=by kernel_rfl)(l:a<n:=by decide):s.heap.get? a=some (o P):=T.tree a o h l
noncomputable def mnRest (P:Params):List DictEntry:=[eS P "__doc__" 166 .none,eS P "__package__" 167 .none,eS P "__loader__" 168 (.builtin "__main__.__loader__#opaque"),eS P "__spec__" 169 .none,eS P "__annotations__" 170 (.ref 6),eS P "__builtins__" 171 (.ref 4),eS P "__file__" 173 (cp 172),eS P "__cached__" 174 .none,eS P "_wall" 193 (.ref 21),eS P "UUID" 236 (.ref 46),eS P "_turned" 243 (.ref 57),eS P "OLD_UUID_SUBTYPE" 247 (.int 3 246),eS P "UUID_SUBTYPE" 249 (.int 4 248),eS P "UuidRepresentation" 284 (.ref 67),eS P "STANDARD" 286 (.int 4 285),eS P "ALL_UUID_SUBTYPES" 289 (.ref 72),eS P "ALL_UUID_REPRESENTATIONS" 295 (.ref 73),eS P "UUID_REPRESENTATION_NAMES" 311 (.ref 74),eS P "Binary" 434 (.ref 152),eS P "Code" 495 (.ref 196),eS P "TypeRegistry" 544 (.ref 234),eS P "CodecOptions" 579 (.ref 256),eS P "DEFAULT_CODEC_OPTIONS" 598 (.ref 262),eS P "DatetimeMS" 687 (.ref 334),eS P "DBRef" 770 (.ref 394),eS P "Decimal" 847 (.ref 457),eS P "_PACK_64" 856 (.ref 468),eS P "_UNPACK_64" 863 (.ref 475),eS P "_EXPONENT_MASK" 865 (.int 6917529027641081856 864),eS P "_EXPONENT_BIAS" 867 (.int 6176 866),eS P "_MAX_DIGITS" 869 (.int 34 868),eS P "_SIGN" 871 (.int 9223372036854775808 870),eS P "_NINF" 874 (.ref 476),eS P "_PINF" 877 (.ref 477),eS P "_NNAN" 880 (.ref 478),eS P "_PNAN" 883 (.ref 479),eS P "_NSNAN" 886 (.ref 480),eS P "_PSNAN" 889 (.ref 481),eS P "_check_fits" 896 (.ref 488),eS P "_decimal_to_128" 902 (.ref 493),eS P "Decimal128" 986 (.ref 549),eS P "BSONError" 1008 (.ref 563),eS P "InvalidBSON" 1024 (.ref 576),eS P "InvalidStringData" 1040 (.ref 588),eS P "InvalidDocument" 1076 (.ref 618),eS P "InvalidId" 1092 (.ref 630),eS P "Int64" 1134 (.ref 656),eS P "MaxKey" 1214 (.ref 719),eS P "MinKey" 1294 (.ref 782),eS P "_HEX_DIGITS" 1298 (z "0123456789abcdefABCDEF" 1297),eS P "_from_hex" 1304 (.ref 791),eS P "_raise_invalid_id" 1311 (.ref 798),eS P "ObjectId" 1440 (.ref 895),eS P "_IGNORECASE" 1444 (.int 2 1443),eS P "_LOCALE" 1446 (.int 4 1445),eS P "_MULTILINE" 1448 (.int 8 1447),eS P "_DOTALL" 1450 (.int 16 1449),eS P "_UNICODE" 1452 (.int 32 1451),eS P "_VERBOSE" 1454 (.int 64 1453),eS P "str_flags_to_int" 1462 (.ref 906),eS P "Regex" 1513 (.ref 938),eS P "UPPERBOUND" 1517 (.int 4294967296 1516),eS P "Timestamp" 1615 (.ref 1017),eS P "_unpack" 1627 (.ref 1028),eS P "_UNPACK_INT_FROM" 1635 (.ref 1035),eS P "_UNPACK_LENGTH_SUBTYPE_FROM" 1643 (.ref 1042),eS P "_UNPACK_LONG_FROM" 1651 (.ref 1049),eS P "_UNPACK_TIMESTAMP_FROM" 1659 (.ref 1056),eS P "_utf_8_decode" 1668 (.ref 1063),eS P "_utf_8_encode" 1675 (.ref 1070),eS P "_index_nul" 1684 (.ref 1077),eS P "get_data_and_view" 1691 (.ref 1084),eS P "_raise_unknown_type" 1699 (.ref 1091),eS P "_get_int" 1711 (.ref 1098),eS P "_get_c_string" 1722 (.ref 1105),eS P "_get_string" 1736 (.ref 1112),eS P "_get_object_size" 1748 (.ref 1119),eS P "_get_object" 1763 (.ref 1126),eS P "_get_array" 1780 (.ref 1133),eS P "_get_binary" 1799 (.ref 1140),eS P "_get_oid" 1812 (.ref 1147),eS P "_get_boolean" 1826 (.ref 1154),eS P "_get_date" 1838 (.ref 1161),eS P "_get_code" 1851 (.ref 1168),eS P "_get_code_w_scope" 1866 (.ref 1175),eS P "_get_regex" 1881 (.ref 1182),eS P "_get_ref" 1895 (.ref 1189),eS P "_get_timestamp" 1909 (.ref 1196),eS P "_get_int64" 1921 (.ref 1203),eS P "_get_decimal128" 1934 (.ref 1210),eS P "_get_element" 1947 (.ref 1217),eS P "_element_to_dict" 1961 (.ref 1224),eS P "_elements_to_dict" 1976 (.ref 1231),eS P "_bson_to_dict" 1988 (.ref 1238),eS P "_PACK_INT" 1995 (.ref 1245),eS P "_PACK_LENGTH_SUBTYPE" 2003 (.ref 1252),eS P "_PACK_LONG" 2010 (.ref 1259),eS P "_PACK_TIMESTAMP" 2018 (.ref 1266),eS P "_make_c_string_check" 2025 (.ref 1273),eS P "_make_c_string" 2032 (.ref 1280),eS P "_make_name" 2039 (.ref 1287),eS P "_encode_bytes" 2049 (.ref 1294),eS P "_encode_mapping" 2055 (.ref 1299),eS P "_encode_dbref" 2069 (.ref 1306),eS P "_encode_list" 2075 (.ref 1311),eS P "_encode_text" 2086 (.ref 1318),eS P "_encode_binary" 2098 (.ref 1325),eS P "_encode_uuid" 2110 (.ref 1332),eS P "_encode_objectid" 2120 (.ref 1339),eS P "_encode_bool" 2130 (.ref 1346),eS P "_encode_datetime_ms" 2141 (.ref 1353),eS P "_encode_none" 2151 (.ref 1360),eS P "_encode_regex" 2163 (.ref 1367),eS P "_encode_code" 2177 (.ref 1374),eS P "_encode_int" 2187 (.ref 1381),eS P "_encode_timestamp" 2197 (.ref 1388),eS P "_encode_long" 2207 (.ref 1395),eS P "_encode_decimal128" 2217 (.ref 1402),eS P "_encode_minkey" 2227 (.ref 1409),eS P "_encode_maxkey" 2237 (.ref 1416),eS P "_name_value_to_bson" 2250 (.ref 1424),eS P "_element_to_bson" 2261 (.ref 1431),eS P "_dict_to_bson" 2276 (.ref 1439),eS P "encode" 2285 (.ref 1447),eS P "decode" 2294 (.ref 1455),eS P "_decode_all" 2309 (.ref 1462),eS P "decode_all" 2317 (.ref 1470),eS P "decode_iter" 2330 (.ref 1478),eS P "_law_size" 2338 (.ref 1483),eS P "_law_borders" 2346 (.ref 1490),eS P "_law_le" 2352 (.ref 1495),eS P "_law_held" 2359 (.ref 1502),eS P "_law_made" 2372 (.ref 1509),eS P "_law_alike" 2378 (.ref 1514),eS P "law" 2384 (.ref 1519)]
noncomputable def tbAll:List Value:=[(i0 1),(i0 0),(.ref 20),(i0 5),(i0 0),(.ref 27),(i0 15),(i0 0),(.ref 56),(i0 20),(i0 0),(.ref 63),(i0 35),(i0 0),(.ref 80),(i0 108),(i0 0),(.ref 162),(i0 145),(i0 0),(.ref 206),(i0 161),(i0 0),(.ref 244),(i0 176),(i0 0),(.ref 274),(i0 212),(i0 0),(.ref 344),(i0 248),(i0 0),(.ref 404),(i0 273),(i0 0),(.ref 467),(i0 275),(i0 0),(.ref 474),(i0 287),(i0 0),(.ref 487),(i0 291),(i0 0),(.ref 492),(i0 322),(i0 0),(.ref 499),(i0 358),(i0 0),(.ref 559),(i0 360),(i0 0),(.ref 572),(i0 362),(i0 0),(.ref 584),(i0 364),(i0 0),(.ref 597),(i0 373),(i0 0),(.ref 626),(i0 376),(i0 0),(.ref 638),(i0 385),(i0 0),(.ref 666),(i0 409),(i0 0),(.ref 729),(i0 434),(i0 0),(.ref 790),(i0 441),(i0 0),(.ref 797),(i0 443),(i0 0),(.ref 804),(i0 518),(i0 0),(.ref 905),(i0 533),(i0 0),(.ref 912),(i0 557),(i0 0),(.ref 948),(i0 609),(i0 0),(.ref 1027),(i0 613),(i0 0),(.ref 1034),(i0 615),(i0 0),(.ref 1041),(i0 619),(i0 0),(.ref 1048),(i0 621),(i0 0),(.ref 1055),(i0 625),(i0 0),(.ref 1062),(i0 627),(i0 0),(.ref 1069),(i0 629),(i0 0),(.ref 1076),(i0 634),(i0 0),(.ref 1083),(i0 636),(i0 0),(.ref 1090),(i0 638),(i0 0),(.ref 1097),(i0 640),(i0 0),(.ref 1104),(i0 643),(i0 0),(.ref 1111),(i0 652),(i0 0),(.ref 1118),(i0 665),(i0 0),(.ref 1125),(i0 672),(i0 0),(.ref 1132),(i0 691),(i0 0),(.ref 1139),(i0 714),(i0 0),(.ref 1146),(i0 717),(i0 0),(.ref 1153),(i0 725),(i0 0),(.ref 1160),(i0 727),(i0 0),(.ref 1167),(i0 730),(i0 0),(.ref 1174),(i0 737),(i0 0),(.ref 1181),(i0 742),(i0 0),(.ref 1188),(i0 746),(i0 0),(.ref 1195),(i0 749),(i0 0),(.ref 1202),(i0 751),(i0 0),(.ref 1209),(i0 754),(i0 0),(.ref 1216),(i0 796),(i0 0),(.ref 1223),(i0 805),(i0 0),(.ref 1230),(i0 814),(i0 0),(.ref 1237),(i0 823),(i0 0),(.ref 1244),(i0 825),(i0 0),(.ref 1251),(i0 827),(i0 0),(.ref 1258),(i0 831),(i0 0),(.ref 1265),(i0 833),(i0 0),(.ref 1272),(i0 846),(i0 0),(.ref 1279),(i0 855),(i0 0),(.ref 1286),(i0 859),(i0 0),(.ref 1293),(i0 861),(i0 0),(.ref 1298),(i0 864),(i0 0),(.ref 1305),(i0 876),(i0 0),(.ref 1310),(i0 879),(i0 0),(.ref 1317),(i0 882),(i0 0),(.ref 1324),(i0 888),(i0 0),(.ref 1331),(i0 892),(i0 0),(.ref 1338),(i0 894),(i0 0),(.ref 1345),(i0 896),(i0 0),(.ref 1352),(i0 899),(i0 0),(.ref 1359),(i0 901),(i0 0),(.ref 1366),(i0 923),(i0 0),(.ref 1373),(i0 931),(i0 0),(.ref 1380),(i0 939),(i0 0),(.ref 1387),(i0 941),(i0 0),(.ref 1394),(i0 946),(i0 0),(.ref 1401),(i0 948),(i0 0),(.ref 1408),(i0 950),(i0 0),(.ref 1415),(i0 952),(i0 0),(.ref 1423),(i0 1001),(i0 0),(.ref 1430),(i0 1011),(i0 0),(.ref 1438),(i0 1025),(i0 0),(.ref 1446),(i0 1029),(i0 0),(.ref 1454),(i0 1034),(i0 0),(.ref 1461),(i0 1058),(i0 0),(.ref 1469),(i0 1064),(i0 0),(.ref 1477),(i0 1076),(i0 0),(.ref 1482),(i0 1078),(i0 0),(.ref 1489),(i0 1083),(i0 0),(.ref 1494),(i0 1085),(i0 0),(.ref 1501),(i0 1087),(i0 0),(.ref 1508),(i0 1103),(i0 0),(.ref 1513),(i0 1109),(i0 0),(.ref 1518)]
noncomputable def mnO (P:Params) (e:DictEntry) (m n:Nat):Obj:=⟨.type "dict",none,.dict (e::(mnRest P).take m).toArray n,#[]⟩
noncomputable def tbO (m:Nat):Obj:=⟨.none,none,.fields (tbAll.take m).toArray,#[]⟩
noncomputable def v2_0 (P:Params):Obj:=⟨.none,none,(.dict #[] 0),#[]⟩
noncomputable def v3_0 (P:Params):Obj:=(mnO P (eS P "__name__" 165 (z "__main__" 164)) 8 9)
noncomputable def Vb (P:Params):List (Nat × Obj):=[(2,v2_0 P),(3,v3_0 P)]
noncomputable def v12_0 (P:Params):Obj:=(tbO 0)
noncomputable def V0 (P:Params):List (Nat × Obj):=[(2,v2_0 P),(3,v3_0 P),(12,v12_0 P)]
noncomputable def sB (P:Params):List (Nat × Obj):=[(2,v2_0 P),(3,v3_0 P)]
theorem pB:∀(w:World) (os:OsState),(goP (stpF prog w) okF 12 ⟨sB w.params,11,11,[],#[],boot_drawn,181,os⟩ (topStub prog)).map (seeG tree 11 4 [2,3,12])=some (⟨denote treeTable (.body body envT),.body body envT,⟨0,0,0,0⟩,[topFrame fpos]⟩,15,[],#[],boot_drawn,187,os,wantP tree w.params 11 4,(V0 w.params).map (fun x=>some x.2)):=fun w os=>by
 rw[denote_fast,table_fast]
 kernel_rfl
noncomputable def sK (P:Params):List (Nat × Obj):=[(2,v2_0 P),(3,v3_0 P),(12,v12_0 P)]
theorem pK:∀(w:World) (os:OsState),(segP (stpF prog w) okF 1 ⟨sK w.params,15,15,[],#[],boot_drawn,187,os⟩ (blockOf body envT (.body body envT) ⟨0,0,0,0⟩ [topFrame fpos])).map (seeP tree 15 0 [2,3,12])=some (.next,.body body envT,⟨0,0,0,0⟩,15,[],#[],boot_drawn,187,os,wantP tree w.params 15 0,(V0 w.params).map (fun x=>some x.2)):=fun w os=>by kernel_rfl
noncomputable def v3_1 (P:Params):Obj:=(mnO P (eS P "__name__" 165 (z "bson.uuids" 194)) 10 11)
noncomputable def v12_1 (P:Params):Obj:=(tbO 6)
noncomputable def V1 (P:Params):List (Nat × Obj):=[(2,v2_0 P),(3,v3_1 P),(12,v12_1 P)]
def s0 (P:Params):List (Nat × Obj):=[(0,boot_o_0 P),(2,v2_0 P),(3,v3_0 P),(4,boot_o_4 P),(12,v12_0 P),(13,o13 P)]
abbrev P0 (w:World):Prop:=∀os:OsState,(segP (stpF prog w) okF 303 ⟨s0 w.params,15,15,[],#[],boot_drawn,187,os⟩ (piecesOf ((body.drop 0).take 3) envT (.body body envT) ⟨0,0,0,0⟩ [topFrame fpos])).map (seeP tree 15 36 [2,3,12])=some (.next,.body body envT,⟨5,0,14,68⟩,51,[3,12],#[],boot_drawn,237,os,wantP tree w.params 15 36,(V1 w.params).map (fun x=>some x.2))
theorem p0:∀w,P0 w:=fun w os=>by kernel_rfl
noncomputable def v3_2 (P:Params):Obj:=(mnO P (eS P "__name__" 165 (z "bson.binary" 244)) 16 17)
noncomputable def v12_2 (P:Params):Obj:=(tbO 12)
noncomputable def V2 (P:Params):List (Nat × Obj):=[(2,v2_0 P),(3,v3_2 P),(12,v12_2 P)]
def s1 (P:Params):List (Nat × Obj):=[(0,boot_o_0 P),(2,v2_0 P),(3,v3_1 P),(4,boot_o_4 P),(12,v12_1 P),(13,o13 P)]
abbrev P1 (w:World):Prop:=∀os:OsState,(segP (stpF prog w) okF 327 ⟨s1 w.params,51,51,[],#[],boot_drawn,237,os⟩ (piecesOf ((body.drop 3).take 7) envT (.body body envT) ⟨5,0,14,68⟩ [topFrame fpos])).map (seeP tree 51 22 [2,3,12])=some (.next,.body body envT,⟨32,0,32,17⟩,73,[3,12],#[],boot_drawn,290,os,wantP tree w.params 51 22,(V2 w.params).map (fun x=>some x.2))
theorem p1:∀w,P1 w:=fun w os=>by kernel_rfl
noncomputable def v3_3 (P:Params):Obj:=(mnO P (eS P "__name__" 165 (z "bson.binary" 244)) 17 18)
noncomputable def V3 (P:Params):List (Nat × Obj):=[(2,v2_0 P),(3,v3_3 P),(12,v12_2 P)]
def s2 (P:Params):List (Nat × Obj):=[(2,v2_0 P),(3,v3_2 P),(12,v12_2 P)]
abbrev P2 (w:World):Prop:=∀os:OsState,(segP (stpF prog w) okF 16 ⟨s2 w.params,73,73,[],#[],boot_drawn,290,os⟩ (piecesOf ((body.drop 10).take 1) envT (.body body envT) ⟨32,0,32,17⟩ [topFrame fpos])).map (seeP tree 73 1 [2,3,12])=some (.next,.body body envT,⟨33,0,33,24⟩,74,[3],#[],boot_drawn,296,os,wantP tree w.params 73 1,(V3 w.params).map (fun x=>some x.2))
theorem p2:∀w,P2 w:=fun w os=>by kernel_rfl
noncomputable def v3_4 (P:Params):Obj:=(mnO P (eS P "__name__" 165 (z "bson.binary" 244)) 18 19)
noncomputable def V4 (P:Params):List (Nat × Obj):=[(2,v2_0 P),(3,v3_4 P),(12,v12_2 P)]
def s3 (P:Params):List (Nat × Obj):=[(2,v2_0 P),(3,v3_3 P),(12,v12_2 P)]
abbrev P3 (w:World):Prop:=∀os:OsState,(segP (stpF prog w) okF 76 ⟨s3 w.params,74,74,[],#[],boot_drawn,296,os⟩ (piecesOf ((body.drop 11).take 1) envT (.body body envT) ⟨33,0,33,24⟩ [topFrame fpos])).map (seeP tree 74 1 [2,3,12])=some (.next,.body body envT,⟨34,0,34,25⟩,75,[3],#[],boot_drawn,312,os,wantP tree w.params 74 1,(V4 w.params).map (fun x=>some x.2))
theorem p3f (w:World):P3 (w.withFollow "special-get-raises" false):=fun os=>by kernel_rfl
theorem p3t (w:World):P3 (w.withFollow "special-get-raises" true):=fun os=>by kernel_rfl
theorem p3:∀w,P3 w:=byRow2 "special-get-raises" p3f p3t
noncomputable def v3_5 (P:Params):Obj:=(mnO P (eS P "__name__" 165 (z "bson.binary" 244)) 19 20)
noncomputable def v12_3 (P:Params):Obj:=(tbO 15)
noncomputable def V5 (P:Params):List (Nat × Obj):=[(2,v2_0 P),(3,v3_5 P),(12,v12_3 P)]
def s4 (P:Params):List (Nat × Obj):=[(0,boot_o_0 P),(2,v2_0 P),(3,v3_4 P),(4,boot_o_4 P),(12,v12_2 P),(13,o13 P)]
abbrev P4 (w:World):Prop:=∀os:OsState,(segP (stpF prog w) okF 800 ⟨s4 w.params,75,75,[],#[],boot_drawn,312,os⟩ (piecesOf ((body.drop 12).take 1) envT (.body body envT) ⟨34,0,34,25⟩ [topFrame fpos])).map (seeP tree 75 82 [2,3,12])=some (.next,.body body envT,⟨35,0,106,32⟩,157,[3,12],#[],boot_drawn,435,os,wantP tree w.params 75 82,(V5 w.params).map (fun x=>some x.2))
theorem p4:∀w,P4 w:=fun w os=>by kernel_rfl
noncomputable def v3_6 (P:Params):Obj:=(mnO P (eS P "__name__" 165 (z "bson.code" 435)) 19 20)
noncomputable def V6 (P:Params):List (Nat × Obj):=[(2,v2_0 P),(3,v3_6 P),(12,v12_3 P)]
def s5 (P:Params):List (Nat × Obj):=[(2,v2_0 P),(3,v3_5 P),(12,v12_3 P)]
abbrev P5 (w:World):Prop:=∀os:OsState,(segP (stpF prog w) okF 10 ⟨s5 w.params,157,157,[],#[],boot_drawn,435,os⟩ (piecesOf ((body.drop 13).take 1) envT (.body body envT) ⟨35,0,106,32⟩ [topFrame fpos])).map (seeP tree 157 0 [2,3,12])=some (.next,.body body envT,⟨107,0,107,8⟩,157,[3],#[],boot_drawn,437,os,wantP tree w.params 157 0,(V6 w.params).map (fun x=>some x.2))
theorem p5:∀w,P5 w:=fun w os=>by kernel_rfl
noncomputable def v3_7 (P:Params):Obj:=(mnO P (eS P "__name__" 165 (z "bson.code" 435)) 20 21)
noncomputable def v12_4 (P:Params):Obj:=(tbO 18)
noncomputable def V7 (P:Params):List (Nat × Obj):=[(2,v2_0 P),(3,v3_7 P),(12,v12_4 P)]
def s6 (P:Params):List (Nat × Obj):=[(0,boot_o_0 P),(2,v2_0 P),(3,v3_6 P),(4,boot_o_4 P),(12,v12_3 P),(13,o13 P)]
abbrev P6 (w:World):Prop:=∀os:OsState,(segP (stpF prog w) okF 396 ⟨s6 w.params,157,157,[],#[],boot_drawn,437,os⟩ (piecesOf ((body.drop 14).take 1) envT (.body body envT) ⟨107,0,107,8⟩ [topFrame fpos])).map (seeP tree 157 44 [2,3,12])=some (.next,.body body envT,⟨108,0,143,32⟩,201,[3,12],#[],boot_drawn,496,os,wantP tree w.params 157 44,(V7 w.params).map (fun x=>some x.2))
theorem p6:∀w,P6 w:=fun w os=>by kernel_rfl
noncomputable def v3_8 (P:Params):Obj:=(mnO P (eS P "__name__" 165 (z "bson.codec_options" 496)) 20 21)
noncomputable def V8 (P:Params):List (Nat × Obj):=[(2,v2_0 P),(3,v3_8 P),(12,v12_4 P)]
def s7 (P:Params):List (Nat × Obj):=[(2,v2_0 P),(3,v3_7 P),(12,v12_4 P)]
abbrev P7 (w:World):Prop:=∀os:OsState,(segP (stpF prog w) okF 10 ⟨s7 w.params,201,201,[],#[],boot_drawn,496,os⟩ (piecesOf ((body.drop 15).take 1) envT (.body body envT) ⟨108,0,143,32⟩ [topFrame fpos])).map (seeP tree 201 0 [2,3,12])=some (.next,.body body envT,⟨144,0,144,8⟩,201,[3],#[],boot_drawn,498,os,wantP tree w.params 201 0,(V8 w.params).map (fun x=>some x.2))
theorem p7:∀w,P7 w:=fun w os=>by kernel_rfl
noncomputable def v3_9 (P:Params):Obj:=(mnO P (eS P "__name__" 165 (z "bson.codec_options" 496)) 21 22)
noncomputable def v12_5 (P:Params):Obj:=(tbO 21)
noncomputable def V9 (P:Params):List (Nat × Obj):=[(2,v2_0 P),(3,v3_9 P),(12,v12_5 P)]
def s8 (P:Params):List (Nat × Obj):=[(0,boot_o_0 P),(2,v2_0 P),(3,v3_8 P),(4,boot_o_4 P),(12,v12_4 P),(13,o13 P)]
abbrev P8 (w:World):Prop:=∀os:OsState,(segP (stpF prog w) okF 404 ⟨s8 w.params,201,201,[],#[],boot_drawn,498,os⟩ (piecesOf ((body.drop 16).take 1) envT (.body body envT) ⟨144,0,144,8⟩ [topFrame fpos])).map (seeP tree 201 38 [2,3,12])=some (.next,.body body envT,⟨145,0,160,37⟩,239,[3,12],#[],boot_drawn,545,os,wantP tree w.params 201 38,(V9 w.params).map (fun x=>some x.2))
theorem p8:∀w,P8 w:=fun w os=>by kernel_rfl
noncomputable def v3_10 (P:Params):Obj:=(mnO P (eS P "__name__" 165 (z "bson.codec_options" 496)) 22 23)
noncomputable def v12_6 (P:Params):Obj:=(tbO 24)
noncomputable def V10 (P:Params):List (Nat × Obj):=[(2,v2_0 P),(3,v3_10 P),(12,v12_6 P)]
def s9 (P:Params):List (Nat × Obj):=[(0,boot_o_0 P),(2,v2_0 P),(3,v3_9 P),(4,boot_o_4 P),(12,v12_5 P),(13,o13 P)]
abbrev P9 (w:World):Prop:=∀os:OsState,(segP (stpF prog w) okF 230 ⟨s9 w.params,239,239,[],#[],boot_drawn,545,os⟩ (piecesOf ((body.drop 17).take 1) envT (.body body envT) ⟨145,0,160,37⟩ [topFrame fpos])).map (seeP tree 239 22 [2,3,12])=some (.next,.body body envT,⟨161,0,173,42⟩,261,[3,12],#[],boot_drawn,580,os,wantP tree w.params 239 22,(V10 w.params).map (fun x=>some x.2))
theorem p9:∀w,P9 w:=fun w os=>by kernel_rfl
noncomputable def v3_11 (P:Params):Obj:=(mnO P (eS P "__name__" 165 (z "bson.codec_options" 496)) 23 24)
noncomputable def V11 (P:Params):List (Nat × Obj):=[(2,v2_0 P),(3,v3_11 P),(12,v12_6 P)]
def s10 (P:Params):List (Nat × Obj):=[(0,boot_o_0 P),(2,v2_0 P),(3,v3_10 P),(12,v12_6 P),(73,o73 P),(208,o208 P),(214,o214 P),(215,o215 P),(233,o233 P),(234,o234 P),(246,o246 P),(252,o252 P),(253,o253 P),(255,o255 P),(256,o256 P)]
abbrev P10 (w:World):Prop:=∀os:OsState,(segP (stpF prog w) okF 388 ⟨s10 w.params,261,261,[],#[],boot_drawn,580,os⟩ (piecesOf ((body.drop 18).take 1) envT (.body body envT) ⟨161,0,173,42⟩ [topFrame fpos])).map (seeP tree 261 8 [2,3,12])=some (.next,.body body envT,⟨174,0,174,21⟩,269,[3],#[],boot_drawn,599,os,wantP tree w.params 261 8,(V11 w.params).map (fun x=>some x.2))
theorem p10f (w:World):P10 (w.withFollow "special-get-raises" false):=fun os=>by kernel_rfl
theorem p10t (w:World):P10 (w.withFollow "special-get-raises" true):=fun os=>by kernel_rfl
theorem p10:∀w,P10 w:=byRow2 "special-get-raises" p10f p10t
noncomputable def v3_12 (P:Params):Obj:=(mnO P (eS P "__name__" 165 (z "bson.datetime_ms" 599)) 23 24)
noncomputable def V12 (P:Params):List (Nat × Obj):=[(2,v2_0 P),(3,v3_12 P),(12,v12_6 P)]
def s11 (P:Params):List (Nat × Obj):=[(2,v2_0 P),(3,v3_11 P),(12,v12_6 P)]
abbrev P11 (w:World):Prop:=∀os:OsState,(segP (stpF prog w) okF 10 ⟨s11 w.params,269,269,[],#[],boot_drawn,599,os⟩ (piecesOf ((body.drop 19).take 1) envT (.body body envT) ⟨174,0,174,21⟩ [topFrame fpos])).map (seeP tree 269 0 [2,3,12])=some (.next,.body body envT,⟨175,0,175,8⟩,269,[3],#[],boot_drawn,601,os,wantP tree w.params 269 0,(V12 w.params).map (fun x=>some x.2))
theorem p11:∀w,P11 w:=fun w os=>by kernel_rfl
noncomputable def v3_13 (P:Params):Obj:=(mnO P (eS P "__name__" 165 (z "bson.datetime_ms" 599)) 24 25)
noncomputable def v12_7 (P:Params):Obj:=(tbO 27)
noncomputable def V13 (P:Params):List (Nat × Obj):=[(2,v2_0 P),(3,v3_13 P),(12,v12_7 P)]
def s12 (P:Params):List (Nat × Obj):=[(0,boot_o_0 P),(2,v2_0 P),(3,v3_12 P),(4,boot_o_4 P),(12,v12_6 P),(13,o13 P)]
abbrev P12 (w:World):Prop:=∀os:OsState,(segP (stpF prog w) okF 462 ⟨s12 w.params,269,269,[],#[],boot_drawn,601,os⟩ (piecesOf ((body.drop 20).take 1) envT (.body body envT) ⟨175,0,175,8⟩ [topFrame fpos])).map (seeP tree 269 70 [2,3,12])=some (.next,.body body envT,⟨176,0,210,26⟩,339,[3,12],#[],boot_drawn,688,os,wantP tree w.params 269 70,(V13 w.params).map (fun x=>some x.2))
theorem p12:∀w,P12 w:=fun w os=>by kernel_rfl
noncomputable def v3_14 (P:Params):Obj:=(mnO P (eS P "__name__" 165 (z "bson.dbref" 688)) 24 25)
noncomputable def V14 (P:Params):List (Nat × Obj):=[(2,v2_0 P),(3,v3_14 P),(12,v12_7 P)]
def s13 (P:Params):List (Nat × Obj):=[(2,v2_0 P),(3,v3_13 P),(12,v12_7 P)]
abbrev P13 (w:World):Prop:=∀os:OsState,(segP (stpF prog w) okF 10 ⟨s13 w.params,339,339,[],#[],boot_drawn,688,os⟩ (piecesOf ((body.drop 21).take 1) envT (.body body envT) ⟨176,0,210,26⟩ [topFrame fpos])).map (seeP tree 339 0 [2,3,12])=some (.next,.body body envT,⟨211,0,211,8⟩,339,[3],#[],boot_drawn,690,os,wantP tree w.params 339 0,(V14 w.params).map (fun x=>some x.2))
theorem p13:∀w,P13 w:=fun w os=>by kernel_rfl
noncomputable def v3_15 (P:Params):Obj:=(mnO P (eS P "__name__" 165 (z "bson.dbref" 688)) 25 26)
noncomputable def v12_8 (P:Params):Obj:=(tbO 30)
noncomputable def V15 (P:Params):List (Nat × Obj):=[(2,v2_0 P),(3,v3_15 P),(12,v12_8 P)]
def s14 (P:Params):List (Nat × Obj):=[(0,boot_o_0 P),(2,v2_0 P),(3,v3_14 P),(4,boot_o_4 P),(12,v12_7 P),(13,o13 P)]
abbrev P14 (w:World):Prop:=∀os:OsState,(segP (stpF prog w) okF 580 ⟨s14 w.params,339,339,[],#[],boot_drawn,690,os⟩ (piecesOf ((body.drop 22).take 1) envT (.body body envT) ⟨211,0,211,8⟩ [topFrame fpos])).map (seeP tree 339 60 [2,3,12])=some (.next,.body body envT,⟨212,0,246,32⟩,399,[3,12],#[],boot_drawn,771,os,wantP tree w.params 339 60,(V15 w.params).map (fun x=>some x.2))
theorem p14:∀w,P14 w:=fun w os=>by kernel_rfl
noncomputable def v3_16 (P:Params):Obj:=(mnO P (eS P "__name__" 165 (z "bson.decimals" 771)) 25 26)
noncomputable def V16 (P:Params):List (Nat × Obj):=[(2,v2_0 P),(3,v3_16 P),(12,v12_8 P)]
def s15 (P:Params):List (Nat × Obj):=[(2,v2_0 P),(3,v3_15 P),(12,v12_8 P)]
abbrev P15 (w:World):Prop:=∀os:OsState,(segP (stpF prog w) okF 10 ⟨s15 w.params,399,399,[],#[],boot_drawn,771,os⟩ (piecesOf ((body.drop 23).take 1) envT (.body body envT) ⟨212,0,246,32⟩ [topFrame fpos])).map (seeP tree 399 0 [2,3,12])=some (.next,.body body envT,⟨247,0,247,8⟩,399,[3],#[],boot_drawn,773,os,wantP tree w.params 399 0,(V16 w.params).map (fun x=>some x.2))
theorem p15:∀w,P15 w:=fun w os=>by kernel_rfl
noncomputable def v3_17 (P:Params):Obj:=(mnO P (eS P "__name__" 165 (z "bson.decimals" 771)) 26 27)
noncomputable def v12_9 (P:Params):Obj:=(tbO 33)
noncomputable def V17 (P:Params):List (Nat × Obj):=[(2,v2_0 P),(3,v3_17 P),(12,v12_9 P)]
def s16 (P:Params):List (Nat × Obj):=[(0,boot_o_0 P),(2,v2_0 P),(3,v3_16 P),(4,boot_o_4 P),(12,v12_8 P),(13,o13 P)]
abbrev P16 (w:World):Prop:=∀os:OsState,(segP (stpF prog w) okF 418 ⟨s16 w.params,399,399,[],#[],boot_drawn,773,os⟩ (piecesOf ((body.drop 24).take 1) envT (.body body envT) ⟨247,0,247,8⟩ [topFrame fpos])).map (seeP tree 399 63 [2,3,12])=some (.next,.body body envT,⟨248,0,271,81⟩,462,[3,12],#[],boot_drawn,848,os,wantP tree w.params 399 63,(V17 w.params).map (fun x=>some x.2))
theorem p16:∀w,P16 w:=fun w os=>by kernel_rfl
noncomputable def v3_18 (P:Params):Obj:=(mnO P (eS P "__name__" 165 (z "bson.decimal128" 848)) 40 41)
noncomputable def v12_10 (P:Params):Obj:=(tbO 45)
noncomputable def V18 (P:Params):List (Nat × Obj):=[(2,v2_0 P),(3,v3_18 P),(12,v12_10 P)]
def s17 (P:Params):List (Nat × Obj):=[(2,v2_0 P),(3,v3_17 P),(4,boot_o_4 P),(12,v12_9 P),(13,o13 P)]
abbrev P17 (w:World):Prop:=∀os:OsState,(segP (stpF prog w) okF 231 ⟨s17 w.params,462,462,[],#[],boot_drawn,848,os⟩ (piecesOf ((body.drop 25).take 15) envT (.body body envT) ⟨248,0,271,81⟩ [topFrame fpos])).map (seeP tree 462 32 [2,3,12])=some (.next,.body body envT,⟨291,0,321,22⟩,494,[12,3],#[],boot_drawn,903,os,wantP tree w.params 462 32,(V18 w.params).map (fun x=>some x.2))
theorem p17:∀w,P17 w:=fun w os=>by kernel_rfl
noncomputable def v3_19 (P:Params):Obj:=(mnO P (eS P "__name__" 165 (z "bson.decimal128" 848)) 41 42)
noncomputable def v12_11 (P:Params):Obj:=(tbO 48)
noncomputable def V19 (P:Params):List (Nat × Obj):=[(2,v2_0 P),(3,v3_19 P),(12,v12_11 P)]
def s18 (P:Params):List (Nat × Obj):=[(0,boot_o_0 P),(2,v2_0 P),(3,v3_18 P),(4,boot_o_4 P),(12,v12_10 P),(13,o13 P)]
abbrev P18 (w:World):Prop:=∀os:OsState,(segP (stpF prog w) okF 588 ⟨s18 w.params,494,494,[],#[],boot_drawn,903,os⟩ (piecesOf ((body.drop 40).take 1) envT (.body body envT) ⟨291,0,321,22⟩ [topFrame fpos])).map (seeP tree 494 60 [2,3,12])=some (.next,.body body envT,⟨322,0,356,32⟩,554,[3,12],#[],boot_drawn,987,os,wantP tree w.params 494 60,(V19 w.params).map (fun x=>some x.2))
theorem p18:∀w,P18 w:=fun w os=>by kernel_rfl
noncomputable def v2_1 (P:Params):Obj:=⟨.none,none,(.dict #[eS P "type.__subclasses__.Exception.0" 1005 (i0 563),eS P "type.__subclasses__.Exception.n" 1006 (i0 1)] 2),#[]⟩
noncomputable def v3_20 (P:Params):Obj:=(mnO P (eS P "__name__" 165 (z "bson.errors" 987)) 42 43)
noncomputable def v12_12 (P:Params):Obj:=(tbO 51)
noncomputable def v563_0 (P:Params):Obj:=⟨(.type "type"),none,(.cls ⟨(S "BSONError"),[(.type "Exception")],[(.ref 563),(.type "Exception"),(.type "BaseException"),(.type "object")],562,(S "BSONError"),true,[],[],false,none,false⟩),#[some (.ref 554),none,some (z "BSONError" 989),some (z "BSONError" 997),some (.builtin "Exception.__new__"),some (.bool true)]⟩
noncomputable def V20 (P:Params):List (Nat × Obj):=[(2,v2_1 P),(3,v3_20 P),(12,v12_12 P),(563,v563_0 P)]
def s19 (P:Params):List (Nat × Obj):=[(0,boot_o_0 P),(2,v2_0 P),(3,v3_19 P),(4,boot_o_4 P),(12,v12_11 P),(13,o13 P)]
abbrev P19 (w:World):Prop:=∀os:OsState,(segP (stpF prog w) okF 206 ⟨s19 w.params,554,554,[],#[],boot_drawn,987,os⟩ (piecesOf ((body.drop 41).take 2) envT (.body body envT) ⟨322,0,356,32⟩ [topFrame fpos])).map (seeP tree 554 13 [2,3,12,563])=some (.next,.body body envT,⟨358,0,359,8⟩,567,[2,12,3],#[],boot_drawn,1009,os,wantP tree w.params 554 13,(V20 w.params).map (fun x=>some x.2))
theorem p19:∀w,P19 w:=fun w os=>by kernel_rfl
noncomputable def v3_21 (P:Params):Obj:=(mnO P (eS P "__name__" 165 (z "bson.errors" 987)) 43 44)
noncomputable def v12_13 (P:Params):Obj:=(tbO 54)
noncomputable def v563_1 (P:Params):Obj:=⟨(.type "type"),none,(.cls ⟨(S "BSONError"),[(.type "Exception")],[(.ref 563),(.type "Exception"),(.type "BaseException"),(.type "object")],562,(S "BSONError"),true,[],[(.ref 576)],false,none,false⟩),#[some (.ref 554),none,some (z "BSONError" 989),some (z "BSONError" 997),some (.builtin "Exception.__new__"),some (.bool true)]⟩
noncomputable def V21 (P:Params):List (Nat × Obj):=[(2,v2_1 P),(3,v3_21 P),(12,v12_13 P),(563,v563_1 P)]
def s20 (P:Params):List (Nat × Obj):=[(0,boot_o_0 P),(2,v2_1 P),(3,v3_20 P),(4,boot_o_4 P),(12,v12_12 P),(13,o13 P),(562,o562 P),(563,v563_0 P)]
abbrev P20 (w:World):Prop:=∀os:OsState,(segP (stpF prog w) okF 214 ⟨s20 w.params,567,567,[],#[],boot_drawn,1009,os⟩ (piecesOf ((body.drop 43).take 1) envT (.body body envT) ⟨358,0,359,8⟩ [topFrame fpos])).map (seeP tree 567 12 [2,3,12,563])=some (.next,.body body envT,⟨360,0,361,8⟩,579,[3,563,12],#[],boot_drawn,1025,os,wantP tree w.params 567 12,(V21 w.params).map (fun x=>some x.2))
theorem p20:∀w,P20 w:=fun w os=>by kernel_rfl
noncomputable def v3_22 (P:Params):Obj:=(mnO P (eS P "__name__" 165 (z "bson.errors" 987)) 44 45)
noncomputable def v12_14 (P:Params):Obj:=(tbO 57)
noncomputable def v563_2 (P:Params):Obj:=⟨(.type "type"),none,(.cls ⟨(S "BSONError"),[(.type "Exception")],[(.ref 563),(.type "Exception"),(.type "BaseException"),(.type "object")],562,(S "BSONError"),true,[],[(.ref 576),(.ref 588)],false,none,false⟩),#[some (.ref 554),none,some (z "BSONError" 989),some (z "BSONError" 997),some (.builtin "Exception.__new__"),some (.bool true)]⟩
noncomputable def V22 (P:Params):List (Nat × Obj):=[(2,v2_1 P),(3,v3_22 P),(12,v12_14 P),(563,v563_2 P)]
def s21 (P:Params):List (Nat × Obj):=[(0,boot_o_0 P),(2,v2_1 P),(3,v3_21 P),(4,boot_o_4 P),(12,v12_13 P),(13,o13 P),(562,o562 P),(563,v563_1 P)]
abbrev P21 (w:World):Prop:=∀os:OsState,(segP (stpF prog w) okF 214 ⟨s21 w.params,579,579,[],#[],boot_drawn,1025,os⟩ (piecesOf ((body.drop 44).take 1) envT (.body body envT) ⟨360,0,361,8⟩ [topFrame fpos])).map (seeP tree 579 12 [2,3,12,563])=some (.next,.body body envT,⟨362,0,363,8⟩,591,[3,563,12],#[],boot_drawn,1041,os,wantP tree w.params 579 12,(V22 w.params).map (fun x=>some x.2))
theorem p21:∀w,P21 w:=fun w os=>by kernel_rfl
noncomputable def v3_23 (P:Params):Obj:=(mnO P (eS P "__name__" 165 (z "bson.errors" 987)) 45 46)
noncomputable def v12_15 (P:Params):Obj:=(tbO 60)
noncomputable def v563_3 (P:Params):Obj:=⟨(.type "type"),none,(.cls ⟨(S "BSONError"),[(.type "Exception")],[(.ref 563),(.type "Exception"),(.type "BaseException"),(.type "object")],562,(S "BSONError"),true,[],[(.ref 576),(.ref 588),(.ref 618)],false,none,false⟩),#[some (.ref 554),none,some (z "BSONError" 989),some (z "BSONError" 997),some (.builtin "Exception.__new__"),some (.bool true)]⟩
noncomputable def V23 (P:Params):List (Nat × Obj):=[(2,v2_1 P),(3,v3_23 P),(12,v12_15 P),(563,v563_3 P)]
def s22 (P:Params):List (Nat × Obj):=[(0,boot_o_0 P),(2,v2_1 P),(3,v3_22 P),(4,boot_o_4 P),(12,v12_14 P),(13,o13 P),(562,o562 P),(563,v563_2 P)]
abbrev P22 (w:World):Prop:=∀os:OsState,(segP (stpF prog w) okF 353 ⟨s22 w.params,591,591,[],#[],boot_drawn,1041,os⟩ (piecesOf ((body.drop 45).take 1) envT (.body body envT) ⟨362,0,363,8⟩ [topFrame fpos])).map (seeP tree 591 30 [2,3,12,563])=some (.next,.body body envT,⟨364,0,372,29⟩,621,[3,563,12],#[],boot_drawn,1077,os,wantP tree w.params 591 30,(V23 w.params).map (fun x=>some x.2))
theorem p22:∀w,P22 w:=fun w os=>by kernel_rfl
noncomputable def v3_24 (P:Params):Obj:=(mnO P (eS P "__name__" 165 (z "bson.int64" 1093)) 46 47)
noncomputable def v12_16 (P:Params):Obj:=(tbO 63)
noncomputable def v563_4 (P:Params):Obj:=⟨(.type "type"),none,(.cls ⟨(S "BSONError"),[(.type "Exception")],[(.ref 563),(.type "Exception"),(.type "BaseException"),(.type "object")],562,(S "BSONError"),true,[],[(.ref 576),(.ref 588),(.ref 618),(.ref 630)],false,none,false⟩),#[some (.ref 554),none,some (z "BSONError" 989),some (z "BSONError" 997),some (.builtin "Exception.__new__"),some (.bool true)]⟩
noncomputable def V24 (P:Params):List (Nat × Obj):=[(2,v2_1 P),(3,v3_24 P),(12,v12_16 P),(563,v563_4 P)]
def s23 (P:Params):List (Nat × Obj):=[(0,boot_o_0 P),(2,v2_1 P),(3,v3_23 P),(4,boot_o_4 P),(12,v12_15 P),(13,o13 P),(562,o562 P),(563,v563_3 P)]
abbrev P23 (w:World):Prop:=∀os:OsState,(segP (stpF prog w) okF 223 ⟨s23 w.params,621,621,[],#[],boot_drawn,1077,os⟩ (piecesOf ((body.drop 46).take 2) envT (.body body envT) ⟨364,0,372,29⟩ [topFrame fpos])).map (seeP tree 621 12 [2,3,12,563])=some (.next,.body body envT,⟨375,0,375,8⟩,633,[3,563,12],#[],boot_drawn,1095,os,wantP tree w.params 621 12,(V24 w.params).map (fun x=>some x.2))
theorem p23:∀w,P23 w:=fun w os=>by kernel_rfl
noncomputable def v3_25 (P:Params):Obj:=(mnO P (eS P "__name__" 165 (z "bson.max_key" 1135)) 47 48)
noncomputable def v12_17 (P:Params):Obj:=(tbO 66)
noncomputable def V25 (P:Params):List (Nat × Obj):=[(2,v2_1 P),(3,v3_25 P),(12,v12_17 P),(563,v563_4 P)]
def s24 (P:Params):List (Nat × Obj):=[(0,boot_o_0 P),(2,v2_1 P),(3,v3_24 P),(4,boot_o_4 P),(12,v12_16 P),(13,o13 P),(563,v563_4 P)]
abbrev P24 (w:World):Prop:=∀os:OsState,(segP (stpF prog w) okF 280 ⟨s24 w.params,633,633,[],#[],boot_drawn,1095,os⟩ (piecesOf ((body.drop 48).take 2) envT (.body body envT) ⟨375,0,375,8⟩ [topFrame fpos])).map (seeP tree 633 28 [2,3,12,563])=some (.next,.body body envT,⟨384,0,384,8⟩,661,[3,12],#[],boot_drawn,1137,os,wantP tree w.params 633 28,(V25 w.params).map (fun x=>some x.2))
theorem p24:∀w,P24 w:=fun w os=>by kernel_rfl
noncomputable def v3_26 (P:Params):Obj:=(mnO P (eS P "__name__" 165 (z "bson.max_key" 1135)) 48 49)
noncomputable def v12_18 (P:Params):Obj:=(tbO 69)
noncomputable def V26 (P:Params):List (Nat × Obj):=[(2,v2_1 P),(3,v3_26 P),(12,v12_18 P),(563,v563_4 P)]
def s25 (P:Params):List (Nat × Obj):=[(0,boot_o_0 P),(2,v2_1 P),(3,v3_25 P),(4,boot_o_4 P),(12,v12_17 P),(13,o13 P),(563,v563_4 P)]
abbrev P25 (w:World):Prop:=∀os:OsState,(segP (stpF prog w) okF 429 ⟨s25 w.params,661,661,[],#[],boot_drawn,1137,os⟩ (piecesOf ((body.drop 50).take 1) envT (.body body envT) ⟨384,0,384,8⟩ [topFrame fpos])).map (seeP tree 661 63 [2,3,12,563])=some (.next,.body body envT,⟨385,0,407,25⟩,724,[3,12],#[],boot_drawn,1215,os,wantP tree w.params 661 63,(V26 w.params).map (fun x=>some x.2))
theorem p25:∀w,P25 w:=fun w os=>by kernel_rfl
noncomputable def v3_27 (P:Params):Obj:=(mnO P (eS P "__name__" 165 (z "bson.min_key" 1215)) 48 49)
noncomputable def V27 (P:Params):List (Nat × Obj):=[(2,v2_1 P),(3,v3_27 P),(12,v12_18 P),(563,v563_4 P)]
def s26 (P:Params):List (Nat × Obj):=[(2,v2_1 P),(3,v3_26 P),(12,v12_18 P),(563,v563_4 P)]
abbrev P26 (w:World):Prop:=∀os:OsState,(segP (stpF prog w) okF 10 ⟨s26 w.params,724,724,[],#[],boot_drawn,1215,os⟩ (piecesOf ((body.drop 51).take 1) envT (.body body envT) ⟨385,0,407,25⟩ [topFrame fpos])).map (seeP tree 724 0 [2,3,12,563])=some (.next,.body body envT,⟨408,0,408,8⟩,724,[3],#[],boot_drawn,1217,os,wantP tree w.params 724 0,(V27 w.params).map (fun x=>some x.2))
theorem p26:∀w,P26 w:=fun w os=>by kernel_rfl
noncomputable def v3_28 (P:Params):Obj:=(mnO P (eS P "__name__" 165 (z "bson.min_key" 1215)) 49 50)
noncomputable def v12_19 (P:Params):Obj:=(tbO 72)
noncomputable def V28 (P:Params):List (Nat × Obj):=[(2,v2_1 P),(3,v3_28 P),(12,v12_19 P),(563,v563_4 P)]
def s27 (P:Params):List (Nat × Obj):=[(0,boot_o_0 P),(2,v2_1 P),(3,v3_27 P),(4,boot_o_4 P),(12,v12_18 P),(13,o13 P),(563,v563_4 P)]
abbrev P27 (w:World):Prop:=∀os:OsState,(segP (stpF prog w) okF 429 ⟨s27 w.params,724,724,[],#[],boot_drawn,1217,os⟩ (piecesOf ((body.drop 52).take 1) envT (.body body envT) ⟨408,0,408,8⟩ [topFrame fpos])).map (seeP tree 724 63 [2,3,12,563])=some (.next,.body body envT,⟨409,0,431,25⟩,787,[3,12],#[],boot_drawn,1295,os,wantP tree w.params 724 63,(V28 w.params).map (fun x=>some x.2))
theorem p27:∀w,P27 w:=fun w os=>by kernel_rfl
noncomputable def v3_29 (P:Params):Obj:=(mnO P (eS P "__name__" 165 (z "bson.objectid" 1295)) 52 53)
noncomputable def v12_20 (P:Params):Obj:=(tbO 78)
noncomputable def V29 (P:Params):List (Nat × Obj):=[(2,v2_1 P),(3,v3_29 P),(12,v12_20 P),(563,v563_4 P)]
def s28 (P:Params):List (Nat × Obj):=[(2,v2_1 P),(3,v3_28 P),(4,boot_o_4 P),(12,v12_19 P),(13,o13 P),(563,v563_4 P)]
abbrev P28 (w:World):Prop:=∀os:OsState,(segP (stpF prog w) okF 74 ⟨s28 w.params,787,787,[],#[],boot_drawn,1295,os⟩ (piecesOf ((body.drop 53).take 4) envT (.body body envT) ⟨409,0,431,25⟩ [topFrame fpos])).map (seeP tree 787 12 [2,3,12,563])=some (.next,.body body envT,⟨441,0,442,112⟩,799,[12,3],#[],boot_drawn,1312,os,wantP tree w.params 787 12,(V29 w.params).map (fun x=>some x.2))
theorem p28:∀w,P28 w:=fun w os=>by kernel_rfl
noncomputable def v3_30 (P:Params):Obj:=(mnO P (eS P "__name__" 165 (z "bson.objectid" 1295)) 53 54)
noncomputable def v12_21 (P:Params):Obj:=(tbO 81)
noncomputable def V30 (P:Params):List (Nat × Obj):=[(2,v2_1 P),(3,v3_30 P),(12,v12_21 P),(563,v563_4 P)]
def s29 (P:Params):List (Nat × Obj):=[(0,boot_o_0 P),(2,v2_1 P),(3,v3_29 P),(4,boot_o_4 P),(12,v12_20 P),(13,o13 P),(563,v563_4 P)]
abbrev P29 (w:World):Prop:=∀os:OsState,(segP (stpF prog w) okF 832 ⟨s29 w.params,799,799,[],#[],boot_drawn,1312,os⟩ (piecesOf ((body.drop 57).take 1) envT (.body body envT) ⟨441,0,442,112⟩ [topFrame fpos])).map (seeP tree 799 101 [2,3,12,563])=some (.next,.body body envT,⟨443,0,510,29⟩,900,[3,12],#[],boot_drawn,1441,os,wantP tree w.params 799 101,(V30 w.params).map (fun x=>some x.2))
theorem p29:∀w,P29 w:=fun w os=>by kernel_rfl
noncomputable def v3_31 (P:Params):Obj:=(mnO P (eS P "__name__" 165 (z "bson.regex" 1441)) 60 61)
noncomputable def v12_22 (P:Params):Obj:=(tbO 84)
noncomputable def V31 (P:Params):List (Nat × Obj):=[(2,v2_1 P),(3,v3_31 P),(12,v12_22 P),(563,v563_4 P)]
def s30 (P:Params):List (Nat × Obj):=[(2,v2_1 P),(3,v3_30 P),(4,boot_o_4 P),(12,v12_21 P),(13,o13 P),(563,v563_4 P)]
abbrev P30 (w:World):Prop:=∀os:OsState,(segP (stpF prog w) okF 94 ⟨s30 w.params,900,900,[],#[],boot_drawn,1441,os⟩ (piecesOf ((body.drop 58).take 8) envT (.body body envT) ⟨443,0,510,29⟩ [topFrame fpos])).map (seeP tree 900 7 [2,3,12,563])=some (.next,.body body envT,⟨518,0,532,16⟩,907,[12,3],#[],boot_drawn,1463,os,wantP tree w.params 900 7,(V31 w.params).map (fun x=>some x.2))
theorem p30:∀w,P30 w:=fun w os=>by kernel_rfl
noncomputable def v3_32 (P:Params):Obj:=(mnO P (eS P "__name__" 165 (z "bson.timestamp" 1514)) 62 63)
noncomputable def v12_23 (P:Params):Obj:=(tbO 87)
noncomputable def V32 (P:Params):List (Nat × Obj):=[(2,v2_1 P),(3,v3_32 P),(12,v12_23 P),(563,v563_4 P)]
def s31 (P:Params):List (Nat × Obj):=[(0,boot_o_0 P),(2,v2_1 P),(3,v3_31 P),(4,boot_o_4 P),(12,v12_22 P),(13,o13 P),(563,v563_4 P)]
abbrev P31 (w:World):Prop:=∀os:OsState,(segP (stpF prog w) okF 325 ⟨s31 w.params,907,907,[],#[],boot_drawn,1463,os⟩ (piecesOf ((body.drop 66).take 3) envT (.body body envT) ⟨518,0,532,16⟩ [topFrame fpos])).map (seeP tree 907 36 [2,3,12,563])=some (.next,.body body envT,⟨556,0,556,10⟩,943,[3,12],#[],boot_drawn,1518,os,wantP tree w.params 907 36,(V32 w.params).map (fun x=>some x.2))
theorem p31:∀w,P31 w:=fun w os=>by kernel_rfl
noncomputable def v3_33 (P:Params):Obj:=(mnO P (eS P "__name__" 165 (z "bson.timestamp" 1514)) 63 64)
noncomputable def v12_24 (P:Params):Obj:=(tbO 90)
noncomputable def V33 (P:Params):List (Nat × Obj):=[(2,v2_1 P),(3,v3_33 P),(12,v12_24 P),(563,v563_4 P)]
def s32 (P:Params):List (Nat × Obj):=[(0,boot_o_0 P),(2,v2_1 P),(3,v3_32 P),(4,boot_o_4 P),(12,v12_23 P),(13,o13 P),(563,v563_4 P)]
abbrev P32 (w:World):Prop:=∀os:OsState,(segP (stpF prog w) okF 611 ⟨s32 w.params,943,943,[],#[],boot_drawn,1518,os⟩ (piecesOf ((body.drop 69).take 1) envT (.body body envT) ⟨556,0,556,10⟩ [topFrame fpos])).map (seeP tree 943 79 [2,3,12,563])=some (.next,.body body envT,⟨557,0,607,29⟩,1022,[3,12],#[],boot_drawn,1616,os,wantP tree w.params 943 79,(V33 w.params).map (fun x=>some x.2))
theorem p32:∀w,P32 w:=fun w os=>by kernel_rfl
noncomputable def v3_34 (P:Params):Obj:=(mnO P (eS P "__name__" 165 (z "bson" 1616)) 73 74)
noncomputable def v12_25 (P:Params):Obj:=(tbO 120)
noncomputable def V34 (P:Params):List (Nat × Obj):=[(2,v2_1 P),(3,v3_34 P),(12,v12_25 P),(563,v563_4 P)]
def s33 (P:Params):List (Nat × Obj):=[(2,v2_1 P),(3,v3_33 P),(4,boot_o_4 P),(12,v12_24 P),(13,o13 P),(563,v563_4 P)]
abbrev P33 (w:World):Prop:=∀os:OsState,(segP (stpF prog w) okF 312 ⟨s33 w.params,1022,1022,[],#[],boot_drawn,1616,os⟩ (piecesOf ((body.drop 70).take 11) envT (.body body envT) ⟨557,0,607,29⟩ [topFrame fpos])).map (seeP tree 1022 70 [2,3,12,563])=some (.next,.body body envT,⟨636,0,637,81⟩,1092,[12,3],#[],boot_drawn,1700,os,wantP tree w.params 1022 70,(V34 w.params).map (fun x=>some x.2))
theorem p33:∀w,P33 w:=fun w os=>by kernel_rfl
noncomputable def v3_35 (P:Params):Obj:=(mnO P (eS P "__name__" 165 (z "bson" 1616)) 82 83)
noncomputable def v12_26 (P:Params):Obj:=(tbO 147)
noncomputable def V35 (P:Params):List (Nat × Obj):=[(2,v2_1 P),(3,v3_35 P),(12,v12_26 P),(563,v563_4 P)]
def s34 (P:Params):List (Nat × Obj):=[(2,v2_1 P),(3,v3_34 P),(4,boot_o_4 P),(12,v12_25 P),(13,o13 P),(563,v563_4 P)]
abbrev P34 (w:World):Prop:=∀os:OsState,(segP (stpF prog w) okF 326 ⟨s34 w.params,1092,1092,[],#[],boot_drawn,1700,os⟩ (piecesOf ((body.drop 81).take 9) envT (.body body envT) ⟨636,0,637,81⟩ [topFrame fpos])).map (seeP tree 1092 63 [2,3,12,563])=some (.next,.body body envT,⟨717,0,724,46⟩,1155,[3,12],#[],boot_drawn,1827,os,wantP tree w.params 1092 63,(V35 w.params).map (fun x=>some x.2))
theorem p34:∀w,P34 w:=fun w os=>by kernel_rfl
noncomputable def v3_36 (P:Params):Obj:=(mnO P (eS P "__name__" 165 (z "bson" 1616)) 91 92)
noncomputable def v12_27 (P:Params):Obj:=(tbO 174)
noncomputable def V36 (P:Params):List (Nat × Obj):=[(2,v2_1 P),(3,v3_36 P),(12,v12_27 P),(563,v563_4 P)]
def s35 (P:Params):List (Nat × Obj):=[(2,v2_1 P),(3,v3_35 P),(4,boot_o_4 P),(12,v12_26 P),(13,o13 P),(563,v563_4 P)]
abbrev P35 (w:World):Prop:=∀os:OsState,(segP (stpF prog w) okF 320 ⟨s35 w.params,1155,1155,[],#[],boot_drawn,1827,os⟩ (piecesOf ((body.drop 90).take 9) envT (.body body envT) ⟨717,0,724,46⟩ [topFrame fpos])).map (seeP tree 1155 63 [2,3,12,563])=some (.next,.body body envT,⟨754,0,795,32⟩,1218,[3,12],#[],boot_drawn,1948,os,wantP tree w.params 1155 63,(V36 w.params).map (fun x=>some x.2))
theorem p35:∀w,P35 w:=fun w os=>by kernel_rfl
noncomputable def v3_37 (P:Params):Obj:=(mnO P (eS P "__name__" 165 (z "bson" 1616)) 101 102)
noncomputable def v12_28 (P:Params):Obj:=(tbO 204)
noncomputable def V37 (P:Params):List (Nat × Obj):=[(2,v2_1 P),(3,v3_37 P),(12,v12_28 P),(563,v563_4 P)]
def s36 (P:Params):List (Nat × Obj):=[(2,v2_1 P),(3,v3_36 P),(4,boot_o_4 P),(12,v12_27 P),(13,o13 P),(563,v563_4 P)]
abbrev P36 (w:World):Prop:=∀os:OsState,(segP (stpF prog w) okF 313 ⟨s36 w.params,1218,1218,[],#[],boot_drawn,1948,os⟩ (piecesOf ((body.drop 99).take 10) envT (.body body envT) ⟨754,0,795,32⟩ [topFrame fpos])).map (seeP tree 1218 70 [2,3,12,563])=some (.next,.body body envT,⟨855,0,858,45⟩,1288,[3,12],#[],boot_drawn,2040,os,wantP tree w.params 1218 70,(V37 w.params).map (fun x=>some x.2))
theorem p36:∀w,P36 w:=fun w os=>by kernel_rfl
noncomputable def v3_38 (P:Params):Obj:=(mnO P (eS P "__name__" 165 (z "bson" 1616)) 111 112)
noncomputable def v12_29 (P:Params):Obj:=(tbO 234)
noncomputable def V38 (P:Params):List (Nat × Obj):=[(2,v2_1 P),(3,v3_38 P),(12,v12_29 P),(563,v563_4 P)]
def s37 (P:Params):List (Nat × Obj):=[(2,v2_1 P),(3,v3_37 P),(4,boot_o_4 P),(12,v12_28 P),(13,o13 P),(563,v563_4 P)]
abbrev P37 (w:World):Prop:=∀os:OsState,(segP (stpF prog w) okF 319 ⟨s37 w.params,1288,1288,[],#[],boot_drawn,2040,os⟩ (piecesOf ((body.drop 109).take 10) envT (.body body envT) ⟨855,0,858,45⟩ [topFrame fpos])).map (seeP tree 1288 66 [2,3,12,563])=some (.next,.body body envT,⟨896,0,898,44⟩,1354,[3,12],#[],boot_drawn,2142,os,wantP tree w.params 1288 66,(V38 w.params).map (fun x=>some x.2))
theorem p37:∀w,P37 w:=fun w os=>by kernel_rfl
noncomputable def v3_39 (P:Params):Obj:=(mnO P (eS P "__name__" 165 (z "bson" 1616)) 121 122)
noncomputable def v12_30 (P:Params):Obj:=(tbO 264)
noncomputable def V39 (P:Params):List (Nat × Obj):=[(2,v2_1 P),(3,v3_39 P),(12,v12_30 P),(563,v563_4 P)]
def s38 (P:Params):List (Nat × Obj):=[(2,v2_1 P),(3,v3_38 P),(4,boot_o_4 P),(12,v12_29 P),(13,o13 P),(563,v563_4 P)]
abbrev P38 (w:World):Prop:=∀os:OsState,(segP (stpF prog w) okF 331 ⟨s38 w.params,1354,1354,[],#[],boot_drawn,2142,os⟩ (piecesOf ((body.drop 119).take 10) envT (.body body envT) ⟨896,0,898,44⟩ [topFrame fpos])).map (seeP tree 1354 71 [2,3,12,563])=some (.next,.body body envT,⟨952,0,1000,49⟩,1425,[3,12],#[],boot_drawn,2251,os,wantP tree w.params 1354 71,(V39 w.params).map (fun x=>some x.2))
theorem p38:∀w,P38 w:=fun w os=>by kernel_rfl
noncomputable def v3_40 (P:Params):Obj:=(mnO P (eS P "__name__" 165 (z "law_ag0004_03" 2331)) 130 131)
noncomputable def v12_31 (P:Params):Obj:=(tbO 291)
noncomputable def V40 (P:Params):List (Nat × Obj):=[(2,v2_1 P),(3,v3_40 P),(12,v12_31 P),(563,v563_4 P)]
def s39 (P:Params):List (Nat × Obj):=[(2,v2_1 P),(3,v3_39 P),(4,boot_o_4 P),(12,v12_30 P),(13,o13 P),(563,v563_4 P)]
abbrev P39 (w:World):Prop:=∀os:OsState,(segP (stpF prog w) okF 307 ⟨s39 w.params,1425,1425,[],#[],boot_drawn,2251,os⟩ (piecesOf ((body.drop 129).take 10) envT (.body body envT) ⟨952,0,1000,49⟩ [topFrame fpos])).map (seeP tree 1425 66 [2,3,12,563])=some (.next,.body body envT,⟨1078,0,1082,18⟩,1491,[3,12],#[],boot_drawn,2347,os,wantP tree w.params 1425 66,(V40 w.params).map (fun x=>some x.2))
theorem p39:∀w,P39 w:=fun w os=>by kernel_rfl
noncomputable def v3_41 (P:Params):Obj:=(mnO P (eS P "__name__" 165 (z "law_ag0004_03" 2331)) 135 136)
noncomputable def v12_32 (P:Params):Obj:=(tbO 306)
noncomputable def V41 (P:Params):List (Nat × Obj):=[(2,v2_1 P),(3,v3_41 P),(12,v12_32 P),(563,v563_4 P)]
def s40 (P:Params):List (Nat × Obj):=[(2,v2_1 P),(3,v3_40 P),(4,boot_o_4 P),(12,v12_31 P),(13,o13 P),(563,v563_4 P)]
abbrev P40 (w:World):Prop:=∀os:OsState,(segP (stpF prog w) okF 143 ⟨s40 w.params,1491,1491,[],#[],boot_drawn,2347,os⟩ (piecesOf ((body.drop 139).take 5) envT (.body body envT) ⟨1078,0,1082,18⟩ [topFrame fpos])).map (seeP tree 1491 29 [2,3,12,563])=some (.next,.body body envT,⟨1109,0,1155,75⟩,1520,[3,12],#[],boot_drawn,2385,os,wantP tree w.params 1491 29,(V41 w.params).map (fun x=>some x.2))
theorem p40:∀w,P40 w:=fun w os=>by kernel_rfl
noncomputable def FinT (w:World) (os:OsState):Shared→Prop:=TopAt tree w.params (V41 w.params) 1520 2385 os
theorem c41 (w:World)(os:OsState)(s:Shared)(T:TopAt tree w.params (V41 w.params) 1520 2385 os s):Goes prog w (FinT w os) s (restOf (body.drop 144) envT (.body body envT) ⟨1109,0,1155,75⟩ [topFrame fpos]):=chain_end T (by kernel_rfl)
theorem c40 (w:World)(os:OsState)(s:Shared)(T:TopAt tree w.params (V40 w.params) 1491 2347 os s):Goes prog w (FinT w os) s (restOf (body.drop 139) envT (.body body envT) ⟨1078,0,1082,18⟩ [topFrame fpos]) :=
 cS (p40 w os) rfl rfl rfl (by kernel_rfl) (fun s' T'=>c41 w os s' T') T (fc (T.vol _ (.head _)) (fc (T.vol _ (.tail _ (.head _))) (fc T.b4 (fc (T.vol _ (.tail _ (.tail _ (.head _)))) (fc (tr T 13 o13) (fc (T.vol _ (.tail _ (.tail _ (.tail _ (.head _))))) fn))))))
theorem c39 (w:World)(os:OsState)(s:Shared)(T:TopAt tree w.params (V39 w.params) 1425 2251 os s):Goes prog w (FinT w os) s (restOf (body.drop 129) envT (.body body envT) ⟨952,0,1000,49⟩ [topFrame fpos]) :=
 cS (p39 w os) rfl rfl rfl (by kernel_rfl) (fun s' T'=>c40 w os s' T') T (fc (T.vol _ (.head _)) (fc (T.vol _ (.tail _ (.head _))) (fc T.b4 (fc (T.vol _ (.tail _ (.tail _ (.head _)))) (fc (tr T 13 o13) (fc (T.vol _ (.tail _ (.tail _ (.tail _ (.head _))))) fn))))))
theorem c38 (w:World)(os:OsState)(s:Shared)(T:TopAt tree w.params (V38 w.params) 1354 2142 os s):Goes prog w (FinT w os) s (restOf (body.drop 119) envT (.body body envT) ⟨896,0,898,44⟩ [topFrame fpos]) :=
 cS (p38 w os) rfl rfl rfl (by kernel_rfl) (fun s' T'=>c39 w os s' T') T (fc (T.vol _ (.head _)) (fc (T.vol _ (.tail _ (.head _))) (fc T.b4 (fc (T.vol _ (.tail _ (.tail _ (.head _)))) (fc (tr T 13 o13) (fc (T.vol _ (.tail _ (.tail _ (.tail _ (.head _))))) fn))))))
theorem c37 (w:World)(os:OsState)(s:Shared)(T:TopAt tree w.params (V37 w.params) 1288 2040 os s):Goes prog w (FinT w os) s (restOf (body.drop 109) envT (.body body envT) ⟨855,0,858,45⟩ [topFrame fpos]) :=
 cS (p37 w os) rfl rfl rfl (by kernel_rfl) (fun s' T'=>c38 w os s' T') T (fc (T.vol _ (.head _)) (fc (T.vol _ (.tail _ (.head _))) (fc T.b4 (fc (T.vol _ (.tail _ (.tail _ (.head _)))) (fc (tr T 13 o13) (fc (T.vol _ (.tail _ (.tail _ (.tail _ (.head _))))) fn))))))
theorem c36 (w:World)(os:OsState)(s:Shared)(T:TopAt tree w.params (V36 w.params) 1218 1948 os s):Goes prog w (FinT w os) s (restOf (body.drop 99) envT (.body body envT) ⟨754,0,795,32⟩ [topFrame fpos]) :=
 cS (p36 w os) rfl rfl rfl (by kernel_rfl) (fun s' T'=>c37 w os s' T') T (fc (T.vol _ (.head _)) (fc (T.vol _ (.tail _ (.head _))) (fc T.b4 (fc (T.vol _ (.tail _ (.tail _ (.head _)))) (fc (tr T 13 o13) (fc (T.vol _ (.tail _ (.tail _ (.tail _ (.head _))))) fn))))))
theorem c35 (w:World)(os:OsState)(s:Shared)(T:TopAt tree w.params (V35 w.params) 1155 1827 os s):Goes prog w (FinT w os) s (restOf (body.drop 90) envT (.body body envT) ⟨717,0,724,46⟩ [topFrame fpos]) :=
 cS (p35 w os) rfl rfl rfl (by kernel_rfl) (fun s' T'=>c36 w os s' T') T (fc (T.vol _ (.head _)) (fc (T.vol _ (.tail _ (.head _))) (fc T.b4 (fc (T.vol _ (.tail _ (.tail _ (.head _)))) (fc (tr T 13 o13) (fc (T.vol _ (.tail _ (.tail _ (.tail _ (.head _))))) fn))))))
theorem c34 (w:World)(os:OsState)(s:Shared)(T:TopAt tree w.params (V34 w.params) 1092 1700 os s):Goes prog w (FinT w os) s (restOf (body.drop 81) envT (.body body envT) ⟨636,0,637,81⟩ [topFrame fpos]) :=
 cS (p34 w os) rfl rfl rfl (by kernel_rfl) (fun s' T'=>c35 w os s' T') T (fc (T.vol _ (.head _)) (fc (T.vol _ (.tail _ (.head _))) (fc T.b4 (fc (T.vol _ (.tail _ (.tail _ (.head _)))) (fc (tr T 13 o13) (fc (T.vol _ (.tail _ (.tail _ (.tail _ (.head _))))) fn))))))
theorem c33 (w:World)(os:OsState)(s:Shared)(T:TopAt tree w.params (V33 w.params) 1022 1616 os s):Goes prog w (FinT w os) s (restOf (body.drop 70) envT (.body body envT) ⟨557,0,607,29⟩ [topFrame fpos]) :=
 cS (p33 w os) rfl rfl rfl (by kernel_rfl) (fun s' T'=>c34 w os s' T') T (fc (T.vol _ (.head _)) (fc (T.vol _ (.tail _ (.head _))) (fc T.b4 (fc (T.vol _ (.tail _ (.tail _ (.head _)))) (fc (tr T 13 o13) (fc (T.vol _ (.tail _ (.tail _ (.tail _ (.head _))))) fn))))))
theorem c32 (w:World)(os:OsState)(s:Shared)(T:TopAt tree w.params (V32 w.params) 943 1518 os s):Goes prog w (FinT w os) s (restOf (body.drop 69) envT (.body body envT) ⟨556,0,556,10⟩ [topFrame fpos]) :=
 cS (p32 w os) rfl rfl rfl (by kernel_rfl) (fun s' T'=>c33 w os s' T') T (fc T.b0 (fc (T.vol _ (.head _)) (fc (T.vol _ (.tail _ (.head _))) (fc T.b4 (fc (T.vol _ (.tail _ (.tail _ (.head _)))) (fc (tr T 13 o13) (fc (T.vol _ (.tail _ (.tail _ (.tail _ (.head _))))) fn)))))))
theorem c31 (w:World)(os:OsState)(s:Shared)(T:TopAt tree w.params (V31 w.params) 907 1463 os s):Goes prog w (FinT w os) s (restOf (body.drop 66) envT (.body body envT) ⟨518,0,532,16⟩ [topFrame fpos]) :=
 cS (p31 w os) rfl rfl rfl (by kernel_rfl) (fun s' T'=>c32 w os s' T') T (fc T.b0 (fc (T.vol _ (.head _)) (fc (T.vol _ (.tail _ (.head _))) (fc T.b4 (fc (T.vol _ (.tail _ (.tail _ (.head _)))) (fc (tr T 13 o13) (fc (T.vol _ (.tail _ (.tail _ (.tail _ (.head _))))) fn)))))))
theorem c30 (w:World)(os:OsState)(s:Shared)(T:TopAt tree w.params (V30 w.params) 900 1441 os s):Goes prog w (FinT w os) s (restOf (body.drop 58) envT (.body body envT) ⟨443,0,510,29⟩ [topFrame fpos]) :=
 cS (p30 w os) rfl rfl rfl (by kernel_rfl) (fun s' T'=>c31 w os s' T') T (fc (T.vol _ (.head _)) (fc (T.vol _ (.tail _ (.head _))) (fc T.b4 (fc (T.vol _ (.tail _ (.tail _ (.head _)))) (fc (tr T 13 o13) (fc (T.vol _ (.tail _ (.tail _ (.tail _ (.head _))))) fn))))))
theorem c29 (w:World)(os:OsState)(s:Shared)(T:TopAt tree w.params (V29 w.params) 799 1312 os s):Goes prog w (FinT w os) s (restOf (body.drop 57) envT (.body body envT) ⟨441,0,442,112⟩ [topFrame fpos]) :=
 cS (p29 w os) rfl rfl rfl (by kernel_rfl) (fun s' T'=>c30 w os s' T') T (fc T.b0 (fc (T.vol _ (.head _)) (fc (T.vol _ (.tail _ (.head _))) (fc T.b4 (fc (T.vol _ (.tail _ (.tail _ (.head _)))) (fc (tr T 13 o13) (fc (T.vol _ (.tail _ (.tail _ (.tail _ (.head _))))) fn)))))))
theorem c28 (w:World)(os:OsState)(s:Shared)(T:TopAt tree w.params (V28 w.params) 787 1295 os s):Goes prog w (FinT w os) s (restOf (body.drop 53) envT (.body body envT) ⟨409,0,431,25⟩ [topFrame fpos]) :=
 cS (p28 w os) rfl rfl rfl (by kernel_rfl) (fun s' T'=>c29 w os s' T') T (fc (T.vol _ (.head _)) (fc (T.vol _ (.tail _ (.head _))) (fc T.b4 (fc (T.vol _ (.tail _ (.tail _ (.head _)))) (fc (tr T 13 o13) (fc (T.vol _ (.tail _ (.tail _ (.tail _ (.head _))))) fn))))))
theorem c27 (w:World)(os:OsState)(s:Shared)(T:TopAt tree w.params (V27 w.params) 724 1217 os s):Goes prog w (FinT w os) s (restOf (body.drop 52) envT (.body body envT) ⟨408,0,408,8⟩ [topFrame fpos]) :=
 cS (p27 w os) rfl rfl rfl (by kernel_rfl) (fun s' T'=>c28 w os s' T') T (fc T.b0 (fc (T.vol _ (.head _)) (fc (T.vol _ (.tail _ (.head _))) (fc T.b4 (fc (T.vol _ (.tail _ (.tail _ (.head _)))) (fc (tr T 13 o13) (fc (T.vol _ (.tail _ (.tail _ (.tail _ (.head _))))) fn)))))))
theorem c26 (w:World)(os:OsState)(s:Shared)(T:TopAt tree w.params (V26 w.params) 724 1215 os s):Goes prog w (FinT w os) s (restOf (body.drop 51) envT (.body body envT) ⟨385,0,407,25⟩ [topFrame fpos]) :=
 cS (p26 w os) rfl rfl rfl (by kernel_rfl) (fun s' T'=>c27 w os s' T') T (fc (T.vol _ (.head _)) (fc (T.vol _ (.tail _ (.head _))) (fc (T.vol _ (.tail _ (.tail _ (.head _)))) (fc (T.vol _ (.tail _ (.tail _ (.tail _ (.head _))))) fn))))
theorem c25 (w:World)(os:OsState)(s:Shared)(T:TopAt tree w.params (V25 w.params) 661 1137 os s):Goes prog w (FinT w os) s (restOf (body.drop 50) envT (.body body envT) ⟨384,0,384,8⟩ [topFrame fpos]) :=
 cS (p25 w os) rfl rfl rfl (by kernel_rfl) (fun s' T'=>c26 w os s' T') T (fc T.b0 (fc (T.vol _ (.head _)) (fc (T.vol _ (.tail _ (.head _))) (fc T.b4 (fc (T.vol _ (.tail _ (.tail _ (.head _)))) (fc (tr T 13 o13) (fc (T.vol _ (.tail _ (.tail _ (.tail _ (.head _))))) fn)))))))
theorem c24 (w:World)(os:OsState)(s:Shared)(T:TopAt tree w.params (V24 w.params) 633 1095 os s):Goes prog w (FinT w os) s (restOf (body.drop 48) envT (.body body envT) ⟨375,0,375,8⟩ [topFrame fpos]) :=
 cS (p24 w os) rfl rfl rfl (by kernel_rfl) (fun s' T'=>c25 w os s' T') T (fc T.b0 (fc (T.vol _ (.head _)) (fc (T.vol _ (.tail _ (.head _))) (fc T.b4 (fc (T.vol _ (.tail _ (.tail _ (.head _)))) (fc (tr T 13 o13) (fc (T.vol _ (.tail _ (.tail _ (.tail _ (.head _))))) fn)))))))
theorem c23 (w:World)(os:OsState)(s:Shared)(T:TopAt tree w.params (V23 w.params) 621 1077 os s):Goes prog w (FinT w os) s (restOf (body.drop 46) envT (.body body envT) ⟨364,0,372,29⟩ [topFrame fpos]) :=
 cS (p23 w os) rfl rfl rfl (by kernel_rfl) (fun s' T'=>c24 w os s' T') T (fc T.b0 (fc (T.vol _ (.head _)) (fc (T.vol _ (.tail _ (.head _))) (fc T.b4 (fc (T.vol _ (.tail _ (.tail _ (.head _)))) (fc (tr T 13 o13) (fc (tr T 562 o562) (fc (T.vol _ (.tail _ (.tail _ (.tail _ (.head _))))) fn))))))))
theorem c22 (w:World)(os:OsState)(s:Shared)(T:TopAt tree w.params (V22 w.params) 591 1041 os s):Goes prog w (FinT w os) s (restOf (body.drop 45) envT (.body body envT) ⟨362,0,363,8⟩ [topFrame fpos]) :=
 cS (p22 w os) rfl rfl rfl (by kernel_rfl) (fun s' T'=>c23 w os s' T') T (fc T.b0 (fc (T.vol _ (.head _)) (fc (T.vol _ (.tail _ (.head _))) (fc T.b4 (fc (T.vol _ (.tail _ (.tail _ (.head _)))) (fc (tr T 13 o13) (fc (tr T 562 o562) (fc (T.vol _ (.tail _ (.tail _ (.tail _ (.head _))))) fn))))))))
theorem c21 (w:World)(os:OsState)(s:Shared)(T:TopAt tree w.params (V21 w.params) 579 1025 os s):Goes prog w (FinT w os) s (restOf (body.drop 44) envT (.body body envT) ⟨360,0,361,8⟩ [topFrame fpos]) :=
 cS (p21 w os) rfl rfl rfl (by kernel_rfl) (fun s' T'=>c22 w os s' T') T (fc T.b0 (fc (T.vol _ (.head _)) (fc (T.vol _ (.tail _ (.head _))) (fc T.b4 (fc (T.vol _ (.tail _ (.tail _ (.head _)))) (fc (tr T 13 o13) (fc (tr T 562 o562) (fc (T.vol _ (.tail _ (.tail _ (.tail _ (.head _))))) fn))))))))
theorem c20 (w:World)(os:OsState)(s:Shared)(T:TopAt tree w.params (V20 w.params) 567 1009 os s):Goes prog w (FinT w os) s (restOf (body.drop 43) envT (.body body envT) ⟨358,0,359,8⟩ [topFrame fpos]) :=
 cS (p20 w os) rfl rfl rfl (by kernel_rfl) (fun s' T'=>c21 w os s' T') T (fc T.b0 (fc (T.vol _ (.head _)) (fc (T.vol _ (.tail _ (.head _))) (fc T.b4 (fc (T.vol _ (.tail _ (.tail _ (.head _)))) (fc (tr T 13 o13) (fc (tr T 562 o562) (fc (T.vol _ (.tail _ (.tail _ (.tail _ (.head _))))) fn))))))))
theorem c19 (w:World)(os:OsState)(s:Shared)(T:TopAt tree w.params (V19 w.params) 554 987 os s):Goes prog w (FinT w os) s (restOf (body.drop 41) envT (.body body envT) ⟨322,0,356,32⟩ [topFrame fpos]) :=
 cS (p19 w os) rfl rfl rfl (by kernel_rfl) (fun s' T'=>c20 w os s' T') T (fc T.b0 (fc (T.vol _ (.head _)) (fc (T.vol _ (.tail _ (.head _))) (fc T.b4 (fc (T.vol _ (.tail _ (.tail _ (.head _)))) (fc (tr T 13 o13) fn))))))
theorem c18 (w:World)(os:OsState)(s:Shared)(T:TopAt tree w.params (V18 w.params) 494 903 os s):Goes prog w (FinT w os) s (restOf (body.drop 40) envT (.body body envT) ⟨291,0,321,22⟩ [topFrame fpos]) :=
 cS (p18 w os) rfl rfl rfl (by kernel_rfl) (fun s' T'=>c19 w os s' T') T (fc T.b0 (fc (T.vol _ (.head _)) (fc (T.vol _ (.tail _ (.head _))) (fc T.b4 (fc (T.vol _ (.tail _ (.tail _ (.head _)))) (fc (tr T 13 o13) fn))))))
theorem c17 (w:World)(os:OsState)(s:Shared)(T:TopAt tree w.params (V17 w.params) 462 848 os s):Goes prog w (FinT w os) s (restOf (body.drop 25) envT (.body body envT) ⟨248,0,271,81⟩ [topFrame fpos]) :=
 cS (p17 w os) rfl rfl rfl (by kernel_rfl) (fun s' T'=>c18 w os s' T') T (fc (T.vol _ (.head _)) (fc (T.vol _ (.tail _ (.head _))) (fc T.b4 (fc (T.vol _ (.tail _ (.tail _ (.head _)))) (fc (tr T 13 o13) fn)))))
theorem c16 (w:World)(os:OsState)(s:Shared)(T:TopAt tree w.params (V16 w.params) 399 773 os s):Goes prog w (FinT w os) s (restOf (body.drop 24) envT (.body body envT) ⟨247,0,247,8⟩ [topFrame fpos]) :=
 cS (p16 w os) rfl rfl rfl (by kernel_rfl) (fun s' T'=>c17 w os s' T') T (fc T.b0 (fc (T.vol _ (.head _)) (fc (T.vol _ (.tail _ (.head _))) (fc T.b4 (fc (T.vol _ (.tail _ (.tail _ (.head _)))) (fc (tr T 13 o13) fn))))))
theorem c15 (w:World)(os:OsState)(s:Shared)(T:TopAt tree w.params (V15 w.params) 399 771 os s):Goes prog w (FinT w os) s (restOf (body.drop 23) envT (.body body envT) ⟨212,0,246,32⟩ [topFrame fpos]) :=
 cS (p15 w os) rfl rfl rfl (by kernel_rfl) (fun s' T'=>c16 w os s' T') T (fc (T.vol _ (.head _)) (fc (T.vol _ (.tail _ (.head _))) (fc (T.vol _ (.tail _ (.tail _ (.head _)))) fn)))
theorem c14 (w:World)(os:OsState)(s:Shared)(T:TopAt tree w.params (V14 w.params) 339 690 os s):Goes prog w (FinT w os) s (restOf (body.drop 22) envT (.body body envT) ⟨211,0,211,8⟩ [topFrame fpos]) :=
 cS (p14 w os) rfl rfl rfl (by kernel_rfl) (fun s' T'=>c15 w os s' T') T (fc T.b0 (fc (T.vol _ (.head _)) (fc (T.vol _ (.tail _ (.head _))) (fc T.b4 (fc (T.vol _ (.tail _ (.tail _ (.head _)))) (fc (tr T 13 o13) fn))))))
theorem c13 (w:World)(os:OsState)(s:Shared)(T:TopAt tree w.params (V13 w.params) 339 688 os s):Goes prog w (FinT w os) s (restOf (body.drop 21) envT (.body body envT) ⟨176,0,210,26⟩ [topFrame fpos]) :=
 cS (p13 w os) rfl rfl rfl (by kernel_rfl) (fun s' T'=>c14 w os s' T') T (fc (T.vol _ (.head _)) (fc (T.vol _ (.tail _ (.head _))) (fc (T.vol _ (.tail _ (.tail _ (.head _)))) fn)))
theorem c12 (w:World)(os:OsState)(s:Shared)(T:TopAt tree w.params (V12 w.params) 269 601 os s):Goes prog w (FinT w os) s (restOf (body.drop 20) envT (.body body envT) ⟨175,0,175,8⟩ [topFrame fpos]) :=
 cS (p12 w os) rfl rfl rfl (by kernel_rfl) (fun s' T'=>c13 w os s' T') T (fc T.b0 (fc (T.vol _ (.head _)) (fc (T.vol _ (.tail _ (.head _))) (fc T.b4 (fc (T.vol _ (.tail _ (.tail _ (.head _)))) (fc (tr T 13 o13) fn))))))
theorem c11 (w:World)(os:OsState)(s:Shared)(T:TopAt tree w.params (V11 w.params) 269 599 os s):Goes prog w (FinT w os) s (restOf (body.drop 19) envT (.body body envT) ⟨174,0,174,21⟩ [topFrame fpos]) :=
 cS (p11 w os) rfl rfl rfl (by kernel_rfl) (fun s' T'=>c12 w os s' T') T (fc (T.vol _ (.head _)) (fc (T.vol _ (.tail _ (.head _))) (fc (T.vol _ (.tail _ (.tail _ (.head _)))) fn)))
theorem c10 (w:World)(os:OsState)(s:Shared)(T:TopAt tree w.params (V10 w.params) 261 580 os s):Goes prog w (FinT w os) s (restOf (body.drop 18) envT (.body body envT) ⟨161,0,173,42⟩ [topFrame fpos]) :=
 cS (p10 w os) rfl rfl rfl (by kernel_rfl) (fun s' T'=>c11 w os s' T') T (fc T.b0 (fc (T.vol _ (.head _)) (fc (T.vol _ (.tail _ (.head _))) (fc (T.vol _ (.tail _ (.tail _ (.head _)))) (fc (tr T 73 o73) (fc (tr T 208 o208) (fc (tr T 214 o214) (fc (tr T 215 o215) (fc (tr T 233 o233) (fc (tr T 234 o234) (fc (tr T 246 o246) (fc (tr T 252 o252) (fc (tr T 253 o253) (fc (tr T 255 o255) (fc (tr T 256 o256) fn)))))))))))))))
theorem c9 (w:World)(os:OsState)(s:Shared)(T:TopAt tree w.params (V9 w.params) 239 545 os s):Goes prog w (FinT w os) s (restOf (body.drop 17) envT (.body body envT) ⟨145,0,160,37⟩ [topFrame fpos]) :=
 cS (p9 w os) rfl rfl rfl (by kernel_rfl) (fun s' T'=>c10 w os s' T') T (fc T.b0 (fc (T.vol _ (.head _)) (fc (T.vol _ (.tail _ (.head _))) (fc T.b4 (fc (T.vol _ (.tail _ (.tail _ (.head _)))) (fc (tr T 13 o13) fn))))))
theorem c8 (w:World)(os:OsState)(s:Shared)(T:TopAt tree w.params (V8 w.params) 201 498 os s):Goes prog w (FinT w os) s (restOf (body.drop 16) envT (.body body envT) ⟨144,0,144,8⟩ [topFrame fpos]) :=
 cS (p8 w os) rfl rfl rfl (by kernel_rfl) (fun s' T'=>c9 w os s' T') T (fc T.b0 (fc (T.vol _ (.head _)) (fc (T.vol _ (.tail _ (.head _))) (fc T.b4 (fc (T.vol _ (.tail _ (.tail _ (.head _)))) (fc (tr T 13 o13) fn))))))
theorem c7 (w:World)(os:OsState)(s:Shared)(T:TopAt tree w.params (V7 w.params) 201 496 os s):Goes prog w (FinT w os) s (restOf (body.drop 15) envT (.body body envT) ⟨108,0,143,32⟩ [topFrame fpos]) :=
 cS (p7 w os) rfl rfl rfl (by kernel_rfl) (fun s' T'=>c8 w os s' T') T (fc (T.vol _ (.head _)) (fc (T.vol _ (.tail _ (.head _))) (fc (T.vol _ (.tail _ (.tail _ (.head _)))) fn)))
theorem c6 (w:World)(os:OsState)(s:Shared)(T:TopAt tree w.params (V6 w.params) 157 437 os s):Goes prog w (FinT w os) s (restOf (body.drop 14) envT (.body body envT) ⟨107,0,107,8⟩ [topFrame fpos]) :=
 cS (p6 w os) rfl rfl rfl (by kernel_rfl) (fun s' T'=>c7 w os s' T') T (fc T.b0 (fc (T.vol _ (.head _)) (fc (T.vol _ (.tail _ (.head _))) (fc T.b4 (fc (T.vol _ (.tail _ (.tail _ (.head _)))) (fc (tr T 13 o13) fn))))))
theorem c5 (w:World)(os:OsState)(s:Shared)(T:TopAt tree w.params (V5 w.params) 157 435 os s):Goes prog w (FinT w os) s (restOf (body.drop 13) envT (.body body envT) ⟨35,0,106,32⟩ [topFrame fpos]) :=
 cS (p5 w os) rfl rfl rfl (by kernel_rfl) (fun s' T'=>c6 w os s' T') T (fc (T.vol _ (.head _)) (fc (T.vol _ (.tail _ (.head _))) (fc (T.vol _ (.tail _ (.tail _ (.head _)))) fn)))
theorem c4 (w:World)(os:OsState)(s:Shared)(T:TopAt tree w.params (V4 w.params) 75 312 os s):Goes prog w (FinT w os) s (restOf (body.drop 12) envT (.body body envT) ⟨34,0,34,25⟩ [topFrame fpos]) :=
 cS (p4 w os) rfl rfl rfl (by kernel_rfl) (fun s' T'=>c5 w os s' T') T (fc T.b0 (fc (T.vol _ (.head _)) (fc (T.vol _ (.tail _ (.head _))) (fc T.b4 (fc (T.vol _ (.tail _ (.tail _ (.head _)))) (fc (tr T 13 o13) fn))))))
theorem c3 (w:World)(os:OsState)(s:Shared)(T:TopAt tree w.params (V3 w.params) 74 296 os s):Goes prog w (FinT w os) s (restOf (body.drop 11) envT (.body body envT) ⟨33,0,33,24⟩ [topFrame fpos]) :=
 cS (p3 w os) rfl rfl rfl (by kernel_rfl) (fun s' T'=>c4 w os s' T') T (fc (T.vol _ (.head _)) (fc (T.vol _ (.tail _ (.head _))) (fc (T.vol _ (.tail _ (.tail _ (.head _)))) fn)))
theorem c2 (w:World)(os:OsState)(s:Shared)(T:TopAt tree w.params (V2 w.params) 73 290 os s):Goes prog w (FinT w os) s (restOf (body.drop 10) envT (.body body envT) ⟨32,0,32,17⟩ [topFrame fpos]) :=
 cS (p2 w os) rfl rfl rfl (by kernel_rfl) (fun s' T'=>c3 w os s' T') T (fc (T.vol _ (.head _)) (fc (T.vol _ (.tail _ (.head _))) (fc (T.vol _ (.tail _ (.tail _ (.head _)))) fn)))
theorem c1 (w:World)(os:OsState)(s:Shared)(T:TopAt tree w.params (V1 w.params) 51 237 os s):Goes prog w (FinT w os) s (restOf (body.drop 3) envT (.body body envT) ⟨5,0,14,68⟩ [topFrame fpos]) :=
 cS (p1 w os) rfl rfl rfl (by kernel_rfl) (fun s' T'=>c2 w os s' T') T (fc T.b0 (fc (T.vol _ (.head _)) (fc (T.vol _ (.tail _ (.head _))) (fc T.b4 (fc (T.vol _ (.tail _ (.tail _ (.head _)))) (fc (tr T 13 o13) fn))))))
theorem c0 (w:World)(os:OsState)(s:Shared)(T:TopAt tree w.params (V0 w.params) 15 187 os s):Goes prog w (FinT w os) s (restOf (body.drop 0) envT (.body body envT) ⟨0,0,0,0⟩ [topFrame fpos]) :=
 cS (p0 w os) rfl rfl rfl (by kernel_rfl) (fun s' T'=>c1 w os s' T') T (fc T.b0 (fc (T.vol _ (.head _)) (fc (T.vol _ (.tail _ (.head _))) (fc T.b4 (fc (T.vol _ (.tail _ (.tail _ (.head _)))) (fc (tr T 13 o13) fn))))))
theorem cK (w:World)(os:OsState)(s:Shared)(T:TopAt tree w.params (V0 w.params) 15 187 os s):Goes prog w (FinT w os) s ⟨denote treeTable (.body body envT),.body body envT,⟨0,0,0,0⟩,[topFrame fpos]⟩ :=
 block_step (p:=prog) (pK w os) rfl rfl rfl (by kernel_rfl) (fun s' T'=>c0 w os s' T') T (fc (T.vol _ (.head _)) (fc (T.vol _ (.tail _ (.head _))) (fc (T.vol _ (.tail _ (.tail _ (.head _)))) fn)))
theorem cB (w:World)(os:OsState):Goes prog w (FinT w os) ⟨boot_heap w.params,#[],boot_drawn,181,os⟩ (topStub prog) :=
 have T:TopAt tree w.params (Vb w.params) 11 181 os ⟨boot_heap w.params,#[],boot_drawn,181,os⟩:=⟨rfl,rfl,rfl,rfl,rfl,rfl,rfl,fun a f h l=>absurd h (none_below (n:=11) (by kernel_rfl) l f),(fc rfl (fc rfl fn))⟩
 pre_step (pB w os) rfl rfl rfl (by kernel_rfl) (fun s' T'=>cK w os s' T') T (fc rfl (fc rfl fn))
end
noncomputable section
open PySem PySem.W PySem.Calls PyProof.Rows
set_option maxRecDepth 100000
noncomputable def globL:List (Str × AV):=[
 (S "ALL_UUID_SUBTYPES",(AV.tup [(AV.int 3),(AV.int 4)])),
 (S "Code",(AV.obj 196)),
 (S "CodecOptions",(AV.obj 256)),
 (S "DEFAULT_CODEC_OPTIONS",(AV.obj 262)),
 (S "_PACK_INT",(AV.obj 1245)),
 (S "_UNPACK_INT_FROM",(AV.obj 1035)),
 (S "_UNPACK_LENGTH_SUBTYPE_FROM",(AV.obj 1042)),
 (S "_bson_to_dict",(AV.obj 1238)),
 (S "_decode_all",(AV.obj 1462)),
 (S "_dict_to_bson",(AV.obj 1439)),
 (S "_element_to_bson",(AV.obj 1431)),
 (S "_element_to_dict",(AV.obj 1224)),
 (S "_elements_to_dict",(AV.obj 1231)),
 (S "_encode_bool",(AV.obj 1346)),
 (S "_encode_bytes",(AV.obj 1294)),
 (S "_encode_int",(AV.obj 1381)),
 (S "_encode_list",(AV.obj 1311)),
 (S "_encode_mapping",(AV.obj 1299)),
 (S "_encode_none",(AV.obj 1360)),
 (S "_encode_text",(AV.obj 1318)),
 (S "_get_array",(AV.obj 1133)),
 (S "_get_binary",(AV.obj 1140)),
 (S "_get_boolean",(AV.obj 1154)),
 (S "_get_c_string",(AV.obj 1105)),
 (S "_get_element",(AV.obj 1217)),
 (S "_get_int",(AV.obj 1098)),
 (S "_get_object",(AV.obj 1126)),
 (S "_get_object_size",(AV.obj 1119)),
 (S "_get_string",(AV.obj 1112)),
 (S "_index_nul",(AV.obj 1077)),
 (S "_law_alike",(AV.obj 1514)),
 (S "_law_borders",(AV.obj 1490)),
 (S "_law_held",(AV.obj 1502)),
 (S "_law_le",(AV.obj 1495)),
 (S "_law_made",(AV.obj 1509)),
 (S "_law_size",(AV.obj 1483)),
 (S "_make_name",(AV.obj 1287)),
 (S "_name_value_to_bson",(AV.obj 1424)),
 (S "_unpack",(AV.obj 1028)),
 (S "_utf_8_decode",(AV.obj 1063)),
 (S "_utf_8_encode",(AV.obj 1070)),
 (S "bool",(AV.bi Bn.bool)),
 (S "bytes",(AV.bi Bn.bytes)),
 (S "decode",(AV.obj 1455)),
 (S "decode_all",(AV.obj 1470)),
 (S "decode_iter",(AV.obj 1478)),
 (S "dict",(AV.bi Bn.dict)),
 (S "encode",(AV.obj 1447)),
 (S "enumerate",(AV.bi Bn.enumerate)),
 (S "get_data_and_view",(AV.obj 1084)),
 (S "int",(AV.bi Bn.int)),
 (S "isinstance",(AV.bi Bn.isinstance)),
 (S "len",(AV.bi Bn.len)),
 (S "list",(AV.bi Bn.list)),
 (S "max",(AV.bi Bn.max)),
 (S "min",(AV.bi Bn.min)),
 (S "range",(AV.bi Bn.range)),
 (S "str",(AV.bi Bn.str)),
 (S "sum",(AV.bi Bn.sum)),
 (S "tuple",(AV.bi Bn.tuple))]
noncomputable def f1245:FnA:=⟨[(S "value",none)],sScope (cell 102),sBody (cell 102),[(1,[])]⟩
noncomputable def f1035:FnA:=⟨[(S "data",none),(S "position",none)],sScope (cell 72),sBody (cell 72),[(2,[])]⟩
noncomputable def f1042:FnA:=⟨[(S "data",none),(S "position",none)],sScope (cell 73),sBody (cell 73),[(2,[])]⟩
noncomputable def f1238:FnA:=⟨[(S "data",none),(S "opts",none)],sScope (cell 101),sBody (cell 101),[(2,[])]⟩
noncomputable def f1462:FnA:=⟨[(S "data",none),(S "opts",none)],sScope (cell 133),sBody (cell 133),[(2,[])]⟩
noncomputable def f1439:FnA:=⟨[(S "doc",none),(S "check_keys",none),(S "opts",none),(S "top_level",some (AV.bool true))],sScope (cell 130),sBody (cell 130),[(3,[]),(4,[])]⟩
noncomputable def f1431:FnA:=⟨[(S "key",none),(S "value",none),(S "check_keys",none),(S "opts",none)],sScope (cell 129),sBody (cell 129),[(4,[])]⟩
noncomputable def f1224:FnA:=⟨[(S "data",none),(S "view",none),(S "position",none),(S "obj_end",none),(S "opts",none)],sScope (cell 99),sBody (cell 99),[(5,[])]⟩
noncomputable def f1231:FnA:=⟨[(S "data",none),(S "view",none),(S "position",none),(S "obj_end",none),(S "opts",none)],sScope (cell 100),sBody (cell 100),[(5,[])]⟩
noncomputable def f1346:FnA:=⟨[(S "name",none),(S "value",none),(S "dummy0",none),(S "dummy1",none)],sScope (cell 117),sBody (cell 117),[(4,[])]⟩
noncomputable def f1294:FnA:=⟨[(S "name",none),(S "value",none),(S "dummy0",none),(S "dummy1",none)],sScope (cell 109),sBody (cell 109),[(4,[])]⟩
noncomputable def f1381:FnA:=⟨[(S "name",none),(S "value",none),(S "dummy0",none),(S "dummy1",none)],sScope (cell 122),sBody (cell 122),[(4,[])]⟩
noncomputable def f1311:FnA:=⟨[(S "name",none),(S "value",none),(S "check_keys",none),(S "opts",none)],sScope (cell 112),sBody (cell 112),[(4,[])]⟩
noncomputable def f1299:FnA:=⟨[(S "name",none),(S "value",none),(S "check_keys",none),(S "opts",none)],sScope (cell 110),sBody (cell 110),[(4,[])]⟩
noncomputable def f1360:FnA:=⟨[(S "name",none),(S "dummy0",none),(S "dummy1",none),(S "dummy2",none)],sScope (cell 119),sBody (cell 119),[(4,[])]⟩
noncomputable def f1318:FnA:=⟨[(S "name",none),(S "value",none),(S "dummy0",none),(S "dummy1",none)],sScope (cell 113),sBody (cell 113),[(4,[])]⟩
noncomputable def f1133:FnA:=⟨[(S "data",none),(S "view",none),(S "position",none),(S "obj_end",none),(S "opts",none),(S "element_name",none)],sScope (cell 86),sBody (cell 86),[(6,[])]⟩
noncomputable def f1140:FnA:=⟨[(S "data",none),(S "_view",none),(S "position",none),(S "obj_end",none),(S "opts",none),(S "dummy1",none)],sScope (cell 87),sBody (cell 87),[(6,[])]⟩
noncomputable def f1154:FnA:=⟨[(S "data",none),(S "_view",none),(S "position",none),(S "dummy0",none),(S "dummy1",none),(S "dummy2",none)],sScope (cell 89),sBody (cell 89),[(6,[])]⟩
noncomputable def f1105:FnA:=⟨[(S "data",none),(S "view",none),(S "position",none),(S "opts",none)],sScope (cell 82),sBody (cell 82),[(4,[])]⟩
noncomputable def f1217:FnA:=⟨[(S "element_type",none),(S "data",none),(S "view",none),(S "position",none),(S "obj_end",none),(S "opts",none),(S "element_name",none)],sScope (cell 98),sBody (cell 98),[(7,[])]⟩
noncomputable def f1098:FnA:=⟨[(S "data",none),(S "_view",none),(S "position",none),(S "dummy0",none),(S "dummy1",none),(S "dummy2",none)],sScope (cell 81),sBody (cell 81),[(6,[])]⟩
noncomputable def f1126:FnA:=⟨[(S "data",none),(S "view",none),(S "position",none),(S "obj_end",none),(S "opts",none),(S "dummy",none)],sScope (cell 85),sBody (cell 85),[(6,[])]⟩
noncomputable def f1119:FnA:=⟨[(S "data",none),(S "position",none),(S "obj_end",none)],sScope (cell 84),sBody (cell 84),[(3,[])]⟩
noncomputable def f1112:FnA:=⟨[(S "data",none),(S "view",none),(S "position",none),(S "obj_end",none),(S "opts",none),(S "dummy",none)],sScope (cell 83),sBody (cell 83),[(6,[])]⟩
noncomputable def f1077:FnA:=⟨[(S "data",none),(S "position",none)],sScope (cell 78),sBody (cell 78),[(2,[])]⟩
noncomputable def f1514:FnA:=⟨[(S "one",none),(S "two",none)],sScope (cell 142),sBody (cell 142),[(2,[])]⟩
noncomputable def f1490:FnA:=⟨[(S "octets",none)],sScope (cell 138),sBody (cell 138),[(1,[])]⟩
noncomputable def f1502:FnA:=⟨[(S "octets",none)],sScope (cell 140),sBody (cell 140),[(1,[])]⟩
noncomputable def f1495:FnA:=⟨[(S "number",none),(S "size",none)],sScope (cell 139),sBody (cell 139),[(2,[])]⟩
noncomputable def f1509:FnA:=⟨[(S "n",none)],sScope (cell 141),sBody (cell 141),[(1,[])]⟩
noncomputable def f1483:FnA:=⟨[(S "octets",none),(S "at",none)],sScope (cell 137),sBody (cell 137),[(2,[])]⟩
noncomputable def f1287:FnA:=⟨[(S "string",none)],sScope (cell 108),sBody (cell 108),[(1,[])]⟩
noncomputable def f1424:FnA:=⟨[(S "name",none),(S "value",none),(S "check_keys",none),(S "opts",none),(S "in_fallback_call",some (AV.bool false))],sScope (cell 128),sBody (cell 128),[(4,[]),(5,[])]⟩
noncomputable def f1028:FnA:=⟨[(S "data",none),(S "position",none),(S "size",none),(S "signed",none)],sScope (cell 71),sBody (cell 71),[(4,[])]⟩
noncomputable def f1063:FnA:=⟨[(S "octets",none),(S "errors",none),(S "final",none)],sScope (cell 76),sBody (cell 76),[(3,[])]⟩
noncomputable def f1070:FnA:=⟨[(S "string",none)],sScope (cell 77),sBody (cell 77),[(1,[])]⟩
noncomputable def f1455:FnA:=⟨[(S "data",none),(S "codec_options",some AV.none)],sScope (cell 132),sBody (cell 132),[(1,[])]⟩
noncomputable def f1470:FnA:=⟨[(S "data",none),(S "codec_options",some AV.none)],sScope (cell 134),sBody (cell 134),[(1,[])]⟩
noncomputable def f1447:FnA:=⟨[(S "document",none),(S "check_keys",some (AV.bool false)),(S "codec_options",some (AV.obj 262))],sScope (cell 131),sBody (cell 131),[(1,[])]⟩
noncomputable def f1084:FnA:=⟨[(S "data",none)],sScope (cell 79),sBody (cell 79),[(1,[])]⟩
noncomputable def f1519:FnA:=⟨[(S "script",none)],sScope (cell 143),sBody (cell 143),[(1,[])]⟩
noncomputable def fnL:List (Nat × FnA):=[(1245,f1245),(1035,f1035),(1042,f1042),(1238,f1238),(1462,f1462),(1439,f1439),(1431,f1431),(1224,f1224),(1231,f1231),(1346,f1346),(1294,f1294),(1381,f1381),(1311,f1311),(1299,f1299),(1360,f1360),(1318,f1318),(1133,f1133),(1140,f1140),(1154,f1154),(1105,f1105),(1217,f1217),(1098,f1098),(1126,f1126),(1119,f1119),(1112,f1112),(1077,f1077),(1514,f1514),(1490,f1490),(1502,f1502),(1495,f1495),(1509,f1509),(1483,f1483),(1287,f1287),(1424,f1424),(1028,f1028),(1063,f1063),(1070,f1070),(1455,f1455),(1470,f1470),(1447,f1447),(1084,f1084),(1519,f1519)]
noncomputable def fnT (a:Addr):Option FnA:=lookN a fnL
noncomputable def globT (x:Str):Option AV:=lookS x globL
end
noncomputable section
open PySem PySem.W PySem.Calls PyProof.Rows
set_option maxRecDepth 100000
set_option maxHeartbeats 0
noncomputable def tinW (P:Params):Heap:=tiny (boot_o_0 P) (v2_1 P) (v3_41 P) (boot_o_4 P)
noncomputable def exTup:Str × AV→Bool
 | (_,.tup _)=>true
 | _=>false
theorem glob_chk (P:Params):(globL.all fun p=>exTup p||gChk (tinW P) p)=true:=by kernel_rfl
theorem tin_ns (P:Params):((tinW P).isNs builtinsNs&&(tinW P).isNs mainGlobals&&(tinW P).noLimitOk)=true:=by kernel_rfl
theorem k1245 (w:World)(os:OsState)(r:Shared)(T:FinT w os r):FnOK ⟨prog,w⟩ r.heap 1245 f1245 :=
 fnOK_of [] nilIn [(S "value",none)] (tr T 1245 o1245) rfl rfl rfl rfl rfl rfl ⟨1244,_,_,_,rfl,(tr T 1244 o1244),rfl,rfl⟩ (by kernel_rfl) ⟨fun u0=>⟨[u0],by kernel_rfl,fun S=>by kernel_rfl⟩,trivial⟩ ⟨rfl,trivial,trivial⟩
theorem k1035 (w:World)(os:OsState)(r:Shared)(T:FinT w os r):FnOK ⟨prog,w⟩ r.heap 1035 f1035 :=
 fnOK_of [] nilIn [(S "data",none),(S "position",none)] (tr T 1035 o1035) rfl rfl rfl rfl rfl rfl ⟨1034,_,_,_,rfl,(tr T 1034 o1034),rfl,rfl⟩ (by kernel_rfl) ⟨fun u0 u1=>⟨[u0,u1],by kernel_rfl,fun S=>by kernel_rfl⟩,trivial⟩ ⟨rfl,trivial,⟨rfl,trivial,trivial⟩⟩
theorem k1042 (w:World)(os:OsState)(r:Shared)(T:FinT w os r):FnOK ⟨prog,w⟩ r.heap 1042 f1042 :=
 fnOK_of [] nilIn [(S "data",none),(S "position",none)] (tr T 1042 o1042) rfl rfl rfl rfl rfl rfl ⟨1041,_,_,_,rfl,(tr T 1041 o1041),rfl,rfl⟩ (by kernel_rfl) ⟨fun u0 u1=>⟨[u0,u1],by kernel_rfl,fun S=>by kernel_rfl⟩,trivial⟩ ⟨rfl,trivial,⟨rfl,trivial,trivial⟩⟩
theorem k1238 (w:World)(os:OsState)(r:Shared)(T:FinT w os r):FnOK ⟨prog,w⟩ r.heap 1238 f1238 :=
 fnOK_of [] nilIn [(S "data",none),(S "opts",none)] (tr T 1238 o1238) rfl rfl rfl rfl rfl rfl ⟨1237,_,_,_,rfl,(tr T 1237 o1237),rfl,rfl⟩ (by kernel_rfl) ⟨fun u0 u1=>⟨[u0,u1],by kernel_rfl,fun S=>by kernel_rfl⟩,trivial⟩ ⟨rfl,trivial,⟨rfl,trivial,trivial⟩⟩
theorem k1462 (w:World)(os:OsState)(r:Shared)(T:FinT w os r):FnOK ⟨prog,w⟩ r.heap 1462 f1462 :=
 fnOK_of [] nilIn [(S "data",none),(S "opts",none)] (tr T 1462 o1462) rfl rfl rfl rfl rfl rfl ⟨1461,_,_,_,rfl,(tr T 1461 o1461),rfl,rfl⟩ (by kernel_rfl) ⟨fun u0 u1=>⟨[u0,u1],by kernel_rfl,fun S=>by kernel_rfl⟩,trivial⟩ ⟨rfl,trivial,⟨rfl,trivial,trivial⟩⟩
theorem k1439 (w:World)(os:OsState)(r:Shared)(T:FinT w os r):FnOK ⟨prog,w⟩ r.heap 1439 f1439 :=
 fnOK_of [(1432,o1432 w.params)] (oneIn (tr T 1432 o1432)) [(S "doc",none),(S "check_keys",none),(S "opts",none),(S "top_level",some (.bool true))] (tr T 1439 o1439) rfl rfl rfl rfl rfl rfl ⟨1438,_,_,_,rfl,(tr T 1438 o1438),rfl,rfl⟩ (by kernel_rfl) ⟨fun u0 u1 u2=>⟨[u0,u1,u2,(.bool true)],by kernel_rfl,fun S=>by kernel_rfl⟩,fun u0 u1 u2 u3=>⟨[u0,u1,u2,u3],by kernel_rfl,fun S=>by kernel_rfl⟩,trivial⟩ ⟨rfl,trivial,⟨rfl,trivial,⟨rfl,trivial,⟨rfl,chkV_ok (by kernel_rfl),trivial⟩⟩⟩⟩
theorem k1431 (w:World)(os:OsState)(r:Shared)(T:FinT w os r):FnOK ⟨prog,w⟩ r.heap 1431 f1431 :=
 fnOK_of [] nilIn [(S "key",none),(S "value",none),(S "check_keys",none),(S "opts",none)] (tr T 1431 o1431) rfl rfl rfl rfl rfl rfl ⟨1430,_,_,_,rfl,(tr T 1430 o1430),rfl,rfl⟩ (by kernel_rfl) ⟨fun u0 u1 u2 u3=>⟨[u0,u1,u2,u3],by kernel_rfl,fun S=>by kernel_rfl⟩,trivial⟩ ⟨rfl,trivial,⟨rfl,trivial,⟨rfl,trivial,⟨rfl,trivial,trivial⟩⟩⟩⟩
theorem k1224 (w:World)(os:OsState)(r:Shared)(T:FinT w os r):FnOK ⟨prog,w⟩ r.heap 1224 f1224 :=
 fnOK_of [] nilIn [(S "data",none),(S "view",none),(S "position",none),(S "obj_end",none),(S "opts",none)] (tr T 1224 o1224) rfl rfl rfl rfl rfl rfl ⟨1223,_,_,_,rfl,(tr T 1223 o1223),rfl,rfl⟩ (by kernel_rfl) ⟨fun u0 u1 u2 u3 u4=>⟨[u0,u1,u2,u3,u4],by kernel_rfl,fun S=>by kernel_rfl⟩,trivial⟩ ⟨rfl,trivial,⟨rfl,trivial,⟨rfl,trivial,⟨rfl,trivial,⟨rfl,trivial,trivial⟩⟩⟩⟩⟩
theorem k1231 (w:World)(os:OsState)(r:Shared)(T:FinT w os r):FnOK ⟨prog,w⟩ r.heap 1231 f1231 :=
 fnOK_of [] nilIn [(S "data",none),(S "view",none),(S "position",none),(S "obj_end",none),(S "opts",none)] (tr T 1231 o1231) rfl rfl rfl rfl rfl rfl ⟨1230,_,_,_,rfl,(tr T 1230 o1230),rfl,rfl⟩ (by kernel_rfl) ⟨fun u0 u1 u2 u3 u4=>⟨[u0,u1,u2,u3,u4],by kernel_rfl,fun S=>by kernel_rfl⟩,trivial⟩ ⟨rfl,trivial,⟨rfl,trivial,⟨rfl,trivial,⟨rfl,trivial,⟨rfl,trivial,trivial⟩⟩⟩⟩⟩
theorem k1346 (w:World)(os:OsState)(r:Shared)(T:FinT w os r):FnOK ⟨prog,w⟩ r.heap 1346 f1346 :=
 fnOK_of [] nilIn [(S "name",none),(S "value",none),(S "dummy0",none),(S "dummy1",none)] (tr T 1346 o1346) rfl rfl rfl rfl rfl rfl ⟨1345,_,_,_,rfl,(tr T 1345 o1345),rfl,rfl⟩ (by kernel_rfl) ⟨fun u0 u1 u2 u3=>⟨[u0,u1,u2,u3],by kernel_rfl,fun S=>by kernel_rfl⟩,trivial⟩ ⟨rfl,trivial,⟨rfl,trivial,⟨rfl,trivial,⟨rfl,trivial,trivial⟩⟩⟩⟩
theorem k1294 (w:World)(os:OsState)(r:Shared)(T:FinT w os r):FnOK ⟨prog,w⟩ r.heap 1294 f1294 :=
 fnOK_of [] nilIn [(S "name",none),(S "value",none),(S "dummy0",none),(S "dummy1",none)] (tr T 1294 o1294) rfl rfl rfl rfl rfl rfl ⟨1293,_,_,_,rfl,(tr T 1293 o1293),rfl,rfl⟩ (by kernel_rfl) ⟨fun u0 u1 u2 u3=>⟨[u0,u1,u2,u3],by kernel_rfl,fun S=>by kernel_rfl⟩,trivial⟩ ⟨rfl,trivial,⟨rfl,trivial,⟨rfl,trivial,⟨rfl,trivial,trivial⟩⟩⟩⟩
theorem k1381 (w:World)(os:OsState)(r:Shared)(T:FinT w os r):FnOK ⟨prog,w⟩ r.heap 1381 f1381 :=
 fnOK_of [] nilIn [(S "name",none),(S "value",none),(S "dummy0",none),(S "dummy1",none)] (tr T 1381 o1381) rfl rfl rfl rfl rfl rfl ⟨1380,_,_,_,rfl,(tr T 1380 o1380),rfl,rfl⟩ (by kernel_rfl) ⟨fun u0 u1 u2 u3=>⟨[u0,u1,u2,u3],by kernel_rfl,fun S=>by kernel_rfl⟩,trivial⟩ ⟨rfl,trivial,⟨rfl,trivial,⟨rfl,trivial,⟨rfl,trivial,trivial⟩⟩⟩⟩
theorem k1311 (w:World)(os:OsState)(r:Shared)(T:FinT w os r):FnOK ⟨prog,w⟩ r.heap 1311 f1311 :=
 fnOK_of [] nilIn [(S "name",none),(S "value",none),(S "check_keys",none),(S "opts",none)] (tr T 1311 o1311) rfl rfl rfl rfl rfl rfl ⟨1310,_,_,_,rfl,(tr T 1310 o1310),rfl,rfl⟩ (by kernel_rfl) ⟨fun u0 u1 u2 u3=>⟨[u0,u1,u2,u3],by kernel_rfl,fun S=>by kernel_rfl⟩,trivial⟩ ⟨rfl,trivial,⟨rfl,trivial,⟨rfl,trivial,⟨rfl,trivial,trivial⟩⟩⟩⟩
theorem k1299 (w:World)(os:OsState)(r:Shared)(T:FinT w os r):FnOK ⟨prog,w⟩ r.heap 1299 f1299 :=
 fnOK_of [] nilIn [(S "name",none),(S "value",none),(S "check_keys",none),(S "opts",none)] (tr T 1299 o1299) rfl rfl rfl rfl rfl rfl ⟨1298,_,_,_,rfl,(tr T 1298 o1298),rfl,rfl⟩ (by kernel_rfl) ⟨fun u0 u1 u2 u3=>⟨[u0,u1,u2,u3],by kernel_rfl,fun S=>by kernel_rfl⟩,trivial⟩ ⟨rfl,trivial,⟨rfl,trivial,⟨rfl,trivial,⟨rfl,trivial,trivial⟩⟩⟩⟩
theorem k1360 (w:World)(os:OsState)(r:Shared)(T:FinT w os r):FnOK ⟨prog,w⟩ r.heap 1360 f1360 :=
 fnOK_of [] nilIn [(S "name",none),(S "dummy0",none),(S "dummy1",none),(S "dummy2",none)] (tr T 1360 o1360) rfl rfl rfl rfl rfl rfl ⟨1359,_,_,_,rfl,(tr T 1359 o1359),rfl,rfl⟩ (by kernel_rfl) ⟨fun u0 u1 u2 u3=>⟨[u0,u1,u2,u3],by kernel_rfl,fun S=>by kernel_rfl⟩,trivial⟩ ⟨rfl,trivial,⟨rfl,trivial,⟨rfl,trivial,⟨rfl,trivial,trivial⟩⟩⟩⟩
theorem k1318 (w:World)(os:OsState)(r:Shared)(T:FinT w os r):FnOK ⟨prog,w⟩ r.heap 1318 f1318 :=
 fnOK_of [] nilIn [(S "name",none),(S "value",none),(S "dummy0",none),(S "dummy1",none)] (tr T 1318 o1318) rfl rfl rfl rfl rfl rfl ⟨1317,_,_,_,rfl,(tr T 1317 o1317),rfl,rfl⟩ (by kernel_rfl) ⟨fun u0 u1 u2 u3=>⟨[u0,u1,u2,u3],by kernel_rfl,fun S=>by kernel_rfl⟩,trivial⟩ ⟨rfl,trivial,⟨rfl,trivial,⟨rfl,trivial,⟨rfl,trivial,trivial⟩⟩⟩⟩
theorem k1133 (w:World)(os:OsState)(r:Shared)(T:FinT w os r):FnOK ⟨prog,w⟩ r.heap 1133 f1133 :=
 fnOK_of [] nilIn [(S "data",none),(S "view",none),(S "position",none),(S "obj_end",none),(S "opts",none),(S "element_name",none)] (tr T 1133 o1133) rfl rfl rfl rfl rfl rfl ⟨1132,_,_,_,rfl,(tr T 1132 o1132),rfl,rfl⟩ (by kernel_rfl) ⟨fun u0 u1 u2 u3 u4 u5=>⟨[u0,u1,u2,u3,u4,u5],by kernel_rfl,fun S=>by kernel_rfl⟩,trivial⟩ ⟨rfl,trivial,⟨rfl,trivial,⟨rfl,trivial,⟨rfl,trivial,⟨rfl,trivial,⟨rfl,trivial,trivial⟩⟩⟩⟩⟩⟩
theorem k1140 (w:World)(os:OsState)(r:Shared)(T:FinT w os r):FnOK ⟨prog,w⟩ r.heap 1140 f1140 :=
 fnOK_of [] nilIn [(S "data",none),(S "_view",none),(S "position",none),(S "obj_end",none),(S "opts",none),(S "dummy1",none)] (tr T 1140 o1140) rfl rfl rfl rfl rfl rfl ⟨1139,_,_,_,rfl,(tr T 1139 o1139),rfl,rfl⟩ (by kernel_rfl) ⟨fun u0 u1 u2 u3 u4 u5=>⟨[u0,u1,u2,u3,u4,u5],by kernel_rfl,fun S=>by kernel_rfl⟩,trivial⟩ ⟨rfl,trivial,⟨rfl,trivial,⟨rfl,trivial,⟨rfl,trivial,⟨rfl,trivial,⟨rfl,trivial,trivial⟩⟩⟩⟩⟩⟩
theorem k1154 (w:World)(os:OsState)(r:Shared)(T:FinT w os r):FnOK ⟨prog,w⟩ r.heap 1154 f1154 :=
 fnOK_of [] nilIn [(S "data",none),(S "_view",none),(S "position",none),(S "dummy0",none),(S "dummy1",none),(S "dummy2",none)] (tr T 1154 o1154) rfl rfl rfl rfl rfl rfl ⟨1153,_,_,_,rfl,(tr T 1153 o1153),rfl,rfl⟩ (by kernel_rfl) ⟨fun u0 u1 u2 u3 u4 u5=>⟨[u0,u1,u2,u3,u4,u5],by kernel_rfl,fun S=>by kernel_rfl⟩,trivial⟩ ⟨rfl,trivial,⟨rfl,trivial,⟨rfl,trivial,⟨rfl,trivial,⟨rfl,trivial,⟨rfl,trivial,trivial⟩⟩⟩⟩⟩⟩
theorem k1105 (w:World)(os:OsState)(r:Shared)(T:FinT w os r):FnOK ⟨prog,w⟩ r.heap 1105 f1105 :=
 fnOK_of [] nilIn [(S "data",none),(S "view",none),(S "position",none),(S "opts",none)] (tr T 1105 o1105) rfl rfl rfl rfl rfl rfl ⟨1104,_,_,_,rfl,(tr T 1104 o1104),rfl,rfl⟩ (by kernel_rfl) ⟨fun u0 u1 u2 u3=>⟨[u0,u1,u2,u3],by kernel_rfl,fun S=>by kernel_rfl⟩,trivial⟩ ⟨rfl,trivial,⟨rfl,trivial,⟨rfl,trivial,⟨rfl,trivial,trivial⟩⟩⟩⟩
theorem k1217 (w:World)(os:OsState)(r:Shared)(T:FinT w os r):FnOK ⟨prog,w⟩ r.heap 1217 f1217 :=
 fnOK_of [] nilIn [(S "element_type",none),(S "data",none),(S "view",none),(S "position",none),(S "obj_end",none),(S "opts",none),(S "element_name",none)] (tr T 1217 o1217) rfl rfl rfl rfl rfl rfl ⟨1216,_,_,_,rfl,(tr T 1216 o1216),rfl,rfl⟩ (by kernel_rfl) ⟨fun u0 u1 u2 u3 u4 u5 u6=>⟨[u0,u1,u2,u3,u4,u5,u6],by kernel_rfl,fun S=>by kernel_rfl⟩,trivial⟩ ⟨rfl,trivial,⟨rfl,trivial,⟨rfl,trivial,⟨rfl,trivial,⟨rfl,trivial,⟨rfl,trivial,⟨rfl,trivial,trivial⟩⟩⟩⟩⟩⟩⟩
theorem k1098 (w:World)(os:OsState)(r:Shared)(T:FinT w os r):FnOK ⟨prog,w⟩ r.heap 1098 f1098 :=
 fnOK_of [] nilIn [(S "data",none),(S "_view",none),(S "position",none),(S "dummy0",none),(S "dummy1",none),(S "dummy2",none)] (tr T 1098 o1098) rfl rfl rfl rfl rfl rfl ⟨1097,_,_,_,rfl,(tr T 1097 o1097),rfl,rfl⟩ (by kernel_rfl) ⟨fun u0 u1 u2 u3 u4 u5=>⟨[u0,u1,u2,u3,u4,u5],by kernel_rfl,fun S=>by kernel_rfl⟩,trivial⟩ ⟨rfl,trivial,⟨rfl,trivial,⟨rfl,trivial,⟨rfl,trivial,⟨rfl,trivial,⟨rfl,trivial,trivial⟩⟩⟩⟩⟩⟩
theorem k1126 (w:World)(os:OsState)(r:Shared)(T:FinT w os r):FnOK ⟨prog,w⟩ r.heap 1126 f1126 :=
 fnOK_of [] nilIn [(S "data",none),(S "view",none),(S "position",none),(S "obj_end",none),(S "opts",none),(S "dummy",none)] (tr T 1126 o1126) rfl rfl rfl rfl rfl rfl ⟨1125,_,_,_,rfl,(tr T 1125 o1125),rfl,rfl⟩ (by kernel_rfl) ⟨fun u0 u1 u2 u3 u4 u5=>⟨[u0,u1,u2,u3,u4,u5],by kernel_rfl,fun S=>by kernel_rfl⟩,trivial⟩ ⟨rfl,trivial,⟨rfl,trivial,⟨rfl,trivial,⟨rfl,trivial,⟨rfl,trivial,⟨rfl,trivial,trivial⟩⟩⟩⟩⟩⟩
theorem k1119 (w:World)(os:OsState)(r:Shared)(T:FinT w os r):FnOK ⟨prog,w⟩ r.heap 1119 f1119 :=
 fnOK_of [] nilIn [(S "data",none),(S "position",none),(S "obj_end",none)] (tr T 1119 o1119) rfl rfl rfl rfl rfl rfl ⟨1118,_,_,_,rfl,(tr T 1118 o1118),rfl,rfl⟩ (by kernel_rfl) ⟨fun u0 u1 u2=>⟨[u0,u1,u2],by kernel_rfl,fun S=>by kernel_rfl⟩,trivial⟩ ⟨rfl,trivial,⟨rfl,trivial,⟨rfl,trivial,trivial⟩⟩⟩
theorem k1112 (w:World)(os:OsState)(r:Shared)(T:FinT w os r):FnOK ⟨prog,w⟩ r.heap 1112 f1112 :=
 fnOK_of [] nilIn [(S "data",none),(S "view",none),(S "position",none),(S "obj_end",none),(S "opts",none),(S "dummy",none)] (tr T 1112 o1112) rfl rfl rfl rfl rfl rfl ⟨1111,_,_,_,rfl,(tr T 1111 o1111),rfl,rfl⟩ (by kernel_rfl) ⟨fun u0 u1 u2 u3 u4 u5=>⟨[u0,u1,u2,u3,u4,u5],by kernel_rfl,fun S=>by kernel_rfl⟩,trivial⟩ ⟨rfl,trivial,⟨rfl,trivial,⟨rfl,trivial,⟨rfl,trivial,⟨rfl,trivial,⟨rfl,trivial,trivial⟩⟩⟩⟩⟩⟩
theorem k1077 (w:World)(os:OsState)(r:Shared)(T:FinT w os r):FnOK ⟨prog,w⟩ r.heap 1077 f1077 :=
 fnOK_of [] nilIn [(S "data",none),(S "position",none)] (tr T 1077 o1077) rfl rfl rfl rfl rfl rfl ⟨1076,_,_,_,rfl,(tr T 1076 o1076),rfl,rfl⟩ (by kernel_rfl) ⟨fun u0 u1=>⟨[u0,u1],by kernel_rfl,fun S=>by kernel_rfl⟩,trivial⟩ ⟨rfl,trivial,⟨rfl,trivial,trivial⟩⟩
theorem k1514 (w:World)(os:OsState)(r:Shared)(T:FinT w os r):FnOK ⟨prog,w⟩ r.heap 1514 f1514 :=
 fnOK_of [] nilIn [(S "one",none),(S "two",none)] (tr T 1514 o1514) rfl rfl rfl rfl rfl rfl ⟨1513,_,_,_,rfl,(tr T 1513 o1513),rfl,rfl⟩ (by kernel_rfl) ⟨fun u0 u1=>⟨[u0,u1],by kernel_rfl,fun S=>by kernel_rfl⟩,trivial⟩ ⟨rfl,trivial,⟨rfl,trivial,trivial⟩⟩
theorem k1490 (w:World)(os:OsState)(r:Shared)(T:FinT w os r):FnOK ⟨prog,w⟩ r.heap 1490 f1490 :=
 fnOK_of [] nilIn [(S "octets",none)] (tr T 1490 o1490) rfl rfl rfl rfl rfl rfl ⟨1489,_,_,_,rfl,(tr T 1489 o1489),rfl,rfl⟩ (by kernel_rfl) ⟨fun u0=>⟨[u0],by kernel_rfl,fun S=>by kernel_rfl⟩,trivial⟩ ⟨rfl,trivial,trivial⟩
theorem k1502 (w:World)(os:OsState)(r:Shared)(T:FinT w os r):FnOK ⟨prog,w⟩ r.heap 1502 f1502 :=
 fnOK_of [] nilIn [(S "octets",none)] (tr T 1502 o1502) rfl rfl rfl rfl rfl rfl ⟨1501,_,_,_,rfl,(tr T 1501 o1501),rfl,rfl⟩ (by kernel_rfl) ⟨fun u0=>⟨[u0],by kernel_rfl,fun S=>by kernel_rfl⟩,trivial⟩ ⟨rfl,trivial,trivial⟩
theorem k1495 (w:World)(os:OsState)(r:Shared)(T:FinT w os r):FnOK ⟨prog,w⟩ r.heap 1495 f1495 :=
 fnOK_of [] nilIn [(S "number",none),(S "size",none)] (tr T 1495 o1495) rfl rfl rfl rfl rfl rfl ⟨1494,_,_,_,rfl,(tr T 1494 o1494),rfl,rfl⟩ (by kernel_rfl) ⟨fun u0 u1=>⟨[u0,u1],by kernel_rfl,fun S=>by kernel_rfl⟩,trivial⟩ ⟨rfl,trivial,⟨rfl,trivial,trivial⟩⟩
theorem k1509 (w:World)(os:OsState)(r:Shared)(T:FinT w os r):FnOK ⟨prog,w⟩ r.heap 1509 f1509 :=
 fnOK_of [] nilIn [(S "n",none)] (tr T 1509 o1509) rfl rfl rfl rfl rfl rfl ⟨1508,_,_,_,rfl,(tr T 1508 o1508),rfl,rfl⟩ (by kernel_rfl) ⟨fun u0=>⟨[u0],by kernel_rfl,fun S=>by kernel_rfl⟩,trivial⟩ ⟨rfl,trivial,trivial⟩
theorem k1483 (w:World)(os:OsState)(r:Shared)(T:FinT w os r):FnOK ⟨prog,w⟩ r.heap 1483 f1483 :=
 fnOK_of [] nilIn [(S "octets",none),(S "at",none)] (tr T 1483 o1483) rfl rfl rfl rfl rfl rfl ⟨1482,_,_,_,rfl,(tr T 1482 o1482),rfl,rfl⟩ (by kernel_rfl) ⟨fun u0 u1=>⟨[u0,u1],by kernel_rfl,fun S=>by kernel_rfl⟩,trivial⟩ ⟨rfl,trivial,⟨rfl,trivial,trivial⟩⟩
theorem k1287 (w:World)(os:OsState)(r:Shared)(T:FinT w os r):FnOK ⟨prog,w⟩ r.heap 1287 f1287 :=
 fnOK_of [] nilIn [(S "string",none)] (tr T 1287 o1287) rfl rfl rfl rfl rfl rfl ⟨1286,_,_,_,rfl,(tr T 1286 o1286),rfl,rfl⟩ (by kernel_rfl) ⟨fun u0=>⟨[u0],by kernel_rfl,fun S=>by kernel_rfl⟩,trivial⟩ ⟨rfl,trivial,trivial⟩
theorem k1424 (w:World)(os:OsState)(r:Shared)(T:FinT w os r):FnOK ⟨prog,w⟩ r.heap 1424 f1424 :=
 fnOK_of [(1417,o1417 w.params)] (oneIn (tr T 1417 o1417)) [(S "name",none),(S "value",none),(S "check_keys",none),(S "opts",none),(S "in_fallback_call",some (.bool false))] (tr T 1424 o1424) rfl rfl rfl rfl rfl rfl ⟨1423,_,_,_,rfl,(tr T 1423 o1423),rfl,rfl⟩ (by kernel_rfl) ⟨fun u0 u1 u2 u3=>⟨[u0,u1,u2,u3,(.bool false)],by kernel_rfl,fun S=>by kernel_rfl⟩,fun u0 u1 u2 u3 u4=>⟨[u0,u1,u2,u3,u4],by kernel_rfl,fun S=>by kernel_rfl⟩,trivial⟩ ⟨rfl,trivial,⟨rfl,trivial,⟨rfl,trivial,⟨rfl,trivial,⟨rfl,chkV_ok (by kernel_rfl),trivial⟩⟩⟩⟩⟩
theorem k1028 (w:World)(os:OsState)(r:Shared)(T:FinT w os r):FnOK ⟨prog,w⟩ r.heap 1028 f1028 :=
 fnOK_of [] nilIn [(S "data",none),(S "position",none),(S "size",none),(S "signed",none)] (tr T 1028 o1028) rfl rfl rfl rfl rfl rfl ⟨1027,_,_,_,rfl,(tr T 1027 o1027),rfl,rfl⟩ (by kernel_rfl) ⟨fun u0 u1 u2 u3=>⟨[u0,u1,u2,u3],by kernel_rfl,fun S=>by kernel_rfl⟩,trivial⟩ ⟨rfl,trivial,⟨rfl,trivial,⟨rfl,trivial,⟨rfl,trivial,trivial⟩⟩⟩⟩
theorem k1063 (w:World)(os:OsState)(r:Shared)(T:FinT w os r):FnOK ⟨prog,w⟩ r.heap 1063 f1063 :=
 fnOK_of [] nilIn [(S "octets",none),(S "errors",none),(S "final",none)] (tr T 1063 o1063) rfl rfl rfl rfl rfl rfl ⟨1062,_,_,_,rfl,(tr T 1062 o1062),rfl,rfl⟩ (by kernel_rfl) ⟨fun u0 u1 u2=>⟨[u0,u1,u2],by kernel_rfl,fun S=>by kernel_rfl⟩,trivial⟩ ⟨rfl,trivial,⟨rfl,trivial,⟨rfl,trivial,trivial⟩⟩⟩
theorem k1070 (w:World)(os:OsState)(r:Shared)(T:FinT w os r):FnOK ⟨prog,w⟩ r.heap 1070 f1070 :=
 fnOK_of [] nilIn [(S "string",none)] (tr T 1070 o1070) rfl rfl rfl rfl rfl rfl ⟨1069,_,_,_,rfl,(tr T 1069 o1069),rfl,rfl⟩ (by kernel_rfl) ⟨fun u0=>⟨[u0],by kernel_rfl,fun S=>by kernel_rfl⟩,trivial⟩ ⟨rfl,trivial,trivial⟩
theorem k1455 (w:World)(os:OsState)(r:Shared)(T:FinT w os r):FnOK ⟨prog,w⟩ r.heap 1455 f1455 :=
 fnOK_of [(1448,o1448 w.params)] (oneIn (tr T 1448 o1448)) [(S "data",none),(S "codec_options",some .none)] (tr T 1455 o1455) rfl rfl rfl rfl rfl rfl ⟨1454,_,_,_,rfl,(tr T 1454 o1454),rfl,rfl⟩ (by kernel_rfl) ⟨fun u0=>⟨[u0,.none],by kernel_rfl,fun S=>by kernel_rfl⟩,trivial⟩ ⟨rfl,trivial,⟨rfl,chkV_ok (by kernel_rfl),trivial⟩⟩
theorem k1470 (w:World)(os:OsState)(r:Shared)(T:FinT w os r):FnOK ⟨prog,w⟩ r.heap 1470 f1470 :=
 fnOK_of [(1463,o1463 w.params)] (oneIn (tr T 1463 o1463)) [(S "data",none),(S "codec_options",some .none)] (tr T 1470 o1470) rfl rfl rfl rfl rfl rfl ⟨1469,_,_,_,rfl,(tr T 1469 o1469),rfl,rfl⟩ (by kernel_rfl) ⟨fun u0=>⟨[u0,.none],by kernel_rfl,fun S=>by kernel_rfl⟩,trivial⟩ ⟨rfl,trivial,⟨rfl,chkV_ok (by kernel_rfl),trivial⟩⟩
theorem k1447 (w:World)(os:OsState)(r:Shared)(T:FinT w os r):FnOK ⟨prog,w⟩ r.heap 1447 f1447 :=
 fnOK_of [(1440,o1440 w.params)] (oneIn (tr T 1440 o1440)) [(S "document",none),(S "check_keys",some (.bool false)),(S "codec_options",some (.ref 262))] (tr T 1447 o1447) rfl rfl rfl rfl rfl rfl ⟨1446,_,_,_,rfl,(tr T 1446 o1446),rfl,rfl⟩ (by kernel_rfl) ⟨fun u0=>⟨[u0,(.bool false),(.ref 262)],by kernel_rfl,fun S=>by kernel_rfl⟩,trivial⟩ ⟨rfl,trivial,⟨rfl,chkV_ok (by kernel_rfl),⟨rfl,chkV_ok (by kernel_rfl),trivial⟩⟩⟩
theorem k1084 (w:World)(os:OsState)(r:Shared)(T:FinT w os r):FnOK ⟨prog,w⟩ r.heap 1084 f1084 :=
 fnOK_of [] nilIn [(S "data",none)] (tr T 1084 o1084) rfl rfl rfl rfl rfl rfl ⟨1083,_,_,_,rfl,(tr T 1083 o1083),rfl,rfl⟩ (by kernel_rfl) ⟨fun u0=>⟨[u0],by kernel_rfl,fun S=>by kernel_rfl⟩,trivial⟩ ⟨rfl,trivial,trivial⟩
theorem k1519 (w:World)(os:OsState)(r:Shared)(T:FinT w os r):FnOK ⟨prog,w⟩ r.heap 1519 f1519 :=
 fnOK_of [] nilIn [(S "script",none)] (tr T 1519 o1519) rfl rfl rfl rfl rfl rfl ⟨1518,_,_,_,rfl,(tr T 1518 o1518),rfl,rfl⟩ (by kernel_rfl) ⟨fun u0=>⟨[u0],by kernel_rfl,fun S=>by kernel_rfl⟩,trivial⟩ ⟨rfl,trivial,trivial⟩
theorem fnsW (w:World)(os:OsState)(r:Shared)(T:FinT w os r):∀a f,fnT a=some f→FnOK ⟨prog,w⟩ r.heap a f :=
 lookN_all (P:=fun a f=>FnOK ⟨prog,w⟩ r.heap a f) (fc (k1245 w os r T) (fc (k1035 w os r T) (fc (k1042 w os r T) (fc (k1238 w os r T) (fc (k1462 w os r T) (fc (k1439 w os r T) (fc (k1431 w os r T) (fc (k1224 w os r T) (fc (k1231 w os r T) (fc (k1346 w os r T) (fc (k1294 w os r T) (fc (k1381 w os r T) (fc (k1311 w os r T) (fc (k1299 w os r T) (fc (k1360 w os r T) (fc (k1318 w os r T) (fc (k1133 w os r T) (fc (k1140 w os r T) (fc (k1154 w os r T) (fc (k1105 w os r T) (fc (k1217 w os r T) (fc (k1098 w os r T) (fc (k1126 w os r T) (fc (k1119 w os r T) (fc (k1112 w os r T) (fc (k1077 w os r T) (fc (k1514 w os r T) (fc (k1490 w os r T) (fc (k1502 w os r T) (fc (k1495 w os r T) (fc (k1509 w os r T) (fc (k1483 w os r T) (fc (k1287 w os r T) (fc (k1424 w os r T) (fc (k1028 w os r T) (fc (k1063 w os r T) (fc (k1070 w os r T) (fc (k1455 w os r T) (fc (k1470 w os r T) (fc (k1447 w os r T) (fc (k1084 w os r T) (fc (k1519 w os r T) fn))))))))))))))))))))))))))))))))))))))))))
noncomputable def decL:List (List UInt8 × Str):=[([],S ""),([110],S "n"),([116],S "t"),([100],S "d"),([101],S "e"),([108],S "l"),([95,105,100],S "_id"),([111],S "o"),([120,0],S "x\x00"),
 ([0xe2,0x82,0xac],S "€"),([0xe2,0x82,0xac,0xe2,0x82,0xac],S "€€"),([0xe2,0x82,0xac,0xe2,0x82,0xac,0xe2,0x82,0xac],S "€€€"),([0xe2,0x82,0xac,0xe2,0x82,0xac,0xe2,0x82,0xac,0xe2,0x82,0xac],S "€€€€")]
noncomputable def lookB (b:List UInt8):List (List UInt8 × Str)→Option Str
 | []=>none
 | x::r=>match decide (b=x.1) with
  | true=>some x.2
  | false=>lookB b r
noncomputable def decT (b:List UInt8):Option Str:=lookB b decL
set_option tactic.hygienic true in
theorem lookB_all {P:List UInt8→Str→Prop}:∀{l:List (List UInt8 × Str)},(∀p∈l,P p.1 p.2)→∀b x,lookB b l=some x→P b x
 | [],_,b,x,e=>by exact nS e
 | y::r,h,b,x,e=>by
  unfold lookB at e
  split at e
  ·rename_i q
   obtain rfl:=sI e
   rw[of_decide_eq_true q]
   exact h _ (.head _)
  ·exact lookB_all (fun p hp=>h p (.tail _ hp)) b x e
theorem decT_ok:∀b x,decT b=some x→Reads8 b x:=lookB_all (by
 refine List.forall_mem_cons.mpr ⟨⟨by decide,.inl ⟨rfl,by kernel_rfl⟩⟩,?_⟩
 refine List.forall_mem_cons.mpr ⟨⟨by decide,.inr ⟨by simp,1,fun id=>by kernel_rfl⟩⟩,?_⟩
 refine List.forall_mem_cons.mpr ⟨⟨by decide,.inr ⟨by simp,1,fun id=>by kernel_rfl⟩⟩,?_⟩
 refine List.forall_mem_cons.mpr ⟨⟨by decide,.inr ⟨by simp,1,fun id=>by kernel_rfl⟩⟩,?_⟩
 refine List.forall_mem_cons.mpr ⟨⟨by decide,.inr ⟨by simp,1,fun id=>by kernel_rfl⟩⟩,?_⟩
 refine List.forall_mem_cons.mpr ⟨⟨by decide,.inr ⟨by simp,1,fun id=>by kernel_rfl⟩⟩,?_⟩
 refine List.forall_mem_cons.mpr ⟨⟨by decide,.inr ⟨by simp,3,fun id=>by kernel_rfl⟩⟩,?_⟩
 refine List.forall_mem_cons.mpr ⟨⟨by decide,.inr ⟨by simp,1,fun id=>by kernel_rfl⟩⟩,?_⟩
 refine List.forall_mem_cons.mpr ⟨⟨by decide,.inr ⟨by simp,2,fun id=>by kernel_rfl⟩⟩,?_⟩
 refine List.forall_mem_cons.mpr ⟨⟨by decide,.inr ⟨by simp,3,fun id=>by kernel_rfl⟩⟩,?_⟩
 refine List.forall_mem_cons.mpr ⟨⟨by decide,.inr ⟨by simp,6,fun id=>by kernel_rfl⟩⟩,?_⟩
 refine List.forall_mem_cons.mpr ⟨⟨by decide,.inr ⟨by simp,9,fun id=>by kernel_rfl⟩⟩,?_⟩
 refine List.forall_mem_cons.mpr ⟨⟨by decide,.inr ⟨by simp,12,fun id=>by kernel_rfl⟩⟩,?_⟩
 exact List.forall_mem_nil _)
noncomputable def isOT (k:Kd) (a:Addr):Option Bool:=match k with
 | .none=>match Nat.beq a 196 with
  | true=>some false
  | false=>none
 | _=>none
noncomputable def isXT (x a:Addr):Option Bool:=match Nat.beq x 262&&Nat.beq a 256 with
 | true=>some true
 | false=>none
noncomputable def attrT (a:Addr) (x:Str):Option AV:=match Nat.beq a 262&&sEqB x (S "unicode_decode_error_handler") with
 | true=>some (.str (S "strict"))
 | false=>none
noncomputable def isGnT (a:Addr):Bool:=Nat.beq a 1478
noncomputable def wTest:Stmt→PySem.Expr
 | .While t _ _ _=>t
 | _=>.Constant .none 0 default
noncomputable def wBody:Stmt→List Stmt
 | .While _ b _ _=>b
 | _=>[]
noncomputable def wPos:Stmt→Pos
 | .While _ _ _ p=>p
 | _=>default
noncomputable def yExp:Stmt→PySem.Expr
 | .Expr (.Yield (some e) _) _=>e
 | _=>.Constant .none 0 default
noncomputable def yPos:Stmt→Pos
 | .Expr (.Yield (some _) p) _=>p
 | _=>default
noncomputable def yPos':Stmt→Pos
 | .Expr _ p=>p
 | _=>default
noncomputable def gnOf (f:FnA) (b:List Stmt) (n m:Nat):GnA:=⟨f,b.take n,wTest (nthS b n),(wBody (nthS b n)).take m,yExp (nthS (wBody (nthS b n)) m)⟩
noncomputable def g1478:GnA:=gnOf ⟨[(S "data",none),(S "codec_options",some AV.none)],sScope (cell 135),[],[(1,[])]⟩ (sBody (cell 135)) 4 3
noncomputable def tgT (a:Addr):Option GnA:=match Nat.beq a 1478 with
 | true=>some g1478
 | false=>none
noncomputable def T0:GlobT:=⟨globT,attrT,isOT,isXT,decT,isGnT,fun J J J=>none,100⟩
noncomputable def TT:GlobT:={ T0 with gen:=genT0 T0 tgT }
theorem gnk (w:World)(os:OsState)(r:Shared)(T:FinT w os r):GnOK ⟨prog,w⟩ r.heap 1478 g1478 :=
 ⟨by kernel_rfl,by kernel_rfl,_,_,[(S "data",none),(S "codec_options",some .none)],yPos (nthS (wBody (nthS (sBody (cell 135)) 4)) 3),yPos' (nthS (wBody (nthS (sBody (cell 135)) 4)) 3),wPos (nthS (sBody (cell 135)) 4),tr T 1478 o1478,rfl,by kernel_rfl,rfl,rfl,rfl,rfl,
  ⟨1477,_,_,_,rfl,tr T 1477 o1477,rfl,rfl⟩,
  fun us ku q=>(by
   obtain ⟨vals,h1,h2⟩:=shapesHold_at (P:=fun us ku=>∃vals,bindG [(S "data",none),(S "codec_options",some Value.none)] us ku=some vals∧∀S',peek [(1471,o1471 w.params)] S' (bindArgs _ ⟨us,ku⟩)=some ((([(S "data",none),(S "codec_options",some Value.none)]:List (Str × Option Value)).map (fun x=>x.1)).zip vals)) (l:=g1478.f.shapes)
    ⟨fun u0=>⟨[u0,.none],by kernel_rfl,fun S=>by kernel_rfl⟩,trivial⟩ us ku q
   exact ⟨vals,h1,fun s k=>kp_binds (fun b o e=>k b o (oneIn (tr T 1471 o1471) b o e)) h2⟩),
  ⟨rfl,trivial,rfl,rfl,trivial⟩⟩
theorem glob_ent (w:World)(os:OsState)(r:Shared)(T:FinT w os r):∀x av,globT x=some av→GEnt ⟨prog,w⟩ r.heap (tinW w.params) x av:=fun x av h=>by
 have hm:=lookS_mem h
 have:=List.all_eq_true.mp (glob_chk w.params) _ hm
 rw[Bool.or_eq_true] at this
 rcases this with h|h
 ·have key:∀p∈globL,exTup p=true→GEnt ⟨prog,w⟩ r.heap (tinW w.params) p.1 p.2:=by
   have:∀p∈globL,exTup p=true→p=(S "ALL_UUID_SUBTYPES",AV.tup [.int 3,.int 4]):=by
    have hf:globL.filter exTup=[(S "ALL_UUID_SUBTYPES",AV.tup [.int 3,.int 4])]:=by kernel_rfl
    intro p hp e
    have:p∈globL.filter exTup:=List.mem_filter.mpr ⟨hp,e⟩
    rw[hf] at this
    simpa using this
   intro p hp e
   rw[this p hp e]
   refine ⟨by kernel_rfl,.ref 72,⟨72,#[.int 3 287,.int 4 288],rfl,id,⟨_,tr T 72 o72,rfl,0,rfl⟩,by decide,?_⟩,.inl (by kernel_rfl)⟩
   exact ⟨_,_,rfl,⟨_,rfl⟩,_,_,rfl,⟨_,rfl⟩,rfl⟩
  exact key _ hm h
 ·exact gChk_ok h
set_option tactic.hygienic true in
theorem wok (w:World)(os:OsState)(r:Shared)(T:FinT w os r):WOK ⟨prog,w⟩ r.heap TT fnT:=by
 have ns:=tin_ns w.params
 simp only[Bool.and_eq_true] at ns
 have h3:r.heap.get? 3=some (v3_41 w.params):=T.vol _ (.tail _ (.head _))
 have h2:r.heap.get? 2=some (v2_1 w.params):=T.vol _ (.head _)
 have gok:GOK ⟨prog,w⟩ r.heap (ctxF TT ⟨[],default,[],[]⟩ (fun J J J=>none) fun J J=>none):=gok_of (t:=tinW w.params) (T.b0.trans rfl) (h3.trans rfl) ns.1.1 ns.1.2 (glob_ent w os r T)
 have lim:r.heap.NoLimit:=by
  have e:r.heap.get? cStatics=(tinW w.params).get? cStatics:=h2.trans rfl
  refine Heap.NoLimit.of_ok ?_
  have q:=ns.2
  unfold Heap.noLimitOk at q ⊢
  rw[isNs_congr e,nsMap_congr e]; exact q
 have fi:Frag.In [(196,o196 w.params)] r.heap:=oneIn (tr T 196 o196)
 have fx:Frag.In [(256,o256 w.params),(255,o255 w.params)] r.heap:=consIn (tr T 256 o256) (oneIn (tr T 255 o255))
 have inst:∀h:Heap,(∀a o,r.heap.get? a=some o→h.get? a=some o)→InstAt h 262 (o262 w.params) 256 (some (o261 w.params)):=fun h k =>
  ⟨k _ _ (tr T 262 o262),rfl,by kernel_rfl,k _ _ (tr T 261 o261)⟩
 have isa:IsaOK ⟨prog,w⟩ r.heap (ctxF TT ⟨[],default,[],[]⟩ (fun J J J=>none) fun J J=>none):=by
  refine ⟨⟨_,fi,fun k a b e=>?_⟩,fun x a b e A s Q X k h=>?_⟩
  ·have e:isOT k a=some b:=e
   unfold isOT at e
   split at e
   ·split at e
    ·rename_i q; cases Nat.eq_of_beq_eq_true q; cases e; kernel_rfl
    ·exact nS e
   ·exact nS e
  ·have e:isXT x a=some b:=e
   unfold isXT at e
   split at e
   ·rename_i q
    rw[Bool.and_eq_true] at q
    cases Nat.eq_of_beq_eq_true q.1
    cases Nat.eq_of_beq_eq_true q.2
    obtain rfl:=sI e
    refine kia_one (K:=[(256,o256 w.params),(255,o255 w.params)]) (kitx_own (x:=262) (D:=256) (ox:=o262 w.params) (od:=o261 w.params) (by kernel_rfl) (by kernel_rfl) (by kernel_rfl) (by kernel_rfl) (by kernel_rfl) (by kernel_rfl)) (fun b o e=>k b o (fx b o e)) (inst _ k) (by kernel_rfl) nofun h
   ·exact nS e
 have attr:AttrOK ⟨prog,w⟩ r.heap (ctxF TT ⟨[],default,[],[]⟩ (fun J J J=>none) fun J J=>none):=fun a x av e=>by
  have e:attrT a x=some av:=e
  unfold attrT at e
  split at e
  ·rename_i q
   rw[Bool.and_eq_true,sEqB_eq] at q
   cases Nat.eq_of_beq_eq_true q.1
   have hx:=of_decide_eq_true q.2
   subst hx
   obtain rfl:=sI e
   refine ⟨.str (S "strict") 558,⟨558,rfl,by decide⟩,fun A s Q X k h=>?_⟩
   exact get_value (K:=[(256,o256 w.params),(255,o255 w.params)]) (fun b o e=>k b o (fx b o e)) (inst _ k) (by kernel_rfl) (by kernel_rfl) (by kernel_rfl) (h _)
  ·exact nS e
 have gisf:∀a,TT.isGn a=true→∃o fd,r.heap.get? a=some o∧o.data=.func fd:=fun a h=>by
  cases Nat.eq_of_beq_eq_true h
  exact ⟨_,_,tr T 1478 o1478,rfl⟩
 have big:∃a o,r.heap.get? a=some o∧sysModules≤a:=⟨1478,_,tr T 1478 o1478,by decide⟩
 exact ⟨gok,isa,decT_ok,attr,fnsW w os r T,gens_tab gok isa decT_ok attr lim big gisf (fun a g h=>by
  unfold tgT at h
  split at h
  ·rename_i q; cases Nat.eq_of_beq_eq_true q; obtain rfl:=sI h; exact gnk w os r T
  ·exact nS h) rfl,gisf,lim,big⟩
noncomputable def law:OpenLaw:=PySem.Challenge.rw_ag0004_03
theorem nr_nil (lk:Look):noRoadLSs lk []=true:=by kernel_rfl
theorem nr_cons (lk:Look)(x:Stmt)(a:List Stmt):noRoadLSs lk (x::a)=(noRoadLS lk x&&noRoadLSs lk a):=by kernel_rfl
theorem nr_app (lk:Look):∀a b:List Stmt,noRoadLSs lk (a++b)=(noRoadLSs lk a&&noRoadLSs lk b)
 | [],b=>by rw[nr_nil]; rfl
 | x::a,b=>by rw[List.cons_append,nr_cons,nr_cons,nr_app lk a b,Bool.and_assoc]
theorem nr_chunk {lk:Look}{l:List Stmt}(n:Nat)(h1:noRoadLSs lk (l.take n)=true)(h2:noRoadLSs lk (l.drop n)=true):noRoadLSs lk l=true:=by
 rw[←List.take_append_drop n l,nr_app,h1,h2]; rfl
noncomputable def lp:Program:=law.row.prog
noncomputable def lb:List Stmt:=lp.main.body
noncomputable def lkM:Look:={ strict:=!(importedModules lb).all cThrough.contains,foot:=none,bare:=(["vars","dir","locals"]:List Str).filter (readsOut lp lb) }
theorem lkM_eq:lkM={ strict:=false,foot:=none,bare:=[] }:=by
 unfold lkM readsOut
 rw[PySem.W.Fast.te17119622794617984870]
 kernel_rfl
theorem rW0:noRoadLSs { strict:=false,foot:=none,bare:=[] } (lb.take 13)=true:=by rw[PySem.W.Fast.te8326940854005059898]; kernel_rfl
theorem rW1:noRoadLSs { strict:=false,foot:=none,bare:=[] } ((lb.drop 13).take 20)=true:=by rw[PySem.W.Fast.te8326940854005059898]; kernel_rfl
theorem rW2:noRoadLSs { strict:=false,foot:=none,bare:=[] } (((lb.drop 13).drop 20).take 25)=true:=by rw[PySem.W.Fast.te8326940854005059898]; kernel_rfl
theorem rW3:noRoadLSs { strict:=false,foot:=none,bare:=[] } ((((lb.drop 13).drop 20).drop 25).take 45)=true:=by rw[PySem.W.Fast.te8326940854005059898]; kernel_rfl
theorem rW4:noRoadLSs { strict:=false,foot:=none,bare:=[] } ((((lb.drop 13).drop 20).drop 25).drop 45)=true:=by rw[PySem.W.Fast.te8326940854005059898]; kernel_rfl
theorem roadW:noRoadLSs lkM lb=true:=by
 rw[lkM_eq]
 exact nr_chunk 13 rW0 (nr_chunk 20 rW1 (nr_chunk 25 rW2 (nr_chunk 45 rW3 rW4)))
theorem meetW:namesMeet lp lb (fun J n=>attrL n)=true:=by rw[PySem.W.Fast.te17119622794617984870]; kernel_rfl
theorem resW:namesResolve lp=true:=by rw[PySem.W.Fast.te8377067652309620493]; kernel_rfl
theorem bndW:(lp.boundNames.all fun n=>!worldNames.contains n)=true:=by rw[PySem.W.Fast.te18344453789297297638]; kernel_rfl
theorem own1:(namesMeet law.prog law.above fun J n=>!law.own.contains n)=true:=by rw[PySem.W.Fast.te17119622794617984870]; kernel_rfl
theorem foot1:noRoadLSs { strict:=true,foot:=some law.bound',writes:=law.writes,may:=law.may } law.footing=true:=by rw[PySem.W.Fast.te8326940854005059898]; kernel_rfl
theorem nm1:(namesMeet law.prog law.footing fun sc n=>(!(["type","isinstance","issubclass","getattr","hasattr"]:List Str).contains n||sc.names.lookup n == some .globalImplicit) &&
 (law.may != some n||sc.kind == .module||sc.names.lookup n == some .globalImplicit))=true:=by rw[PySem.W.Fast.te17119622794617984870]; kernel_rfl
set_option tactic.hygienic true in
theorem ws:law.wellSaid=true:=by
 delta OpenLaw.wellSaid
 refine look_both (look_both (look_both (look_both (look_both (look_both (look_both (look_both (look_both (look_both (look_both (look_both (look_both (look_both (look_both (look_both (look_both (look_both ?row ?_) ?_) ?_) ?_) ?_) ?foot) ?_) ?_) ?_) ?blt) ?_) ?_) ?nm) ?_) ?_) ?_) ?own) ?_
 case row =>
  delta OpenRow.wellSaid
  refine look_both (look_both ?part ?_) ?_
  case part =>
   delta OpenRow.partSaid
   refine look_both (look_both (look_both (look_both (look_both (look_both (look_both (look_both (look_both (look_both (look_both (look_both (look_both ?looks ?_) ?_) ?_) ?_) ?_) ?_) ?_) ?_) ?_) ?_) ?_) ?_) ?_
   case looks =>
    delta looksOpen
    refine look_both (look_both (look_both (look_both (look_both ?_ ?_) ?resW) ?bndW) ?roadW) ?meetW
    case resW=>exact resW
    case bndW=>exact bndW
    case roadW=>exact roadW
    case meetW=>exact meetW
    all_goals kernel_rfl
   all_goals kernel_rfl
  all_goals kernel_rfl
 case foot=>exact foot1
 case nm=>exact nm1
 case own=>exact own1
 all_goals kernel_rfl
theorem opening_eq:opening prog=plainProg prog.main.scope.names:=by kernel_rfl
theorem fence_eq (s:Shared):fenceModules? prog s=some s:=by kernel_rfl
theorem bare:prog.bare:=⟨rfl,rfl,rfl,rfl,rfl,by decide +kernel⟩
theorem opensW:opensWell prog=true:=by kernel_rfl
theorem annB (P:Params):globalOf (boot_heap P) "__annotations__"=some (.ref 6):=by kernel_rfl
noncomputable abbrev oMain (P:Params):Obj:=v3_41 P
noncomputable def tin0 (P:Params):Heap:=tiny (boot_o_0 P) (boot_o_2 P) (boot_o_3 P) (boot_o_4 P)
noncomputable def tin1 (P:Params):Heap:=tiny (boot_o_0 P) (v2_1 P) (oMain P) (boot_o_4 P)
theorem blt1 (P:Params):(tin1 P).bltView=bltViewBooted:=by kernel_rfl
theorem top1 (P:Params):topB prog (tin0 P) (tin1 P)=true:=by kernel_rfl
theorem prom:law.row.toRowW.promised:=⟨[.list []],by decide +kernel,by decide +kernel⟩
theorem law_name (P:Params):globalOf (tin1 P) law.name=some (.ref 1519):=by kernel_rfl
theorem law_def:prog.theDef law.name=some (sArgs (cell 143),sBody (cell 143),sScope (cell 143)):=by
 rw[PySem.W.Fast.te10235530238920679567]
 kernel_rfl
theorem globalOf_congr {h h':Heap}(e:h.get? 3=h'.get? 3)(x:Str):globalOf h x=globalOf h' x:=by
 unfold globalOf
 rw[show h.get? mainNs=h'.get? mainNs from e]
theorem factsT (w:World)(os:OsState)(r:Shared)(T:FinT w os r):TopFacts prog (boot_heap w.params) r.heap∧r.gens=#[]∧isTheDefsW prog r.heap law.name∧r.os=os:=by
 have h2:r.heap.get? 2=some (v2_1 w.params):=T.vol _ (.head _)
 have h3:r.heap.get? 3=some (oMain w.params):=T.vol _ (.tail _ (.head _))
 refine ⟨topFacts_of (t₀:=tin0 w.params) (t₁:=tin1 w.params) rfl rfl (T.b0.trans rfl) (h2.trans rfl) (h3.trans rfl) ⟨_,T.b4,rfl,rfl⟩ (blt1 _) (top1 _),T.gens,?_,T.os⟩
 exact ⟨1519,_,_,_,_,_,(globalOf_congr (h3.trans (show some (oMain w.params)=(tin1 w.params).get? 3 from rfl)) _).trans (law_name _),tr T 1519 o1519,rfl,law_def,rfl,rfl,rfl,rfl,rfl,rfl,rfl,rfl,.inl ⟨by kernel_rfl,rfl⟩,[],by kernel_rfl,.inl ⟨rfl,rfl⟩⟩
theorem holds_of (call:∀(w:World) (os:OsState) (s₀ s₁:Shared) (args:List WData) (vs:List Value) (as:List Addr),FinT w os s₀→law.row.toRowW.claim.pre args=true→WData.layableAll args=true→Laid [] w s₀ s₁ args vs as →
  wpAny (model prog w) callerA (do match ←nsGet mainNs law.name with
    | some f=>do PySem.ret (←PySem.call f vs)
    | none=>unsupported "claim.caller:no-such-global") (fun fin s'=>∃v,fin=.done (.ret v)∧GoodWG law.row.toRowW.claim (classAt s₀.heap) (ExcName.means s₀.heap) args s₁ (.ok (.ret v)) s')
   (fun e s'=>False) s₁):law.Holds :=
 holds_from ws prom bare opensW rfl opening_eq fence_eq (fun w os=>cB w os) annB factsT call
end
noncomputable section
open PySem PySem.W PySem.Calls PyProof.Rows
set_option maxRecDepth 100000
noncomputable abbrev pS (v:AV):Option Slot:=some (.pure v)
noncomputable def cN:Nat→CallT:=callN TT fnT
noncomputable abbrev KF (R:Type):=FL→AEnv→Option R
noncomputable abbrev KX (R:Type):=AX→AEnv→Option R
noncomputable section
def Has (b:List UInt8)(p:Nat)(l:List UInt8):Prop:=∃post,b.drop p=l++post∧p≤b.length
theorem Has.len {b:List UInt8}{p:Nat}{l:List UInt8}(h:Has b p l):p+l.length≤b.length:=by
 obtain ⟨post,e,hp⟩:=h
 have:=congrArg List.length e
 rw[List.length_drop,List.length_append] at this
 lia
theorem Has.left {b:List UInt8}{p:Nat}{x y:List UInt8}(h:Has b p (x++y)):Has b p x:=by
 obtain ⟨post,e,hp⟩:=h
 exact ⟨y++post,by rw[e,List.append_assoc],hp⟩
theorem Has.right {b:List UInt8}{p:Nat}{x y:List UInt8}(h:Has b p (x++y)):Has b (p+x.length) y:=by
 have hl:=h.len
 obtain ⟨post,e,hp⟩:=h
 refine ⟨post,?_,by rw[List.length_append] at hl; lia⟩
 rw[←List.drop_drop,e,List.append_assoc,List.drop_left]
theorem Has.item {b:List UInt8}{p:Nat}{x:UInt8}{l:List UInt8}(h:Has b p (x::l)):itemA (.bytes b) (.int p)=some (.int (x.toNat:Nat)):=by
 have hl:=h.len
 obtain ⟨post,e,hp⟩:=h
 rw[List.length_cons] at hl
 have hg:b.getD p 0=x:=by
  have:(b.drop p)[0]?=some x:=by rw[e]; rfl
  rw[List.getElem?_drop,Nat.add_zero] at this
  rw[List.getD_eq_getElem?_getD,this]; rfl
 exact (obS (idx_pos (p:=p) rfl (by lia))).trans (by rw[hg])
theorem clip_nat {n p:Nat}(h:p≤n):clipAt n (p:Int)=p:=by
 unfold clipAt
 rw[if_neg (by lia),Int.min_eq_left (by lia),Int.max_eq_right (by lia),Int.toNat_natCast]
theorem Has.cut {b:List UInt8}{p q:Nat}{l:List UInt8}(h:Has b p l)(hq:q=p+l.length):cutL b (some (p:Int)) (some (q:Int))=l:=by
 have hl:=h.len
 obtain ⟨post,e,hp⟩:=h
 unfold cutL
 show (b.drop (clipAt b.length (p:Int))).take (clipAt b.length (q:Int)-clipAt b.length (p:Int))=l
 rw[clip_nat hp,clip_nat (by lia),e,hq,Nat.add_sub_cancel_left,List.take_left]
noncomputable def le4 (n:Int):List UInt8:=KTBy.low n 4
def I32 (n:Int):Prop:=-2147483648≤n∧n<2147483648
theorem lL (n:Int):(le4 n).length=4:=KTBy.low_length n 4
theorem fits4 {n:Int}(h:I32 n):fitsTo n 4 true=true:=by
 unfold fitsTo
 obtain ⟨h1,h2⟩:=h
 simp only[Bool.and_eq_true,decide_eq_true_eq]
 constructor <;> simp <;> lia
theorem add_b {x y:List UInt8}(h:x.length+y.length≤16777216):binA .Add (.bytes x) (.bytes y)=some (.bytes (x++y)):=by
 exact gdT (decide_eq_true h)
set_option tactic.hygienic true in
theorem bits_lt (n:Int):n.natAbs<2 ^ Builtin.Int.intBits n:=by
 unfold Builtin.Int.intBits
 split
 ·rename_i h; have:n=0:=by simpa using h
  subst this; decide
 ·exact Nat.lt_log2_self
theorem byteN (X i:Nat):((((X >>> (8*i)) % 256).toUInt8).toNat:Nat)=X / 256 ^ i % 256:=KTBy.byte_at X i
theorem byteA (n:Int){own i:Nat}(h:i<own):(n % 256 ^ own) / 256 ^ i % 256=n / 256 ^ i % 256:=by
 obtain ⟨k,rfl⟩:∃k,own=i+(k+1):=⟨own-i-1,by lia⟩
 have hp:(256:Int) ^ (i+(k+1))=256 ^ i*(256 ^ k*256):=by rw[Int.pow_add,Int.pow_succ]
 have hi:(256:Int) ^ i≠0:=Int.pow_ne_zero (by decide)
 have e:n=256 ^ i*(256 ^ k*256)*(n / (256 ^ i*(256 ^ k*256)))+n % (256 ^ i*(256 ^ k*256)):=(Int.mul_ediv_add_emod _ _).symm
 rw[hp]
 generalize n % (256 ^ i*(256 ^ k*256))=r at e
 generalize n / (256 ^ i*(256 ^ k*256))=q at e
 subst e
 rw[Int.mul_assoc (256 ^ i),Int.add_comm,Int.add_mul_ediv_left _ _ hi,Int.mul_comm (256 ^ k) 256,Int.mul_assoc 256,Int.add_mul_emod_self_left]
theorem byteB {n:Int}{W:Int}(hW:0<W)(h1:-W≤n)(h2:n<W):n / W % 256=if n<0 then 255 else 0:=by
 by_cases h:n<0
 ·have e:n / W=-1:=by
   apply Int.le_antisymm
   ·exact Int.lt_add_one_iff.mp (by show n / W< -1+1; exact Int.ediv_lt_of_lt_mul hW (by simpa using h))
   ·exact Int.le_ediv_of_mul_le hW (by rw[Int.neg_mul,Int.one_mul]; exact h1)
  rw[e,if_pos h]; decide
 ·rw[Int.ediv_eq_zero_of_lt (Int.not_lt.mp h) h2,if_neg h]; decide
theorem low_at (n:Int):(KTBy.low n 4).map (fun c=>((c.toNat:Nat):Int))=(List.range 4).map fun i=>n / 256 ^ i % 256:=by
 have hb:=bits_lt n
 unfold KTBy.low
 generalize Builtin.Int.intBits n=B at hb
 have ho4:min 4 (B / 8+1)≤4:=Nat.min_le_left _ _
 have hbig:min 4 (B / 8+1)<4→B≤8*min 4 (B / 8+1):=by lia
 generalize min 4 (B / 8+1)=own at ho4 hbig
 obtain ⟨m,hm⟩:∃m,4=own+m:=⟨4-own,(Nat.add_sub_cancel' ho4).symm⟩
 rw[List.map_append,List.map_map,List.map_replicate,hm,Nat.add_sub_cancel_left,List.range_add,List.map_append,List.map_map]
 congr 1
 ·refine List.map_congr_left fun i hi=>?_
  have hi:=List.mem_range.mp hi
  have hr:((n % (256 ^ own:Int)).toNat:Int)=n % 256 ^ own:=Int.toNat_of_nonneg (Int.emod_nonneg _ (Int.pow_ne_zero (by decide)))
  show (((_:UInt8).toNat:Nat):Int)=_
  rw[byteN,Int.natCast_emod,Int.natCast_ediv,hr,Int.natCast_pow]
  exact byteA n hi
 ·refine (List.eq_replicate_iff.mpr ⟨by rw[List.length_map,List.length_range],fun x hx=>?_⟩).symm
  obtain ⟨j,hj,rfl⟩:=List.mem_map.mp hx
  have hj:=List.mem_range.mp hj
  have ho:own<4:=by lia
  have hlt:(n.natAbs:Int)<256 ^ (own+j):=by
   have h1:n.natAbs<2 ^ (8*(own+j)):=Nat.lt_of_lt_of_le hb (Nat.pow_le_pow_right (by decide) (Nat.le_trans (hbig ho) (Nat.mul_le_mul_left 8 (Nat.le_add_right own j))))
   rw[Nat.pow_mul] at h1
   have:=Int.ofNat_lt.mpr h1
   rwa [Int.natCast_pow] at this
  show n / 256 ^ (own+j) % 256=_
  rw[byteB (Int.pow_pos (by decide)) (by lia) (by lia)]
  split <;> rfl
theorem le4_at {n:Int}(h:I32 n):(le4 n).map (fun c=>((c.toNat:Nat):Int))=[n % 256,n / 256 % 256,n / 65536 % 256,n / 16777216 % 256]:=by
 refine (low_at n).trans ?_
 show [n / 256 ^ 0 % 256,n / 256 ^ 1 % 256,n / 256 ^ 2 % 256,n / 256 ^ 3 % 256]=_
 rw[Int.pow_zero,Int.ediv_one]
 rfl
theorem four {l:List UInt8}(h:l.length=4):∃a b c d,l=[a,b,c,d]:=by
 rcases l with _|⟨a,_|⟨b,_|⟨c,_|⟨d,_|⟨e,l⟩⟩⟩⟩⟩ <;> simp at h
 exact ⟨a,b,c,d,rfl⟩
theorem le4_back {n:Int}(h:I32 n):ofLeI (le4 n) true=n:=by
 have hm:=le4_at h
 obtain ⟨a,b,c,d,e⟩:=four (lL n)
 rw[e] at hm ⊢
 simp only[List.map_cons,List.map_nil,List.cons.injEq,and_true] at hm
 obtain ⟨ha,hb,hc,hd⟩:=hm
 obtain ⟨h1,h2⟩:=h
 unfold ofLeI
 have hd8:(d ≥ 128) ↔ 128≤d.toNat:=by
  show (128:UInt8)≤d ↔ _
  rw[UInt8.le_iff_toNat_le]; rfl
 have e0:([a,b,c,d]:List UInt8).reverse=[d,c,b,a]:=rfl
 simp only[e0,List.head?_cons,Option.any_some,Bool.true_and,List.foldl_cons,List.foldl_nil,List.length_cons,List.length_nil]
 by_cases hg:d ≥ 128
 ·have hg':=hd8.mp hg
  rw[decide_eq_true hg]
  dsimp only
  simp
  lia
 ·have hg':¬128≤d.toNat:=fun q=>hg (hd8.mpr q)
  rw[decide_eq_false hg]
  dsimp only
  simp
  lia
noncomputable abbrev cx:Ctx:=ctxF TT ⟨[],default,[],[]⟩ (fun J J J=>none) fun J J=>none
theorem pack_m {n:Int} (h:I32 n):runMt cx .toBytes (.int n) [.int 4,.str (S "little")] [(S "signed",.bool true)]=some (.bytes (le4 n)):=by
 have e1:sEqB (S "little") (PySem.Str.ofString "little")=true:=by decide +kernel
 have e2:sEqB (S "signed") (PySem.Str.ofString "signed")=true:=by decide +kernel
 exact gdT (by rw[e1,e2,show ((4:Int).toNat)=4 from rfl,fits4 h]; rfl)
theorem unpack_m {n:Int} (h:I32 n):runMt cx .fromBytes (.bi .int) [.bytes (le4 n),.str (S "little")] [(S "signed",.bool true)]=some (.int n):=by
 have e1:sEqB (S "little") (PySem.Str.ofString "little")=true:=by decide +kernel
 have e2:sEqB (S "signed") (PySem.Str.ofString "signed")=true:=by decide +kernel
 exact (gdT (by rw[e1,e2,lL]; rfl)).trans (by rw[le4_back h])
end
noncomputable section
open PySem PySem.W PySem.Calls PyProof.Rows
set_option maxRecDepth 100000
set_option maxHeartbeats 0
theorem m1483 (d:Nat)(b:List UInt8)(a:Int):cN (d+1) 1483 [.bytes b,.int a] []=(obO (itemA (.bytes b) (.int (a+0))) fun v0=>obO (binA .Mult v0 (.int 1)) fun v1=>obO (itemA (.bytes b) (.int (a+1))) fun v2=>obO (binA .Mult v2 (.int 256)) fun v3=>obO (itemA (.bytes b) (.int (a+2))) fun v4=>obO (binA .Mult v4 (.int 65536)) fun v5=>obO (itemA (.bytes b) (.int (a+3))) fun v6=>obO (binA .Mult v6 (.int 16777216)) fun v7=>obO (callB cx .sum [(.list [v1,v3,v5,v7])]) fun v8=>some (.ok v8)):=by kernel_rfl
theorem m1502 (d:Nat)(b:List UInt8):cN (d+1) 1502 [.bytes b] []=(okE (cN d 1495 [(.int ((((List.length b):Nat):Int)+5)),(.int 4)] []) (fun v0=>obO (binA .Add v0 (.bytes b)) fun v1=>obO (binA .Add v1 (.bytes [0])) fun v2=>some (.ok v2)) (fun u0=>some (.error u0))):=by kernel_rfl
theorem m1495_1 (d:Nat)(a:Int):cN (d+1) 1495 [.int a,.int 1] []=(obO (callB cx .bytes [(.list [(.int (Int.fmod (Int.fdiv a 1) 256))])]) fun v0=>some (.ok v0)):=by kernel_rfl
theorem m1035 (d:Nat)(b:List UInt8)(a:Int):cN (d+1) 1035 [.bytes b,.int a] []=(okE (cN d 1028 [(.bytes b),(.int a),(.int 4),(.bool true)] []) (fun v0=>some (.ok (.tup [v0]))) (fun u0=>some (.error u0))):=by kernel_rfl
theorem m1028 (d:Nat) (b:List UInt8) (a:Int) (n:Int):cN (d+1) 1028 [.bytes b,.int a,.int n,.bool true] []=(cnd (decide ((((List.length b):Nat):Int)<(a+n))) (none) (obO (runMt cx .fromBytes (.bi .int) [(.bytes (cutL b (some a) (some (a+n)))),(.str (S "little"))] [((S "signed"),(.bool true))]) fun v0=>some (.ok v0))):=by kernel_rfl
theorem m1447 (d:Nat)(x:AV):cN (d+1) 1447 [x] []=(okE (cN d 1439 [x,(.bool false),(.obj 262)] []) (fun v0=>some (.ok v0)) (fun u0=>some (.error u0))):=by kernel_rfl
theorem m1455 (d:Nat)(x:AV):cN (d+1) 1455 [x] []=(okE (cN d 1238 [x,(.obj 262)] []) (fun v0=>some (.ok v0)) (fun u0=>some (.error u0))):=by kernel_rfl
theorem m1238 (d:Nat)(x:List UInt8)(o:AV):cN (d+1) 1238 [.bytes x,o] []=(okE (cN d 1084 [(.bytes x)] []) (fun v0=>onTL v0 fun t0=>cnd (decide (2=(List.length t0))) (consL t0 (none) (fun u0 w0=>consL w0 (none) (fun u1 w1=>consL w1 (obO (callB cx .len [u0]) fun v1=>okE (cN d 1119 [u0,(.int 0),v1] []) (fun v2=>onTL v2 fun t1=>cnd (decide (2=(List.length t1))) (consL t1 (none) (fun u2 w2=>consL w2 (none) (fun u3 w3=>consL w3 (okE (cN d 1231 [u0,u1,(.int 4),u3,o] []) (fun v3=>some (.ok v3)) (fun u4=>none)) (fun u4 w4=>none)))) (none)) (fun u2=>none)) (fun u2 w2=>none)))) (none)) (fun u0=>some (.error u0))):=by kernel_rfl
theorem m1084 (d:Nat)(x:AV):cN (d+1) 1084 [x] []=(some (.ok (.tup [x,x]))):=by kernel_rfl
theorem m1119 (d:Nat)(b:List UInt8)(p e:Int):cN (d+1) 1119 [.bytes b,.int p,.int e] []=(okE (cN d 1035 [(.bytes b),(.int p)] []) (fun v0=>obO (itemA v0 (.int 0)) fun v1=>obO (binA .Add (.int p) v1) fun v2=>obO (binA .Sub v2 (.int 1)) fun v3=>obO (cmpA .GtE v3 (.int e)) fun v4=>cnd v4 (none) (obO (itemA (.bytes b) v3) fun v5=>obO (cmpA .NotEq v5 (.int 0)) fun v6=>cnd v6 (none) (cnd (decide (p=0)) (obO (cmpA .NotEq v1 (.int e)) fun v7=>cnd v7 (none) (some (.ok (.tup [v1,v3])))) (some (.ok (.tup [v1,v3])))))) (fun u0=>none)):=by kernel_rfl
theorem m1042 (d:Nat)(b:List UInt8)(p:Int):cN (d+1) 1042 [.bytes b,.int p] []=(cnd (decide ((((List.length b):Nat):Int)<(p+5))) (none) (okE (cN d 1028 [(.bytes b),(.int p),(.int 4),(.bool true)] []) (fun v0=>obO (itemA (.bytes b) (.int (p+4))) fun v1=>some (.ok (.tup [v0,v1]))) (fun u0=>some (.error u0)))):=by kernel_rfl
theorem m1063 (d:Nat) (b:List UInt8) (p e:AV):cN (d+1) 1063 [.bytes b,p,e] []=(obO (runMt cx .decode (.bytes b) [(.str (S "utf-8"))] []) fun v0=>some (.ok (.tup [v0,(.int (((List.length b):Nat):Int))]))):=by kernel_rfl
theorem m1070 (d:Nat) (s:Str):cN (d+1) 1070 [.str s] []=(obO (runMt cx .encode (.str s) [(.str (S "utf-8"))] []) fun v0=>some (.ok (.tup [v0,(.int (((Str.length s):Nat):Int))]))):=by kernel_rfl
theorem m1098 (d:Nat)(b:List UInt8)(v:AV)(p:Int)(x y z:AV):cN (d+1) 1098 [.bytes b,v,.int p,x,y,z] []=(okE (cN d 1035 [(.bytes b),(.int p)] []) (fun v0=>obO (itemA v0 (.int 0)) fun v1=>some (.ok (.tup [v1,(.int (p+4))]))) (fun u0=>some (.error u0))):=by kernel_rfl
theorem m1105 (d:Nat) (b v:List UInt8) (p:Int):cN (d+1) 1105 [.bytes b,.bytes v,.int p,.obj 262] []=(okE (cN d 1077 [(.bytes b),(.int p)] []) (fun v0=>obO (partA v0) fun v1=>okE (cN d 1063 [(.bytes (cutL v (some p) v1)),(.str (S "strict")),(.bool true)] []) (fun v2=>obO (itemA v2 (.int 0)) fun v3=>obO (binA .Add v0 (.int 1)) fun v4=>some (.ok (.tup [v3,v4]))) (fun u0=>some (.error u0))) (fun u0=>some (.error u0))):=by kernel_rfl
theorem m1112 (d:Nat) (b v:List UInt8) (p e:Int) (y:AV):cN (d+1) 1112 [.bytes b,.bytes v,.int p,.int e,.obj 262,y] []=(okE (cN d 1035 [(.bytes b),(.int p)] []) (fun v0=>obO (itemA v0 (.int 0)) fun v1=>obO (cmpA .Lt v1 (.int 1)) fun v2=>cnd v2 (none) (obO (cmpA .Lt (.int (e-(p+4))) v1) fun v3=>cnd v3 (none) (obO (binA .Add (.int (p+4)) v1) fun v4=>obO (binA .Sub v4 (.int 1)) fun v5=>obO (itemA (.bytes b) v5) fun v6=>obO (cmpA .NotEq v6 (.int 0)) fun v7=>cnd v7 (none) (obO (partA v5) fun v8=>okE (cN d 1063 [(.bytes (cutL v (some (p+4)) v8)),(.str (S "strict")),(.bool true)] []) (fun v9=>obO (itemA v9 (.int 0)) fun v10=>obO (binA .Add v5 (.int 1)) fun v11=>some (.ok (.tup [v10,v11]))) (fun u0=>some (.error u0)))))) (fun u0=>some (.error u0))):=by kernel_rfl
theorem m1154 (d:Nat)(b v:List UInt8)(p:Int)(x y z:AV):cN (d+1) 1154 [.bytes b,.bytes v,.int p,x,y,z] []=(cnd (decide ((cutL b (some p) (some (p+1)))=[0])) (some (.ok (.tup [(.bool false),(.int (p+1))]))) (cnd (decide ((cutL b (some p) (some (p+1)))=[1])) (some (.ok (.tup [(.bool true),(.int (p+1))]))) (none))):=by kernel_rfl
theorem m1140 (d:Nat)(b v:List UInt8)(p e:Int)(z:AV):cN (d+1) 1140 [.bytes b,.bytes v,.int p,.int e,.obj 262,z] []=(okE (cN d 1042 [(.bytes b),(.int p)] []) (fun v0=>onTL v0 fun t0=>cnd (decide (2=(List.length t0))) (consL t0 (none) (fun u0 w0=>consL w0 (none) (fun u1 w1=>consL w1 (obO (cmpA .Eq u1 (.int 2)) fun v1=>cnd v1 (okE (cN d 1035 [(.bytes b),(.int (p+5))] []) (fun v2=>obO (itemA v2 (.int 0)) fun v3=>obO (binA .Sub u0 (.int 4)) fun v4=>obO (cmpA .NotEq v3 v4) fun v5=>cnd v5 (none) (obO (binA .Add (.int ((p+5)+4)) v3) fun v6=>obO (cmpA .Lt v3 (.int 0)) fun v7=>cnd v7 (none) (obO (cmpA .Gt v6 (.int e)) fun v8=>cnd v8 (none) (obO (cmpA .In u1 (.tup [(.int 3),(.int 4)])) fun v9=>cnd v9 (none) (obO (cmpA .Eq u1 (.int 0)) fun v10=>cnd v10 (obO (partA v6) fun v11=>some (.ok (.tup [(.bytes (cutL b (some ((p+5)+4)) v11)),v6]))) (none)))))) (fun u2=>some (.error u2))) (obO (binA .Add (.int (p+5)) u0) fun v2=>obO (cmpA .Lt u0 (.int 0)) fun v3=>cnd v3 (none) (obO (cmpA .Gt v2 (.int e)) fun v4=>cnd v4 (none) (obO (cmpA .In u1 (.tup [(.int 3),(.int 4)])) fun v5=>cnd v5 (none) (obO (cmpA .Eq u1 (.int 0)) fun v6=>cnd v6 (obO (partA v2) fun v7=>some (.ok (.tup [(.bytes (cutL b (some (p+5)) v7)),v2]))) (none)))))) (fun u2 w2=>none)))) (none)) (fun u0=>some (.error u0))):=by kernel_rfl
theorem m1126 (d:Nat) (b v:List UInt8) (p e:Int) (y z:AV):cN (d+1) 1126 [.bytes b,.bytes v,.int p,.int e,y,z] []=(okE (cN d 1119 [(.bytes b),(.int p),(.int e)] []) (fun v0=>onTL v0 fun t0=>cnd (decide (2=(List.length t0))) (consL t0 (none) (fun u0 w0=>consL w0 (none) (fun u1 w1=>consL w1 (okE (cN d 1231 [(.bytes b),(.bytes v),(.int (p+4)),u1,y] []) (fun v1=>obO (augA .Add (.int p) u0) fun v2=>obO (methOf v1 (S "get")) fun v3=>obO (runMt cx v3 v1 [(.str (S "$ref"))] []) fun v4=>obO (callB cx .isinstance [v4,(.tup [(.bi .str),(.obj 196)])]) fun v5=>obO (truthA v5) fun v6=>cnd v6 (obO (cmpA .In (.str (S "$id")) v1) fun v7=>cnd v7 (obO (methOf v1 (S "get")) fun v8=>obO (runMt cx v8 v1 [(.str (S "$db"))] []) fun v9=>obO (cmpA .Is v9 .none) fun v10=>cnd v10 (none) (obO (methOf v1 (S "get")) fun v11=>obO (runMt cx v11 v1 [(.str (S "$db"))] []) fun v12=>obO (callB cx .isinstance [v12,(.tup [(.bi .str),(.obj 196)])]) fun v13=>obO (truthA v13) fun v14=>cnd v14 (none) (some (.ok (.tup [v1,v2]))))) (some (.ok (.tup [v1,v2])))) (some (.ok (.tup [v1,v2])))) (fun u2=>some (.error u2))) (fun u2 w2=>none)))) (none)) (fun u0=>some (.error u0))):=by kernel_rfl
theorem m1224 (d:Nat)(b v:List UInt8)(p e:Int)(y:AV):cN (d+1) 1224 [.bytes b,.bytes v,.int p,.int e,y] []=(obO (itemA (.bytes b) (.int p)) fun v0=>okE (cN d 1105 [(.bytes b),(.bytes v),(.int (p+1)),y] []) (fun v1=>onTL v1 fun t0=>cnd (decide (2=(List.length t0))) (consL t0 (none) (fun u0 w0=>consL w0 (none) (fun u1 w1=>consL w1 (okE (cN d 1217 [v0,(.bytes b),(.bytes v),u1,(.int e),y,u0] []) (fun v2=>onTL v2 fun t1=>cnd (decide (2=(List.length t1))) (consL t1 (none) (fun u2 w2=>consL w2 (none) (fun u3 w3=>consL w3 (some (.ok (.tup [u0,u2,u3]))) (fun u4 w4=>none)))) (none)) (fun u2=>none)) (fun u2 w2=>none)))) (none)) (fun u0=>some (.error u0))):=by kernel_rfl
theorem m1217_2 (d:Nat)(a b c e f g:AV):cN (d+1) 1217 [.int 2,a,b,c,e,f,g] []=(okE (cN d 1112 [a,b,c,e,f,g] []) (fun v0=>some (.ok v0)) (fun u0=>some (.error u0))):=by kernel_rfl
theorem m1217_3 (d:Nat)(a b c e f g:AV):cN (d+1) 1217 [.int 3,a,b,c,e,f,g] []=(okE (cN d 1126 [a,b,c,e,f,g] []) (fun v0=>some (.ok v0)) (fun u0=>some (.error u0))):=by kernel_rfl
theorem m1217_4 (d:Nat)(a b c e f g:AV):cN (d+1) 1217 [.int 4,a,b,c,e,f,g] []=(okE (cN d 1133 [a,b,c,e,f,g] []) (fun v0=>some (.ok v0)) (fun u0=>some (.error u0))):=by kernel_rfl
theorem m1217_5 (d:Nat)(a b c e f g:AV):cN (d+1) 1217 [.int 5,a,b,c,e,f,g] []=(okE (cN d 1140 [a,b,c,e,f,g] []) (fun v0=>some (.ok v0)) (fun u0=>some (.error u0))):=by kernel_rfl
theorem m1217_8 (d:Nat)(a b c e f g:AV):cN (d+1) 1217 [.int 8,a,b,c,e,f,g] []=(okE (cN d 1154 [a,b,c,e,f,g] []) (fun v0=>some (.ok v0)) (fun u0=>some (.error u0))):=by kernel_rfl
theorem m1217_10 (d:Nat)(a b c e f g:AV):cN (d+1) 1217 [.int 10,a,b,c,e,f,g] []=(some (.ok (.tup [.none,c]))):=by kernel_rfl
theorem m1217_16 (d:Nat)(a b c e f g:AV):cN (d+1) 1217 [.int 16,a,b,c,e,f,g] []=(okE (cN d 1098 [a,b,c,e,f,g] []) (fun v0=>some (.ok v0)) (fun u0=>some (.error u0))):=by kernel_rfl
theorem m1245 (d:Nat) (n:Int):cN (d+1) 1245 [.int n] []=(obO (runMt cx .toBytes (.int n) [(.int 4),(.str (S "little"))] [((S "signed"),(.bool true))]) fun v0=>some (.ok v0)):=by kernel_rfl
theorem m1287 (d:Nat)(s:Str):cN (d+1) 1287 [.str s] []=(cnd (PySem.Txt.contains s (⟨#[0]⟩:Str)) (none) (okE (cN d 1070 [(.str s)] []) (fun v0=>obO (itemA v0 (.int 0)) fun v1=>obO (binA .Add v1 (.bytes [0])) fun v2=>some (.ok v2)) (fun u0=>some (.error u0)))):=by kernel_rfl
theorem m1360 (d:Nat)(n:List UInt8)(x y z:AV):cN (d+1) 1360 [.bytes n,x,y,z] []=(obO (binA .Add (.bytes [10]) (.bytes n)) fun v0=>some (.ok v0)):=by kernel_rfl
theorem m1346 (d:Nat)(n:List UInt8)(x:Bool)(y z:AV):cN (d+1) 1346 [.bytes n,.bool x,y,z] []=(obO (binA .Add (.bytes [8]) (.bytes n)) fun v0=>cnd x (obO (binA .Add v0 (.bytes [1])) fun v1=>some (.ok v1)) (cnd x (obO (binA .Add v0 (.bool x)) fun v1=>some (.ok v1)) (obO (binA .Add v0 (.bytes [0])) fun v1=>some (.ok v1)))):=by kernel_rfl
theorem m1381 (d:Nat)(n:List UInt8)(x:Int)(y z:AV):cN (d+1) 1381 [.bytes n,.int x,y,z] []=(cnd (decide ((-2147483648)≤x)) (cnd (decide (x≤2147483647)) (obO (binA .Add (.bytes [16]) (.bytes n)) fun v0=>okE (cN d 1245 [(.int x)] []) (fun v1=>obO (binA .Add v0 v1) fun v2=>some (.ok v2)) (fun u0=>some (.error u0))) (obO (binA .Add (.bytes [18]) (.bytes n)) fun v0=>none)) (obO (binA .Add (.bytes [18]) (.bytes n)) fun v0=>none)):=by kernel_rfl
theorem m1318 (d:Nat)(n:List UInt8)(s:Str)(y z:AV):cN (d+1) 1318 [.bytes n,.str s,y,z] []=(okE (cN d 1070 [(.str s)] []) (fun v0=>obO (itemA v0 (.int 0)) fun v1=>obO (binA .Add (.bytes [2]) (.bytes n)) fun v2=>obO (callB cx .len [v1]) fun v3=>obO (binA .Add v3 (.int 1)) fun v4=>okE (cN d 1245 [v4] []) (fun v5=>obO (binA .Add v2 v5) fun v6=>obO (binA .Add v6 v1) fun v7=>obO (binA .Add v7 (.bytes [0])) fun v8=>some (.ok v8)) (fun u0=>some (.error u0))) (fun u0=>some (.error u0))):=by kernel_rfl
theorem m1294 (d:Nat)(n:List UInt8)(s:List UInt8)(y z:AV):cN (d+1) 1294 [.bytes n,.bytes s,y,z] []=(obO (binA .Add (.bytes [5]) (.bytes n)) fun v0=>okE (cN d 1245 [(.int (((List.length s):Nat):Int))] []) (fun v1=>obO (binA .Add v0 v1) fun v2=>obO (binA .Add v2 (.bytes [0])) fun v3=>obO (binA .Add v3 (.bytes s)) fun v4=>some (.ok v4)) (fun u0=>some (.error u0))):=by kernel_rfl
theorem m1424_n (d:Nat)(n:AV)(y z:AV):cN (d+1) 1424 [n,.none,y,z] []=(okE (cN d 1360 [n,.none,y,z] []) (fun v0=>some (.ok v0)) (fun u0=>some (.error u0))):=by kernel_rfl
theorem m1424_b (d:Nat)(n:AV)(x:Bool)(y z:AV):cN (d+1) 1424 [n,.bool x,y,z] []=(okE (cN d 1346 [n,(.bool x),y,z] []) (fun v0=>some (.ok v0)) (fun u0=>some (.error u0))):=by kernel_rfl
theorem m1424_i (d:Nat)(n:AV)(x:Int)(y z:AV):cN (d+1) 1424 [n,.int x,y,z] []=(okE (cN d 1381 [n,(.int x),y,z] []) (fun v0=>some (.ok v0)) (fun u0=>none)):=by kernel_rfl
theorem m1424_s (d:Nat)(n:AV)(x:Str)(y z:AV):cN (d+1) 1424 [n,.str x,y,z] []=(okE (cN d 1318 [n,(.str x),y,z] []) (fun v0=>some (.ok v0)) (fun u0=>some (.error u0))):=by kernel_rfl
theorem m1424_y (d:Nat)(n:AV)(x:List UInt8)(y z:AV):cN (d+1) 1424 [n,.bytes x,y,z] []=(okE (cN d 1294 [n,(.bytes x),y,z] []) (fun v0=>some (.ok v0)) (fun u0=>some (.error u0))):=by kernel_rfl
theorem m1424_d (d:Nat)(n:AV)(x:List (Str × AV))(y z:AV):cN (d+1) 1424 [n,.dict x,y,z] []=(okE (cN d 1299 [n,(.dict x),y,z] []) (fun v0=>some (.ok v0)) (fun u0=>some (.error u0))):=by kernel_rfl
theorem m1424_l (d:Nat)(n:AV)(x:List AV)(y z:AV):cN (d+1) 1424 [n,.list x,y,z] []=(okE (cN d 1311 [n,(.list x),y,z] []) (fun v0=>some (.ok v0)) (fun u0=>some (.error u0))):=by kernel_rfl
theorem m1431 (d:Nat)(k:Str)(v z:AV):cN (d+1) 1431 [.str k,v,.bool false,z] []=(okE (cN d 1287 [(.str k)] []) (fun v0=>okE (cN d 1424 [v0,v,(.bool false),z] []) (fun v1=>some (.ok v1)) (fun u0=>some (.error u0))) (fun u0=>some (.error u0))):=by kernel_rfl
theorem m1470 (d:Nat)(x:AV):cN (d+1) 1470 [x] []=(okE (cN d 1462 [x,(.obj 262)] []) (fun v0=>some (.ok v0)) (fun u0=>some (.error u0))):=by kernel_rfl
end
noncomputable section
open PySem PySem.W PySem.Calls PyProof.Rows
set_option maxRecDepth 100000
theorem eO {β:Type}{o:Option (Except AX AV)}{v:AV}{f:AV→Option β}{g:AX→Option β}(h:o=some (.ok v)):okE o f g=f v:=by rw[h]; rfl
theorem oS {α β:Type}{o:Option α}{v:α}{f:α→Option β}(h:o=some v):obO o f=f v:=by rw[h]; rfl
theorem od {p:Prop}[Decidable p] (h:decide p=true):p:=of_decide_eq_true h
theorem cnd_t {α:Type}{x y:Option α}:cnd true x y=x:=rfl
theorem cnd_f {α:Type}{x y:Option α}:cnd false x y=y:=rfl
theorem cndT {α:Type}{c:Bool}{x y:Option α}(h:c=true):cnd c x y=x:=by rw[h]; rfl
theorem onTL_t {β:Type}{l:List AV}{f:List AV→Option β}:onTL (.tup l) f=f l:=rfl
theorem tup0 {x:AV}{l:List AV}:itemA (.tup (x::l)) (.int 0)=some x:=by
 exact (obS (idx_pos (p:=0) rfl (Nat.succ_pos _))).trans rfl
theorem s1245 {d:Nat}{n:Int}(h:I32 n):cN (d+1) 1245 [.int n] []=some (.ok (.bytes (le4 n))):=by
 rw[m1245,oS (pack_m h)]
theorem s1028 {d:Nat}{b:List UInt8}{p:Nat}{n:Int}(hn:I32 n)(h:Has b p (le4 n)):cN (d+1) 1028 [.bytes b,.int p,.int 4,.bool true] []=some (.ok (.int n)):=by
 have hl:=h.len
 rw[lL] at hl
 have hc:cutL b (some (p:Int)) (some ((p:Int)+4))=le4 n:=h.cut (q:=p+4) (by rw[lL])
 rw[m1028,decide_eq_false (show ¬((b.length:Nat):Int)<(p:Int)+4 by lia),cnd_f,hc,oS (unpack_m hn)]
theorem s1035 {d:Nat}{b:List UInt8}{p:Nat}{n:Int}(hn:I32 n)(h:Has b p (le4 n)):cN (d+2) 1035 [.bytes b,.int p] []=some (.ok (.tup [.int n])):=by
 rw[m1035,eO (s1028 hn h)]
theorem s1360 {d:Nat}{n:List UInt8}{x y z:AV}(hl:n.length≤1000000):cN (d+1) 1360 [.bytes n,x,y,z] []=some (.ok (.bytes (10::n))):=by
 rw[m1360,oS (add_b (x:=[10]) (by simp; lia))]; rfl
theorem s1098 {d:Nat}{b:List UInt8}{p:Nat}{n:Int}{v x y z:AV}(hn:I32 n)(h:Has b p (le4 n)):cN (d+3) 1098 [.bytes b,v,.int p,x,y,z] []=some (.ok (.tup [.int n,.int (p+4:Nat)])):=by
 rw[m1098,eO (s1035 hn h),oS tup0]; rfl
noncomputable def cxF (f:FnA) (d:Nat):Ctx:=ctxF TT f (cN d) (genD TT fnT d)
noncomputable def forT:Stmt→PySem.Expr
 | .For t _ _ _ _=>t
 | _=>.Constant .none 0 default
noncomputable def forB:Stmt→List Stmt
 | .For _ _ b _ _=>b
 | _=>[]
noncomputable def exN:AX→AEnv→Option (Except AX AV):=fun a J=>some (.error a)
set_option tactic.hygienic true in
theorem exs_cons {R:Type}{n:Nat}{C:Ctx}{s:Stmt}{r:List Stmt}{k:KF R}{X:KX R}{e:AEnv}:exs (n+1) C (s::r) k X e=exS n C s (fun fl e'=>(match fl with
 | .next=>exs n C r
 | .brk=>ret .brk
 | .cont=>ret .cont
 | .ret v=>ret (.ret v)) k X e') X e:=rfl
set_option tactic.hygienic true in
theorem forL_cons {R:Type}{A:AV→M R Unit}{B:M R FL}{x:AV}{r:List AV}{k:KF R}{X:KX R}{e:AEnv}:forL A B (x::r) k X e=(bnd (A x) fun J=>B) (fun fl e'=>(match fl with
 | .next=>forL A B r
 | .cont=>forL A B r
 | .brk=>ret .next
 | .ret v=>ret (.ret v)) k X e') X e:=rfl
noncomputable def up:Nat→Nat→List AV
 | _,0=>[]
 | q,m+1=>.int (q:Nat)::up (q+1) m
theorem up_map:∀(m q:Nat),up q m=(List.range m).map fun i=>.int ((q:Int)+(i:Nat)*1)
 | 0,q=>rfl
 | m+1,q=>by
  rw[List.range_succ_eq_map,List.map_cons,List.map_map,up,up_map m (q+1)]
  congr 1
  simp[Function.comp]
  intro a _
  lia
theorem fits_long {x:Int}(h1:-100000000≤x)(h2:x≤100000000):Builtin.Range.rangeFitsLong x=true:=by
 unfold Builtin.Range.rangeFitsLong
 simp
 lia
theorem size_up {p n:Nat}(h:p≤n):Builtin.Range.rangeSize (p:Int) (n:Int) 1=((n-p:Nat):Int):=by
 unfold Builtin.Range.rangeSize
 rw[if_pos (by lia)]
 split
 ·rw[Int.ediv_one]; lia
 ·lia
theorem small_up {p n:Nat}(h:p≤n)(hn:n≤16777216):Builtin.Range.small (p:Int) (n:Int) 1=true:=by
 unfold Builtin.Range.small
 rw[size_up h,fits_long (x:=(p:Int)) (by lia) (by lia),fits_long (x:=(n:Int)) (by lia) (by lia),fits_long (x:=1) (by lia) (by lia),fits_long (x:=((n-p:Nat):Int)) (by lia) (by lia),if_pos (by lia),fits_long (x:=(n:Int)+(1-1)) (by lia) (by lia),Bool.or_true]
 rfl
theorem abs1:decide ((1:Int).natAbs<1073741824)=true:=by decide
theorem ne1:decide ((1:Int)≠0)=true:=by decide
theorem rng_of {a b:Int}{m:Nat}(h1:Builtin.Range.small a b 1=true)(h2:Builtin.Range.rangeSize a b 1=(m:Int))(h3:decide ((m:Int)≤16777216)=true):rngA a b 1=some ((List.range m).map fun i=>.int (a+(i:Nat)*1)):=by
 unfold rngA
 rw[h1,h2,h3,abs1,ne1]
 rfl
theorem rng_up {p n:Nat}(h:p≤n)(hn:n≤16777216):rngA (p:Int) (n:Int) 1=some (up p (n-p)):=by
 rw[rng_of (small_up h hn) (size_up h) (decide_eq_true (by lia)),up_map]
theorem b1077 (d:Nat)(b:List UInt8)(p:Int):cN (d+1) 1077 [.bytes b,.int p] []=exs 60 (cxF f1077 d) (nthS f1077.body 0::f1077.body.drop 1) endK exN [pS (.bytes b),pS (.int p),none]:=by kernel_rfl
theorem x1077 {R:Type}(d:Nat)(b:List UInt8)(p:Int)(k:KF R)(X:KX R):exS 59 (cxF f1077 d) (nthS f1077.body 0) k X [pS (.bytes b),pS (.int p),none]=(
 obO (rngA p ((b.length:Nat):Int) 1) fun xs=>forL (asg (cxF f1077 d) (forT (nthS f1077.body 0))) (exs 58 (cxF f1077 d) (forB (nthS f1077.body 0))) xs k X [pS (.bytes b),pS (.int p),none]):=by kernel_rfl
theorem t1077 (R:Type)(d:Nat)(b:List UInt8)(p:AV)(q:Int)(s:Option Slot)(k:KF R)(X:KX R):(bnd (asg (cxF f1077 d) (forT (nthS f1077.body 0))  (.int q)) fun J=>exs 58 (cxF f1077 d) (forB (nthS f1077.body 0))) k X [pS (.bytes b),pS p,s]=(
 obO (Mine.itemA (AV.bytes b) (AV.int q)) fun v_0 =>
 obO (Mine.cmpA PySem.CmpOp.Eq v_0 (AV.int 0)) fun v_1 =>
 cnd v_1 ((k (FL.ret (AV.int q)) [(pS (AV.bytes b)),(pS p),(pS (AV.int q))]))
 ((k FL.next [(pS (AV.bytes b)),(pS p),(pS (AV.int q))]))):=by kernel_rfl
theorem eq_i {x y:Int}:cmpA .Eq (.int x) (.int y)=some (decide (x=y)):=rfl
theorem ne_i {x y:Int}:cmpA .NotEq (.int x) (.int y)=some (!decide (x=y)):=rfl
theorem l1077 {R:Type}{d:Nat}{b:List UInt8}{p:AV}{k:KF R}{X:KX R}:∀(nm:List UInt8) (q m:Nat) (s:Option Slot),Has b q (nm++[0])→(0:UInt8)∉nm→nm.length<m →
  ∃s',forL (asg (cxF f1077 d) (forT (nthS f1077.body 0))) (exs 58 (cxF f1077 d) (forB (nthS f1077.body 0))) (up q m) k X [pS (.bytes b),pS p,s]=k (.ret (.int (q+nm.length:Nat))) [pS (.bytes b),pS p,s']
 | _,_,0,_=>fun J J hm=>absurd hm (Nat.not_lt_zero _)
 | [],q,m+1,s=>fun h hz hm=>by
  refine ⟨pS (.int q),?_⟩
  rw[up,forL_cons,t1077,oS (Has.item h),oS eq_i,decide_eq_true (by rfl),cnd_t]
  rfl
 | x::nm,q,m+1,s=>fun h hz hm=>by
  have hx:¬(((x.toNat:Nat):Int)=0):=fun e=>hz (by
   have:x.toNat=0:=by lia
   have:x=0:=UInt8.toNat_inj.mp (by rw[this]; rfl)
   rw[this]; exact .head _)
  have h':Has b (q+1) (nm++[0]):=Has.right (x:=[x]) h
  obtain ⟨s',e⟩:=l1077 nm (q+1) m (pS (.int q)) h' (fun q=>hz (.tail _ q)) (by simp at hm; lia)
  refine ⟨s',?_⟩
  rw[up,forL_cons,t1077,oS (Has.item (l:=nm++[0]) h),oS eq_i,decide_eq_false hx,cnd_f]
  show forL _ _ (up (q+1) m) k X _=_
  rw[e,List.length_cons,show q+1+nm.length=q+(nm.length+1) by lia]
set_option tactic.hygienic true in
theorem s1077 {d:Nat}{b:List UInt8}{p:Nat}{nm:List UInt8}(hb:b.length≤16777216)(h:Has b p (nm++[0]))(hz:(0:UInt8)∉nm):cN (d+1) 1077 [.bytes b,.int p] []=some (.ok (.int (p+nm.length:Nat))):=by
 have hl:=h.len
 rw[List.length_append] at hl
 have:([0]:List UInt8).length=1:=rfl
 rw[b1077,exs_cons,x1077,oS (rng_up (by lia) hb)]
 obtain ⟨s',e⟩:=l1077 (R:=Except AX AV) (d:=d) (p:=.int p) (k:=fun fl e'=>(match fl with
  | .next=>exs 59 (cxF f1077 d) (f1077.body.drop 1)
  | .brk=>ret .brk
  | .cont=>ret .cont
  | .ret v=>ret (.ret v)) endK exN e') (X:=exN) nm p (b.length-p) none h hz (by lia)
 rw[e]
 rfl
theorem dec_m {y:List UInt8} {x:Str} (h:decT y=some x):runMt cx .decode (.bytes y) [.str (S "utf-8")] []=some (.str x):=by
 have e1:sEqB (S "utf-8") (PySem.Str.ofString "utf-8")=true:=by decide +kernel
 exact (gdT rfl).trans ((gdT e1).trans (obS h))
theorem s1063 {d:Nat}{y:List UInt8}{x:Str}{p e:AV}(h:decT y=some x):cN (d+1) 1063 [.bytes y,p,e] []=some (.ok (.tup [.str x,.int (y.length:Nat)])):=by
 rw[m1063,oS (dec_m h)]
theorem part_i {i:Int}:partA (.int i)=some (some i):=rfl
theorem add_i {x y:Int}:binA .Add (.int x) (.int y)=some (.int (x+y)):=rfl
theorem sub_i {x y:Int}:binA .Sub (.int x) (.int y)=some (.int (x-y)):=rfl
theorem lt_i {x y:Int}:cmpA .Lt (.int x) (.int y)=some (decide (x<y)):=rfl
theorem gt_i {x y:Int}:cmpA .Gt (.int x) (.int y)=some (decide (y<x)):=rfl
theorem ge_i {x y:Int}:cmpA .GtE (.int x) (.int y)=some (decide (y≤x)):=rfl
theorem s1105 {d:Nat}{b:List UInt8}{p:Nat}{nm:List UInt8}{x:Str}(hb:b.length≤16777216)(h:Has b p (nm++[0]))(hz:(0:UInt8)∉nm)(hx:decT nm=some x) :
  cN (d+2) 1105 [.bytes b,.bytes b,.int p,.obj 262] []=some (.ok (.tup [.str x,.int (p+nm.length+1:Nat)])):=by
 have hc:cutL b (some (p:Int)) (some ((p+nm.length:Nat):Int))=nm:=h.left.cut rfl
 rw[m1105,eO (s1077 hb h hz),oS part_i,hc,eO (s1063 hx),oS tup0,oS add_i]
 rfl
theorem s1112 {d:Nat}{b:List UInt8}{p e:Nat}{y:List UInt8}{x:Str}{z:AV}(hb:b.length≤16777216)(h:Has b p (le4 ((y.length:Nat)+1:Int)++(y++[0])))(hx:decT y=some x)(he:p+4+y.length+1≤e) :
  cN (d+3) 1112 [.bytes b,.bytes b,.int p,.int e,.obj 262,z] []=some (.ok (.tup [.str x,.int (p+4+y.length+1:Nat)])):=by
 have hl:=h.len
 rw[List.length_append,lL,List.length_append] at hl
 have h1:Has b (p+4) (y++[0]):=by have:=h.right; rwa [lL] at this
 have h2:Has b (p+4+y.length) [0]:=h1.right
 have hn:I32 ((y.length:Nat)+1:Int):=⟨by lia,by lia⟩
 have e5:((p:Int)+4+((y.length:Nat)+1)-1)=((p+4+y.length:Nat):Int):=by lia
 have hc:cutL b (some ((p:Int)+4)) (some ((p+4+y.length:Nat):Int))=y:=h1.left.cut (p:=p+4) rfl
 rw[m1112,eO (s1035 hn h.left),oS tup0,oS lt_i,decide_eq_false (by lia),cnd_f,oS lt_i,decide_eq_false (by lia),cnd_f,oS add_i,oS sub_i,e5,
  oS (h2.item),oS ne_i]
 rw[show (!decide (((0:UInt8).toNat:Int)=0))=false from rfl,cnd_f,oS part_i,hc,eO (s1063 hx),oS tup0,oS add_i]
 rfl
theorem s1154 {d:Nat}{b v:List UInt8}{p:Nat}{c:Bool}{x y z:AV}(h:Has b p [if c then 1 else 0]):cN (d+1) 1154 [.bytes b,.bytes v,.int p,x,y,z] []=some (.ok (.tup [.bool c,.int (p+1:Nat)])):=by
 have hc:cutL b (some (p:Int)) (some ((p:Int)+1))=[if c then 1 else 0]:=h.cut (q:=p+1) rfl
 rw[m1154,hc]
 cases c
 ·rw[decide_eq_true (by rfl),cnd_t]; rfl
 ·rw[decide_eq_false (by decide),cnd_f,decide_eq_true (by rfl),cnd_t]; rfl
theorem consL_c {α β:Type}{x:α}{r:List α}{a:Option β}{f:α→List α→Option β}:consL (x::r) a f=f x r:=rfl
theorem consL_n {α β:Type}{a:Option β}{f:α→List α→Option β}:consL [] a f=a:=rfl
theorem s1119 {d:Nat}{b:List UInt8}{p n e:Nat}(hn:I32 (n:Int))(h:Has b p (le4 (n:Int)))(hz:Has b (p+n-1) [0])(h1:1≤n)(he:p+n-1<e)(h0:p=0→n=e) :
  cN (d+3) 1119 [.bytes b,.int p,.int e] []=some (.ok (.tup [.int n,.int (p+n-1:Nat)])):=by
 have e5:(p:Int)+(n:Int)-1=((p+n-1:Nat):Int):=by lia
 rw[m1119,eO (s1035 hn h),oS tup0,oS add_i,oS sub_i,e5,oS ge_i,decide_eq_false (by lia),cnd_f,oS hz.item,oS ne_i,
  show (!decide (((0:UInt8).toNat:Int)=0))=false from rfl,cnd_f]
 by_cases hp:p=0
 ·have:=h0 hp
  refine (cndT (decide_eq_true (by lia))).trans ((oS ne_i).trans ?_); rw[decide_eq_true (by lia)]
  rfl
 ·rw[decide_eq_false (by lia),cnd_f]
theorem s1042 {d:Nat}{b:List UInt8}{p:Nat}{n:Int}{t:UInt8}(hn:I32 n)(h:Has b p (le4 n++[t])):cN (d+2) 1042 [.bytes b,.int p] []=some (.ok (.tup [.int n,.int (t.toNat:Nat)])):=by
 have hl:=h.len
 rw[List.length_append,lL] at hl
 have hl':([t]:List UInt8).length=1:=rfl
 have h2:Has b (p+4) [t]:=by have:=h.right; rwa [lL] at this
 rw[m1042,decide_eq_false (by lia),cnd_f,eO (s1028 hn h.left),oS (show itemA (.bytes b) (.int ((p:Int)+4))=some (.int (t.toNat:Nat)) from h2.item (p:=p+4))]
theorem in34 {x:Int}(h:x≠3)(h':x≠4):cmpA .In (.int x) (.tup [.int 3,.int 4])=some false:=by
 show intIn x [.int 3,.int 4]=some false
 show some (decide ((3:Int)=x)||(decide ((4:Int)=x)||false))=_
 rw[decide_eq_false (Ne.symm h),decide_eq_false (Ne.symm h')]
 rfl
theorem s1140 {d:Nat}{b:List UInt8}{p e:Nat}{y:List UInt8}{z:AV}(hb:b.length≤16777216)(h:Has b p (le4 (y.length:Nat)++(0::y)))(he:p+5+y.length≤e) :
  cN (d+3) 1140 [.bytes b,.bytes b,.int p,.int e,.obj 262,z] []=some (.ok (.tup [.bytes y,.int (p+5+y.length:Nat)])):=by
 have hl:=h.len
 rw[List.length_append,lL,List.length_cons] at hl
 have h0:Has b p ((le4 (y.length:Nat)++[0])++y):=by rw[List.append_assoc]; exact h
 have hy:Has b (p+5) y:=by have:=h0.right; rwa [List.length_append,lL] at this
 have hn:I32 ((y.length:Nat):Int):=⟨by lia,by lia⟩
 have e5:(p:Int)+5+((y.length:Nat):Int)=((p+5+y.length:Nat):Int):=by lia
 have hc:cutL b (some ((p:Int)+5)) (some ((p+5+y.length:Nat):Int))=y:=hy.cut (p:=p+5) rfl
 rw[m1140,eO (s1042 hn h0.left),onTL_t,decide_eq_true (by rfl),cnd_t,consL_c,consL_c,consL_n]
 rw[oS eq_i,decide_eq_false (by decide),cnd_f,oS add_i,e5,oS lt_i,decide_eq_false (by lia),cnd_f,oS gt_i,decide_eq_false (by lia),cnd_f,oS (in34 (by decide) (by decide)),cnd_f,oS eq_i,
  decide_eq_true (by rfl),cnd_t,oS part_i,hc]
end
noncomputable section
open PySem PySem.W PySem.Calls PyProof.Rows
set_option maxRecDepth 100000
set_option maxHeartbeats 0
noncomputable def whT:Stmt→PySem.Expr
 | .While t _ _ _=>t
 | _=>.Constant .none 0 default
noncomputable def whB:Stmt→List Stmt
 | .While _ b _ _=>b
 | _=>[]
theorem a1231 (R:Type)(d:Nat)(a1 a2 a3 a4 a5:AV)(k:KF R)(X:KX R):exS 59 (cxF f1231 d) (nthS f1231.body 0) k X [pS a1,pS a2,pS a3,pS a4,pS a5,none,none,none,none]=(
 (k FL.next [(pS a1),(pS a2),(pS a3),(pS a4),(pS a5),(some (Slot.own (OC.dict []))),none,none,none])):=by kernel_rfl
theorem b1231' (R:Type)(d:Nat)(a1 a2 a3 a5:AV)(e:Int)(k:KF R)(X:KX R):exS 58 (cxF f1231 d) (nthS f1231.body 1) k X [pS a1,pS a2,pS a3,pS (.int e),pS a5,some (.own (.dict [])),none,none,none]=(
 (k FL.next [(pS a1),(pS a2),(pS a3),(pS (AV.int e)),(pS a5),(some (Slot.own (OC.dict []))),(pS (AV.int (e-1))),none,none])):=by kernel_rfl
theorem t1231 (R:Type)(d:Nat)(a1 a2 a4 a5:AV)(p e:Int)(s0 s1 s2:Option Slot)(k:Bool→AEnv→Option R)(X:KX R):(tst 56 (cxF f1231 d) (whT (nthS f1231.body 2))) k X [pS a1,pS a2,pS (.int p),pS a4,pS a5,s0,pS (.int e),s1,s2]=(
 (k (decide (p<e)) [(pS a1),(pS a2),(pS (AV.int p)),(pS a4),(pS a5),s0,(pS (AV.int e)),s1,s2])):=by kernel_rfl
set_option tactic.hygienic true in
theorem u1231 (R:Type)(d:Nat)(a1 a2 a3 a4 a5:AV)(es:List (Str × AV))(e:AV)(s1 s2:Option Slot)(k:KF R)(X:KX R):(exs 56 (cxF f1231 d) (whB (nthS f1231.body 2))) k X [pS a1,pS a2,pS a3,pS a4,pS a5,some (.own (.dict es)),pS e,s1,s2]=(
 okE (cN d 1224 [a1,a2,a3,a4,a5] []) (fun v_0 =>
 onTL v_0 fun t_0 =>
  cnd (decide (3=(List.length t_0))) (consL t_0 (none) (fun x_0 r_0 =>
   consL r_0 (none) (fun x_1 r_1 =>
    consL r_1 (none) (fun x_2 r_2 =>
     consL r_2 (onS x_0 fun s_0 =>
       cnd (Mine.fitL ((List.length es)+1)) ((k FL.next [(pS a1),(pS a2),(pS x_2),(pS a4),(pS a5),(some (Slot.own (OC.dict (Mine.putA s_0 x_1 es)))),(pS e),(pS x_0),(pS x_1)]))
       (none)) (fun x_3 r_3 =>
      none)))))
  (none)) (fun x_0=>(X x_0 [(pS a1),(pS a2),(pS a3),(pS a4),(pS a5),(some (Slot.own (OC.dict es))),(pS e),s1,s2]))):=by kernel_rfl
theorem v1231 (d:Nat)(a1 a2 a5:AV)(es:List (Str × AV))(p o:Int)(e:AV)(s1 s2:Option Slot):(exs 57 (cxF f1231 d) (f1231.body.drop 3)) endK exN [pS a1,pS a2,pS (.int p),pS (.int o),pS a5,some (.own (.dict es)),pS e,s1,s2]=(
 cnd (Bool.not (decide (p=o))) (none)
 (some (Except.ok (AV.dict es)))):=by kernel_rfl
theorem onS_s {β:Type}{s:Str}{f:Str→Option β}:onS (.str s) f=f s:=rfl
set_option tactic.hygienic true in
theorem whileL_succ {R:Type}{t:M R Bool}{b:M R FL}{n:Nat}{k:KF R}{X:KX R}{e:AEnv}:whileL t b (n+1) k X e=t (fun c e'=>ifM c (bnd b fun fl=>match fl with
 | .next=>whileL t b n
 | .cont=>whileL t b n
 | .brk=>ret .next
 | .ret v=>ret (.ret v)) (ret .next) k X e') X e:=rfl
theorem ifM_t {R α:Type}{a b:M R α}{k:α→AEnv→Option R}{X:KX R}{e:AEnv}:ifM true a b k X e=a k X e:=rfl
theorem ifM_f {R α:Type}{a b:M R α}{k:α→AEnv→Option R}{X:KX R}{e:AEnv}:ifM false a b k X e=b k X e:=rfl
theorem bnd_eq {R α β:Type}{m:M R α}{f:α→M R β}{k:β→AEnv→Option R}{X:KX R}{e:AEnv}:bnd m f k X e=m (fun a e'=>f a k X e') X e:=rfl
theorem ret_eq {R α:Type}{a:α}{k:α→AEnv→Option R}{X:KX R}{e:AEnv}:ret a k X e=k a e:=rfl
structure El where
 len:Nat
 x:Str
 v:AV
noncomputable def putAll:List (Str × AV)→List El→List (Str × AV)
 | es,[]=>es
 | es,l::r=>putAll (putA l.x l.v es) r
noncomputable def Chain (d:Nat) (b:List UInt8) (oe:Nat):Nat→List El→Prop
 | q,[]=>q=oe
 | q,l::r=>2≤l.len∧cN d 1224 [.bytes b,.bytes b,.int q,.int oe,.obj 262] []=some (.ok (.tup [.str l.x,l.v,.int (q+l.len:Nat)]))∧Chain d b oe (q+l.len) r
theorem Chain.le {d:Nat}{b:List UInt8}{oe:Nat}:∀{els:List El} {q:Nat},Chain d b oe q els→q≤oe
 | [],q,h=>Nat.le_of_eq h
 | l::r,q,h=>by have:=h.2.2.le; lia
theorem putA_len {k:Str}{v:AV}:∀{es:List (Str × AV)},(putA k v es).length≤es.length+1
 | []=>Nat.le_refl _
 | e::r=>by
  unfold putA
  split
  ·simp
  ·have:=putA_len (k:=k) (v:=v) (es:=r); simp; lia
theorem l1231 {R:Type}{d:Nat}{b:List UInt8}{oe:Nat}{k:KF R}{X:KX R}:∀(els:List El) (n q:Nat) (es:List (Str × AV)) (s1 s2:Option Slot),Chain d b oe q els→els.length<n→es.length+els.length≤16777216 →
  ∃s1' s2',whileL (tst 56 (cxF f1231 d) (whT (nthS f1231.body 2))) (exs 56 (cxF f1231 d) (whB (nthS f1231.body 2))) n k X
   [pS (.bytes b),pS (.bytes b),pS (.int q),pS (.int oe),pS (.obj 262),some (.own (.dict es)),pS (.int ((oe:Int)-1)),s1,s2] =
   k .next [pS (.bytes b),pS (.bytes b),pS (.int oe),pS (.int oe),pS (.obj 262),some (.own (.dict (putAll es els))),pS (.int ((oe:Int)-1)),s1',s2']
 | _,0,_,_,_,_=>fun J hn J=>absurd hn (Nat.not_lt_zero _)
 | [],n+1,q,es,s1,s2=>fun h hn hs=>by
  cases (show q=oe from h)
  refine ⟨s1,s2,?_⟩
  rw[whileL_succ,t1231,decide_eq_false (by lia),ifM_f,ret_eq,putAll]
 | l::r,n+1,q,es,s1,s2=>fun h hn hs=>by
  have hle:=h.2.2.le
  have hl:=h.1
  rw[List.length_cons] at hn hs
  have hp:=putA_len (k:=l.x) (v:=l.v) (es:=es)
  obtain ⟨s1',s2',e⟩:=l1231 r n (q+l.len) (putA l.x l.v es) (pS (.str l.x)) (pS l.v) h.2.2 (by lia) (by lia)
  refine ⟨s1',s2',?_⟩
  rw[whileL_succ,t1231,decide_eq_true (by lia)]
  rw[ifM_t,bnd_eq]
  rw[u1231,eO h.2.1,onTL_t,decide_eq_true (by rfl),cnd_t,consL_c,consL_c,consL_c,consL_n]
  rw[onS_s,show fitL (es.length+1)=true from decide_eq_true (by lia),cnd_t,putAll]
  exact e
theorem b1231 (d:Nat)(b:List UInt8)(p oe:Int):cN (d+1) 1231 [.bytes b,.bytes b,.int p,.int oe,.obj 262] []=exs 60 (cxF f1231 d) (nthS f1231.body 0::nthS f1231.body 1::nthS f1231.body 2::f1231.body.drop 3) endK exN
 [pS (.bytes b),pS (.bytes b),pS (.int p),pS (.int oe),pS (.obj 262),none,none,none,none]:=by kernel_rfl
theorem x1231 {R:Type}(d:Nat)(k:KF R)(X:KX R)(e:AEnv):exS 57 (cxF f1231 d) (nthS f1231.body 2) k X e=whileL (tst 56 (cxF f1231 d) (whT (nthS f1231.body 2))) (exs 56 (cxF f1231 d) (whB (nthS f1231.body 2))) 100 k X e:=by kernel_rfl
noncomputable def seqK {R:Type} (n:Nat) (C:Ctx) (r:List Stmt) (k:KF R) (X:KX R):KF R:=fun fl e'=>(match fl with
 | .next=>exs n C r
 | .brk=>ret .brk
 | .cont=>ret .cont
 | .ret v=>ret (.ret v)) k X e'
theorem xS {R:Type}{n:Nat}{C:Ctx}{s:Stmt}{r:List Stmt}{k:KF R}{X:KX R}{e:AEnv}:exs (n+1) C (s::r) k X e=exS n C s (seqK n C r k X) X e:=rfl
theorem sN {R:Type}{n:Nat}{C:Ctx}{r:List Stmt}{k:KF R}{X:KX R}{e:AEnv}:seqK n C r k X .next e=exs n C r k X e:=rfl
theorem seqK_ret {R:Type}{n:Nat}{C:Ctx}{r:List Stmt}{v:AV}{k:KF R}{X:KX R}{e:AEnv}:seqK n C r k X (.ret v) e=k (.ret v) e:=rfl
theorem s1231 {d:Nat}{b:List UInt8}{q oe:Nat}{els:List El}(h:Chain d b oe q els)(hn:els.length<100):cN (d+1) 1231 [.bytes b,.bytes b,.int q,.int oe,.obj 262] []=some (.ok (.dict (putAll [] els))):=by
 rw[b1231,xS,a1231,sN,xS,b1231',sN,xS,x1231]
 obtain ⟨s1',s2',e⟩:=l1231 (R:=Except AX AV) (k:=seqK 57 (cxF f1231 d) (f1231.body.drop 3) endK exN) (X:=exN) els 100 q [] none none h hn (by rw[List.length_nil]; lia)
 rw[e,sN,v1231,decide_eq_true (by rfl)]
 rfl
end
noncomputable section
open PySem PySem.W PySem.Calls PyProof.Rows
set_option maxRecDepth 100000
theorem s1224 {d:Nat}{b:List UInt8}{p e q':Nat}{tag:UInt8}{nm:List UInt8}{x:Str}{v:AV}(hb:b.length≤16777216)(h:Has b p (tag::(nm++[0])))(hz:(0:UInt8)∉nm)(hx:decT nm=some x)
  (hg:cN (d+2) 1217 [.int (tag.toNat:Nat),.bytes b,.bytes b,.int (p+1+nm.length+1:Nat),.int e,.obj 262,.str x] []=some (.ok (.tup [v,.int q']))) :
  cN (d+3) 1224 [.bytes b,.bytes b,.int p,.int e,.obj 262] []=some (.ok (.tup [.str x,v,.int q'])):=by
 have h1:Has b (p+1) (nm++[0]):=Has.right (x:=[tag]) h
 have hc:cN (d+2) 1105 [.bytes b,.bytes b,.int ((p:Int)+1),.obj 262] []=some (.ok (.tup [.str x,.int (p+1+nm.length+1:Nat)])):=s1105 (p:=p+1) hb h1 hz hx
 rw[m1224,oS h.item,eO hc,onTL_t,decide_eq_true (by rfl),cnd_t,consL_c,consL_c,consL_n,eO hg,onTL_t,decide_eq_true (by rfl),cnd_t,consL_c,consL_c,consL_n]
def Rd (d:Nat)(tag:UInt8)(pay:List UInt8)(v:AV):Prop:=∀(b:List UInt8) (p e:Nat) (nm:AV),b.length≤16777216→Has b p pay→p+pay.length≤e→0<p→cN d 1217 [.int (tag.toNat:Nat),.bytes b,.bytes b,.int p,.int e,.obj 262,nm] []=some (.ok (.tup [v,.int (p+pay.length:Nat)]))
theorem rd_none {d:Nat}:Rd (d+1) 10 [] .none:=fun b p e nm hb h he h0=>m1217_10 d _ _ _ _ _ _
theorem rd_int {d:Nat}{n:Int}(hn:I32 n):Rd (d+4) 16 (le4 n) (.int n):=fun b p e nm hb h he h0=>by
 show cN (d+3+1) 1217 [.int 16,_,_,_,_,_,_] []=_
 rw[m1217_16,eO (s1098 hn h),lL]
theorem rd_bool {d:Nat}{c:Bool}:Rd (d+2) 8 [if c then 1 else 0] (.bool c):=fun b p e nm hb h he h0=>by
 show cN (d+1+1) 1217 [.int 8,_,_,_,_,_,_] []=_
 rw[m1217_8,eO (s1154 h)]
 rfl
theorem rd_str {d:Nat}{y:List UInt8}{x:Str}(hx:decT y=some x):Rd (d+4) 2 (le4 ((y.length:Nat)+1:Int)++(y++[0])) (.str x):=fun b p e nm hb h he h0=>by
 have el:(le4 ((y.length:Nat)+1:Int)++(y++[0])).length=4+(y.length+1):=by rw[List.length_append,lL,List.length_append]; rfl
 rw[el] at he ⊢
 show cN (d+3+1) 1217 [.int 2,_,_,_,_,_,_] []=_
 rw[m1217_2,eO (s1112 hb h hx (by lia)),show p+(4+(y.length+1))=p+4+y.length+1 by lia]
theorem rd_bytes {d:Nat}{y:List UInt8}:Rd (d+4) 5 (le4 (y.length:Nat)++(0::y)) (.bytes y):=fun b p e nm hb h he h0=>by
 have el:(le4 (y.length:Nat)++(0::y)).length=4+(y.length+1):=by rw[List.length_append,lL,List.length_cons]
 rw[el] at he ⊢
 show cN (d+3+1) 1217 [.int 5,_,_,_,_,_,_] []=_
 rw[m1217_5,eO (s1140 hb h (by lia)),show p+(4+(y.length+1))=p+5+y.length by lia]
theorem isa_none:callB cx .isinstance [.none,.tup [.bi .str,.obj 196]]=some (.bool false):=by kernel_rfl
theorem rd_dict {d:Nat} {body:List UInt8} {els:List El} (hI:body.length≤16000000) (hc:∀(b:List UInt8) (p:Nat),b.length≤16777216→0<p→Has b p body→Chain (d+2) b (p+body.length) p els) (hn:els.length<100) (hr:dGet (S "$ref") (putAll [] els)=none) :
  Rd (d+5) 3 (le4 (body.length+5:Nat)++(body++[0])) (.dict (putAll [] els)):=fun b p e nm hb h he h0=>by
 have el:(le4 (body.length+5:Nat)++(body++[0])).length=body.length+5:=by rw[List.length_append,lL,List.length_append]; show 4+(body.length+1)=_; lia
 rw[el] at he ⊢
 have h1:Has b (p+4) (body++[0]):=by have:=h.right; rwa [lL] at this
 have h2:Has b (p+(body.length+5)-1) [0]:=by have:=h1.right; rwa [show p+4+body.length=p+(body.length+5)-1 by lia] at this
 have c:=hc b (p+4) hb (by lia) h1.left
 rw[show p+4+body.length=p+(body.length+5)-1 by lia] at c
 have s:=s1231 c hn
 show cN (d+4+1) 1217 [.int 3,_,_,_,_,_,_] []=_
 have o:cN (d+3+1) 1126 [.bytes b,.bytes b,.int p,.int e,.obj 262,nm] []=some (.ok (.tup [.dict (putAll [] els),.int (p+(body.length+5):Nat)])):=by
  rw[m1126,eO (s1119 (n:=body.length+5) ⟨by lia,by lia⟩ h.left h2 (by lia) (by lia) (by lia)),onTL_t,decide_eq_true (by rfl),cnd_t,consL_c,consL_c,consL_n,
   eO (show cN (d+3) 1231 [.bytes b,.bytes b,.int ((p:Int)+4),.int ((p+(body.length+5)-1:Nat):Int),.obj 262] []=some (.ok (.dict (putAll [] els))) from s)]
  rw[oS (show augA .Add (.int (p:Int)) (.int ((body.length+5:Nat):Int))=some (.int ((p+(body.length+5):Nat):Int)) from rfl),
   oS (show methOf (.dict (putAll [] els)) (S "get")=some .get from by kernel_rfl),
   oS (show runMt cx .get (.dict (putAll [] els)) [.str (S "$ref")] []=some .none from by show (match dGet (S "$ref") (putAll [] els) with|some x=>some x|none=>some AV.none)=_; rw[hr]),
   oS isa_none,oS (show truthA (.bool false)=some false from rfl),cnd_f]
 rw[m1217_3,eO o]
end
noncomputable section
open PySem PySem.W PySem.Calls PyProof.Rows
set_option maxRecDepth 100000
set_option maxHeartbeats 0
theorem exs_nil {R:Type}{n:Nat}{C:Ctx}{k:KF R}{X:KX R}{e:AEnv}:exs (n+1) C [] k X e=k .next e:=rfl
set_option tactic.hygienic true in
theorem exs_app {R:Type}{m:Nat}{C:Ctx}{l2:List Stmt}{k:KF R}{X:KX R}:∀(l1:List Stmt) (n:Nat) (e:AEnv),n=m+1+l1.length→exs n C (l1++l2) k X e=exs n C l1 (seqK (m+1) C l2 k X) X e
 | [],n,e,h=>by subst h; rfl
 | s::r,n,e,h=>by
  have hn:n=(m+1+r.length)+1:=by rw[h,List.length_cons]; lia
  subst hn
  rw[List.cons_append,xS,xS]
  congr 1
  funext fl e'
  cases fl with
  | next=>exact exs_app r _ e' rfl
  | _=>rfl
theorem compL_cons {R:Type}{A:AV→M R Unit}{T:M R Bool}{B:M R AV}{x:AV}{r:List AV}{k:List AV→AEnv→Option R}{X:KX R}{e:AEnv}:compL A T B (x::r) k X e=(bnd (A x) fun J=>bnd T fun c=>ifM c (bnd B fun y=>bnd (compL A T B r) fun ys=>ret (y::ys)) (compL A T B r)) k X e:=rfl
noncomputable def omap (g:AV→Option AV):List AV→List AV
 | []=>[]
 | x::r=>match g x with
  | some y=>y::omap g r
  | none=>omap g r
def Turn (R:Type)(A:AV→M R Unit)(T:M R Bool)(B:M R AV)(mk:Option Slot→AEnv)(g:AV→Option AV)(x:AV):Prop:=∀s,∃s',∀(K:AV→M R (List AV)) (K':M R (List AV)) k X,(bnd (A x) fun J=>bnd T fun c=>ifM c (bnd B fun y=>K y) K') k X (mk s)=match g x with
 | some y=>K y k X (mk s')
 | none=>K' k X (mk s')
theorem compL_map {R:Type}{A:AV→M R Unit}{T:M R Bool}{B:M R AV}{mk:Option Slot→AEnv}{g:AV→Option AV}{X:KX R}:∀(xs:List AV),(∀x∈xs,Turn R A T B mk g x)→∀s,∃s',∀k,compL A T B xs k X (mk s)=k (omap g xs) (mk s')
 | [],h,s=>⟨s,fun k=>rfl⟩
 | x::r,h,s=>by
  obtain ⟨s1,h1⟩:=h x (.head _) s
  obtain ⟨s2,h2⟩:=compL_map r (fun y hy=>h y (.tail _ hy)) s1
  refine ⟨s2,fun k=>?_⟩
  rw[compL_cons,h1,omap]
  cases g x with
  | none=>exact h2 k
  | some y =>
   show bnd (compL A T B r) (fun ys=>ret (y::ys)) k X (mk s1)=_
   rw[bnd_eq,h2]
   rfl
set_option tactic.hygienic true in
theorem p1133 (R:Type)(d:Nat)(b:List UInt8)(a2 a4 a5 a6:AV)(p:Int)(k:KF R)(X:KX R):(exs 60 (cxF f1133 d) (f1133.body.take 6)) k X [pS (.bytes b),pS a2,pS (.int p),pS a4,pS a5,pS a6,none,none,none,none,none]=(okE (cN d 1035 [(.bytes b),(.int p)] []) (fun v0=>obO (itemA v0 (.int 0)) fun v1=>obO (binA .Add (.int p) v1) fun v2=>obO (binA .Sub v2 (.int 1)) fun v3=>obO (itemA (.bytes b) v3) fun v4=>obO (cmpA .NotEq v4 (.int 0)) fun v5=>cnd v5 (none) (obO (augA .Sub v3 (.int 1)) fun v6=>(k .next [(pS (.bytes b)),(pS a2),(pS (.int (p+4))),(pS a4),(pS a5),(pS a6),(pS v1),(pS v6),(some (.own (.list []))),none,none]))) (fun u0=>(X u0 [(pS (.bytes b)),(pS a2),(pS (.int p)),(pS a4),(pS a5),(pS a6),none,none,none,none,none]))):=by kernel_rfl
theorem t1133 (R:Type)(d:Nat)(a1 a2 a4 a5 a6 a7:AV)(p e:Int)(s0 s1 s2:Option Slot)(k:Bool→AEnv→Option R)(X:KX R):(tst 52 (cxF f1133 d) (whT (nthS f1133.body 6))) k X [pS a1,pS a2,pS (.int p),pS a4,pS a5,pS a6,pS a7,pS (.int e),s0,s1,s2]=((k (decide (p<e)) [(pS a1),(pS a2),(pS (.int p)),(pS a4),(pS a5),(pS a6),(pS a7),(pS (.int e)),s0,s1,s2])):=by kernel_rfl
set_option tactic.hygienic true in
theorem u1133 (R:Type)(d:Nat)(b:List UInt8)(a2 a4 a5 a6 a7:AV)(xs:List AV)(p:Int)(e:AV)(s1 s2:Option Slot)(k:KF R)(X:KX R):(exs 52 (cxF f1133 d) (whB (nthS f1133.body 6))) k X [pS (.bytes b),pS a2,pS (.int p),pS a4,pS a5,pS a6,pS a7,pS e,some (.own (.list xs)),s1,s2]=(obO (itemA (.bytes b) (.int p)) fun v0=>okE (cN d 1077 [(.bytes b),(.int p)] []) (fun v1=>obO (binA .Add v1 (.int 1)) fun v2=>okE (cN d 1217 [v0,(.bytes b),a2,v2,a4,a5,a6] []) (fun v3=>onTL v3 fun t0=>cnd (decide (2=(List.length t0))) (consL t0 (none) (fun u0 w0=>consL w0 (none) (fun u1 w1=>consL w1 (cnd (fitL ((List.length xs)+1)) ((k .next [(pS (.bytes b)),(pS a2),(pS u1),(pS a4),(pS a5),(pS a6),(pS a7),(pS e),(some (.own (.list (xs++[u0])))),(pS v0),(pS u0)])) (none)) (fun u2 w2=>none)))) (none)) (fun u0=>none)) (fun u0=>(X u0 [(pS (.bytes b)),(pS a2),(pS (.int p)),(pS a4),(pS a5),(pS a6),(pS a7),(pS e),(some (.own (.list xs))),(pS v0),s2]))):=by kernel_rfl
theorem v1133 (d:Nat)(a1 a2 a4 a5 a6 a7:AV)(xs:List AV)(p e:Int)(s1 s2:Option Slot):(exs 53 (cxF f1133 d) (f1133.body.drop 7)) endK exN [pS a1,pS a2,pS (.int p),pS a4,pS a5,pS a6,pS a7,pS (.int e),some (.own (.list xs)),s1,s2]=(cnd (Bool.not (decide (p=(e+1)))) (none) (some (.ok (.tup [(.list xs),(.int (p+1))])))):=by kernel_rfl
structure Fld where
 tag:UInt8
 nm:List UInt8
 x:Str
 pay:List UInt8
 v:AV
noncomputable def Fld.oc (f:Fld):List UInt8:=(f.tag::(f.nm++[0]))++f.pay
noncomputable def bodyF:List Fld→List UInt8
 | []=>[]
 | f::r=>f.oc++bodyF r
noncomputable def Fld.el (f:Fld):El:=⟨f.oc.length,f.x,f.v⟩
noncomputable def held (l:List UInt8):List UInt8:=le4 ((l.length+5:Nat):Int)++(l++[0])
theorem held_len (l:List UInt8):(held l).length=l.length+5:=by
 unfold held
 rw[List.length_append,lL,List.length_append]
 show 4+(l.length+1)=_
 lia
theorem oc_len (f:Fld):f.oc.length=f.nm.length+f.pay.length+2:=by
 unfold Fld.oc
 rw[List.length_append,List.length_cons,List.length_append]
 show f.nm.length+1+1+f.pay.length=_
 lia
def FdOK (d:Nat)(f:Fld):Prop:=(0:UInt8)∉f.nm∧decT f.nm=some f.x∧Rd d f.tag f.pay f.v
theorem chain_of {d:Nat}{b:List UInt8}{oe:Nat}(hb:b.length≤16777216):∀(fs:List Fld) (p:Nat),(∀f∈fs,FdOK (d+2) f)→0<p→Has b p (bodyF fs)→oe=p+(bodyF fs).length→Chain (d+3) b oe p (fs.map Fld.el)
 | [],p,_,_,_,he=>by rw[he]; rfl
 | f::r,p,h,h0,hh,he=>by
  obtain ⟨h1,h2,h3⟩:=h f (.head _)
  have hl:(Fld.el f).len=f.nm.length+f.pay.length+2:=oc_len f
  have he':oe=p+(f.oc.length+(bodyF r).length):=by rw[he]; show _=_; rw[show bodyF (f::r)=f.oc++bodyF r from rfl,List.length_append]
  have hf:Has b p f.oc:=Has.left (y:=bodyF r) hh
  have hr:Has b (p+f.oc.length) (bodyF r):=Has.right (x:=f.oc) hh
  have hp:Has b (p+(f.nm.length+2)) f.pay:=by
   have:=Has.right (x:=f.tag::(f.nm++[0])) hf
   rwa [List.length_cons,List.length_append] at this
  have g:=h3 b (p+1+f.nm.length+1) oe (.str f.x) hb (by rwa [show p+1+f.nm.length+1=p+(f.nm.length+2) by lia]) (by rw[he',oc_len]; lia) (by lia)
  refine ⟨by rw[hl]; lia,?_,?_⟩
  ·rw[s1224 hb (Has.left (y:=f.pay) hf) h1 h2 g]
   show some (Except.ok (AV.tup [_,_,AV.int (p+1+f.nm.length+1+f.pay.length:Nat)]))=some (Except.ok (AV.tup [_,_,AV.int (p+(Fld.el f).len:Nat)]))
   rw[hl,show p+1+f.nm.length+1+f.pay.length=p+(f.nm.length+f.pay.length+2) by lia]
   rfl
  ·show Chain (d+3) b oe (p+f.oc.length) (r.map Fld.el)
   exact chain_of hb r _ (fun f hf=>h f (.tail _ hf)) (by lia) hr (by rw[he']; lia)
noncomputable def dictF (fs:List Fld):AV:=.dict (putAll [] (fs.map Fld.el))
theorem rd_dictF {d:Nat} {fs:List Fld} (h:∀f∈fs,FdOK (d+2) f) (hn:fs.length<100) (hI:(bodyF fs).length≤16000000) (hr:dGet (S "$ref") (putAll [] (fs.map Fld.el))=none):Rd (d+6) 3 (held (bodyF fs)) (dictF fs) :=
 rd_dict (d:=d+1) (body:=bodyF fs) (els:=fs.map Fld.el) hI (fun b p hb h0 hh=>chain_of hb fs p h h0 hh rfl) (by rwa [List.length_map]) hr
def ItOK (d:Nat)(f:Fld):Prop:=(0:UInt8)∉f.nm∧f.tag≠0∧Rd d f.tag f.pay f.v
noncomputable def IChain (d:Nat) (b:List UInt8) (oe:Nat) (a6:AV) (e:Nat):Nat→List Fld→Prop
 | q,[]=>q=e
 | q,f::r=>(∃nl:Nat,itemA (.bytes b) (.int q)=some (.int (f.tag.toNat:Nat))∧cN d 1077 [.bytes b,.int q] []=some (.ok (.int (q+nl:Nat))) ∧
  cN d 1217 [.int (f.tag.toNat:Nat),.bytes b,.bytes b,.int (q+nl+1:Nat),.int oe,.obj 262,a6] []=some (.ok (.tup [f.v,.int (q+f.oc.length:Nat)])))∧IChain d b oe a6 e (q+f.oc.length) r
theorem IChain.le {d:Nat}{b:List UInt8}{oe e:Nat}{a6:AV}:∀{fs:List Fld} {q:Nat},IChain d b oe a6 e q fs→q≤e
 | [],q,h=>Nat.le_of_eq h
 | l::r,q,h=>by have:=h.2.le; lia
theorem ichain_of {d:Nat}{b:List UInt8}{oe e:Nat}{a6:AV}(hb:b.length≤16777216):∀(fs:List Fld) (p:Nat),(∀f∈fs,ItOK (d+1) f)→0<p→Has b p (bodyF fs)→e=p+(bodyF fs).length→e≤oe→IChain (d+1) b oe a6 e p fs
 | [],p,_,_,_,he,_=>by rw[he]; rfl
 | f::r,p,h,h0,hh,he,ho=>by
  obtain ⟨h1,h2,h3⟩:=h f (.head _)
  have he':e=p+(f.oc.length+(bodyF r).length):=by rw[he]; show _=_; rw[show bodyF (f::r)=f.oc++bodyF r from rfl,List.length_append]
  have hf:Has b p f.oc:=Has.left (y:=bodyF r) hh
  have hr:Has b (p+f.oc.length) (bodyF r):=Has.right (x:=f.oc) hh
  have hp:Has b (p+(f.nm.length+2)) f.pay:=by
   have:=Has.right (x:=f.tag::(f.nm++[0])) hf
   rwa [List.length_cons,List.length_append] at this
  have hz:(0:UInt8)∉f.tag::f.nm:=fun q=>by
   rcases List.mem_cons.mp q with q|q
   ·exact h2 q.symm
   ·exact h1 q
  have hi:Has b p ((f.tag::f.nm)++[0]):=Has.left (y:=f.pay) hf
  have g:=h3 b (p+(f.nm.length+1)+1) oe a6 hb (by rwa [show p+(f.nm.length+1)+1=p+(f.nm.length+2) by lia]) (by rw[oc_len] at he'; lia) (by lia)
  refine ⟨⟨f.nm.length+1,Has.item (l:=f.nm++[0]) (show Has b p (f.tag::(f.nm++[0])) from hi),s1077 (nm:=f.tag::f.nm) hb hi hz,?_⟩,?_⟩
  ·rw[g,oc_len,show p+(f.nm.length+1)+1+f.pay.length=p+(f.nm.length+f.pay.length+2) by lia]
  ·exact ichain_of hb r _ (fun f hf=>h f (.tail _ hf)) (by lia) hr (by rw[he']; lia) ho
theorem l1133 {R:Type}{d:Nat}{b:List UInt8}{oe e:Nat}{a6 a7:AV}{k:KF R}{X:KX R}:∀(fs:List Fld) (n q:Nat) (xs:List AV) (s1 s2:Option Slot),IChain d b oe a6 e q fs→fs.length<n→xs.length+fs.length≤16777216 →
  ∃s1' s2',whileL (tst 52 (cxF f1133 d) (whT (nthS f1133.body 6))) (exs 52 (cxF f1133 d) (whB (nthS f1133.body 6))) n k X
   [pS (.bytes b),pS (.bytes b),pS (.int q),pS (.int oe),pS (.obj 262),pS a6,pS a7,pS (.int ((e:Int)-1)),some (.own (.list xs)),s1,s2] =
   k .next [pS (.bytes b),pS (.bytes b),pS (.int e),pS (.int oe),pS (.obj 262),pS a6,pS a7,pS (.int ((e:Int)-1)),some (.own (.list (xs++fs.map Fld.v))),s1',s2']
 | _,0,_,_,_,_=>fun J hn J=>absurd hn (Nat.not_lt_zero _)
 | [],n+1,q,xs,s1,s2=>fun h hn hs=>by
  cases (show q=e from h)
  refine ⟨s1,s2,?_⟩
  rw[whileL_succ,t1133,decide_eq_false (by lia),ifM_f,ret_eq,List.map_nil,List.append_nil]
 | f::r,n+1,q,xs,s1,s2=>fun h hn hs=>by
  obtain ⟨⟨nl,g1,g2,g3⟩,hr⟩:=h
  have hle:=hr.le
  rw[List.length_cons] at hn hs
  obtain ⟨s1',s2',e'⟩:=l1133 r n (q+f.oc.length) (xs++[f.v]) (pS (.int (f.tag.toNat:Nat))) (pS f.v) hr (by lia) (by rw[List.length_append,List.length_singleton]; lia)
  refine ⟨s1',s2',?_⟩
  have hpos:=oc_len f
  rw[whileL_succ,t1133,decide_eq_true (by lia),ifM_t,bnd_eq,u1133,oS g1,eO g2,oS add_i,eO (show cN d 1217 [.int (f.tag.toNat:Nat),.bytes b,.bytes b,.int (((q+nl:Nat):Int)+1),.int oe,.obj 262,a6] []=some (.ok (.tup [f.v,.int (q+f.oc.length:Nat)])) from g3),
   onTL_t,decide_eq_true (by rfl),cnd_t,consL_c,consL_c,consL_n]
  rw[show fitL (xs.length+1)=true from decide_eq_true (by lia),cnd_t,List.map_cons]
  rw[show xs++f.v::r.map Fld.v=(xs++[f.v])++r.map Fld.v by simp]
  exact e'
theorem b1133 (d:Nat)(b:List UInt8)(p oe:Int)(a6:AV):cN (d+1) 1133 [.bytes b,.bytes b,.int p,.int oe,.obj 262,a6] []=exs 60 (cxF f1133 d) (f1133.body.take 6++(nthS f1133.body 6::f1133.body.drop 7)) endK exN
 [pS (.bytes b),pS (.bytes b),pS (.int p),pS (.int oe),pS (.obj 262),pS a6,none,none,none,none,none]:=by kernel_rfl
theorem x1133 {R:Type}(d:Nat)(k:KF R)(X:KX R)(e:AEnv):exS 53 (cxF f1133 d) (nthS f1133.body 6) k X e=whileL (tst 52 (cxF f1133 d) (whT (nthS f1133.body 6))) (exs 52 (cxF f1133 d) (whB (nthS f1133.body 6))) 100 k X e:=by kernel_rfl
theorem s1133 {d:Nat}{b:List UInt8}{p oe:Nat}{a6:AV}{fs:List Fld}(hb:b.length≤16777216)(hh:Has b p (held (bodyF fs)))(h:∀f∈fs,ItOK (d+2) f)(h0:0<p)(he:p+(held (bodyF fs)).length≤oe)(hn:fs.length<100)(hI:(bodyF fs).length≤16000000) :
  cN (d+3) 1133 [.bytes b,.bytes b,.int p,.int oe,.obj 262,a6] []=some (.ok (.tup [.list (fs.map Fld.v),.int (p+(held (bodyF fs)).length:Nat)])):=by
 rw[held_len] at he ⊢
 have h1:Has b (p+4) (bodyF fs++[0]):=by have:=hh.right; rwa [lL] at this
 have h2:Has b (p+((bodyF fs).length+5)-1) [0]:=by have:=h1.right; rwa [show p+4+(bodyF fs).length=p+((bodyF fs).length+5)-1 by lia] at this
 have c:=ichain_of (d:=d+1) (a6:=a6) (oe:=oe) hb fs (p+4) h (by lia) h1.left rfl (by lia)
 have e1:(p:Int)+(((bodyF fs).length+5:Nat):Int)-1=((p+((bodyF fs).length+5)-1:Nat):Int):=by lia
 have e2:((p+((bodyF fs).length+5)-1:Nat):Int)-1=((p+4+(bodyF fs).length:Nat):Int)-1:=by lia
 rw[b1133,exs_app (m:=53) _ _ _ (by rfl),p1133,eO (s1035 ⟨by lia,by lia⟩ hh.left),oS tup0,oS add_i,oS sub_i,e1,oS h2.item,oS ne_i,
  show (!decide (((0:UInt8).toNat:Int)=0))=false from rfl,cnd_f,oS (show augA .Sub (.int ((p+((bodyF fs).length+5)-1:Nat):Int)) (.int 1)=some (.int (((p+((bodyF fs).length+5)-1:Nat):Int)-1)) from rfl),e2]
 rw[sN,xS,x1133]
 obtain ⟨s1',s2',e'⟩:=l1133 (R:=Except AX AV) (k:=seqK 53 (cxF f1133 (d+2)) (f1133.body.drop 7) endK exN) (X:=exN) (a7:=.int (((bodyF fs).length+5:Nat):Int)) fs 100 (p+4) [] none none c hn (by rw[List.length_nil]; lia)
 rw[show ((p:Int)+4)=((p+4:Nat):Int) from rfl,e',sN,v1133,decide_eq_true (by lia)]
 show some (Except.ok (AV.tup [_,AV.int (((p+4+(bodyF fs).length:Nat):Int)+1)]))=_
 rw[show ((p+4+(bodyF fs).length:Nat):Int)+1=((p+((bodyF fs).length+5):Nat):Int) by lia]
 rfl
theorem rd_listF {d:Nat}{fs:List Fld}(h:∀f∈fs,ItOK (d+2) f)(hn:fs.length<100)(hI:(bodyF fs).length≤16000000):Rd (d+4) 4 (held (bodyF fs)) (.list (fs.map Fld.v)):=fun b p e nm hb hh he h0=>by
 show cN (d+3+1) 1217 [.int 4,_,_,_,_,_,_] []=_
 rw[m1217_4,eO (s1133 hb hh h h0 he hn hI)]
noncomputable def tryB:Stmt→List Stmt
 | .Try b _ _ _ _=>b
 | _=>[]
noncomputable def cxG (d:Nat):Ctx:=ctxF T0 g1478.f (cN d) fun J J=>none
theorem okE_s {β:Type}{v:AV}{f:AV→Option β}{g:AX→Option β}:okE (some (.ok v)) f g=f v:=rfl
theorem obO_s {α β:Type}{v:α}{f:α→Option β}:obO (some v) f=f v:=rfl
set_option tactic.hygienic true in
theorem p1462 (R:Type)(d:Nat)(b:List UInt8)(o:AV)(k:KF R)(X:KX R):(exs 60 (cxF f1462 d) (f1462.body.take 4)) k X [pS (.bytes b),pS o,none,none,none,none,none,none,none]=(okE (cN d 1084 [(.bytes b)] []) (fun v0=>onTL v0 fun t0=>cnd (decide (2=(List.length t0))) (consL t0 (none) (fun u0 w0=>consL w0 (none) (fun u1 w1=>consL w1 (obO (callB cx .len [u0]) fun v1=>(k .next [(pS u0),(pS o),(pS u1),(pS v1),(some (.own (.list []))),(pS (.int 0)),none,none,none])) (fun u2 w2=>none)))) (none)) (fun u0=>(X u0 [(pS (.bytes b)),(pS o),none,none,none,none,none,none,none]))):=by kernel_rfl
theorem t1462 (R:Type)(d:Nat)(a1 a2 a3:AV)(n p:Int)(s0 s1 s2 s3:Option Slot)(k:Bool→AEnv→Option R)(X:KX R):(tst 52 (cxF f1462 d) (whT (nthS (tryB (nthS f1462.body 4)) 0))) k X [pS a1,pS a2,pS a3,pS (.int n),s0,pS (.int p),s1,s2,s3]=((k (decide (p<n)) [(pS a1),(pS a2),(pS a3),(pS (.int n)),s0,(pS (.int p)),s1,s2,s3])):=by kernel_rfl
set_option tactic.hygienic true in
theorem u1462 (R:Type)(d:Nat)(b:List UInt8)(a2 a3:AV)(n p:Int)(xs:List AV)(s1 s2 s3:Option Slot)(k:KF R)(X:KX R):(exs 52 (cxF f1462 d) (whB (nthS (tryB (nthS f1462.body 4)) 0))) k X [pS (.bytes b),pS a2,pS a3,pS (.int n),some (.own (.list xs)),pS (.int p),s1,s2,s3]=(cnd (decide ((n-p)<5)) (none) (okE (cN d 1035 [(.bytes b),(.int p)] []) (fun v0=>obO (itemA v0 (.int 0)) fun v1=>obO (cmpA .Lt v1 (.int 5)) fun v2=>cnd v2 (none) (obO (cmpA .Lt (.int (n-p)) v1) fun v3=>cnd v3 (none) (obO (binA .Add (.int p) v1) fun v4=>obO (binA .Sub v4 (.int 1)) fun v5=>obO (itemA (.bytes b) v5) fun v6=>obO (cmpA .NotEq v6 (.int 0)) fun v7=>cnd v7 (none) (okE (cN d 1231 [(.bytes b),a3,(.int (p+4)),v5,a2] []) (fun v8=>cnd (fitL ((List.length xs)+1)) (obO (augA .Add (.int p) v1) fun v9=>(k .next [(pS (.bytes b)),(pS a2),(pS a3),(pS (.int n)),(some (.own (.list (xs++[v8])))),(pS v9),(pS v1),(pS v5),s3])) (none)) (fun u0=>(X u0 [(pS (.bytes b)),(pS a2),(pS a3),(pS (.int n)),(some (.own (.list xs))),(pS (.int p)),(pS v1),(pS v5),s3])))))) (fun u0=>(X u0 [(pS (.bytes b)),(pS a2),(pS a3),(pS (.int n)),(some (.own (.list xs))),(pS (.int p)),s1,s2,s3])))):=by kernel_rfl
theorem v1462 (R:Type)(d:Nat)(a1 a2 a3 a4 a6:AV)(xs:List AV)(s1 s2 s3:Option Slot)(k:KF R)(X:KX R):(exs 53 (cxF f1462 d) ((tryB (nthS f1462.body 4)).drop 1)) k X [pS a1,pS a2,pS a3,pS a4,some (.own (.list xs)),pS a6,s1,s2,s3]=((k (.ret (.list xs)) [(pS a1),(pS a2),(pS a3),(pS a4),(pS (.list xs)),(pS a6),s1,s2,s3])):=by kernel_rfl
theorem p1490 (R:Type)(d:Nat)(b:AV)(k:KF R)(X:KX R):(exs 60 (cxF f1490 d) (f1490.body.take 1)) k X [pS b,none]=((k .next [(pS b),(some (.own (.list [(.int 0)])))])):=by kernel_rfl
theorem t1490 (R:Type)(d:Nat)(b:List UInt8)(xs:List AV)(k:Bool→AEnv→Option R)(X:KX R):(tst 57 (cxF f1490 d) (whT (nthS f1490.body 1))) k X [pS (.bytes b),some (.own (.list xs))]=(obO (itemA (.list xs) (.int (-1))) fun v0=>obO (cmpA .Lt v0 (.int (((List.length b):Nat):Int))) fun v1=>(k v1 [(pS (.bytes b)),(some (.own (.list xs)))])):=by kernel_rfl
set_option tactic.hygienic true in
theorem u1490 (R:Type)(d:Nat)(b:List UInt8)(xs:List AV)(k:KF R)(X:KX R):(exs 57 (cxF f1490 d) (whB (nthS f1490.body 1))) k X [pS (.bytes b),some (.own (.list xs))]=(obO (itemA (.list xs) (.int (-1))) fun v0=>obO (itemA (.list xs) (.int (-1))) fun v1=>okE (cN d 1483 [(.bytes b),v1] []) (fun v2=>obO (binA .Add v0 v2) fun v3=>cnd (fitL ((List.length xs)+1)) ((k .next [(pS (.bytes b)),(some (.own (.list (xs++[v3]))))])) (none)) (fun u0=>(X u0 [(pS (.bytes b)),(some (.own (.list xs)))]))):=by kernel_rfl
theorem v1490 (d:Nat)(b:AV)(xs:List AV):(exs 58 (cxF f1490 d) (f1490.body.drop 2)) endK exN [pS b,some (.own (.list xs))]=(some (.ok (.list xs))):=by kernel_rfl
theorem p1478 (R:Type)(d:Nat)(b:List UInt8)(k:KF R)(X:KX R):(exs 60 (cxG d) g1478.pre) k X [pS (.bytes b),pS .none,none,none,none,none,none]=((k .next [(pS (.bytes b)),(pS .none),(pS (.obj 262)),(pS (.int 0)),(pS (.int ((((List.length b):Nat):Int)-1))),none,none])):=by kernel_rfl
theorem t1478 (R:Type)(d:Nat)(a1 a2 a3:AV)(p e:Int)(s1 s2:Option Slot)(k:Bool→AEnv→Option R)(X:KX R):(tst 60 (cxG d) g1478.test) k X [pS a1,pS a2,pS a3,pS (.int p),pS (.int e),s1,s2]=((k (decide (p<e)) [(pS a1),(pS a2),(pS a3),(pS (.int p)),(pS (.int e)),s1,s2])):=by kernel_rfl
set_option tactic.hygienic true in
theorem u1478 (R:Type)(d:Nat)(b:List UInt8)(a2 a3:AV)(p e:Int)(s1 s2:Option Slot)(k:KF R)(X:KX R):(exs 60 (cxG d) g1478.bd) k X [pS (.bytes b),pS a2,pS a3,pS (.int p),pS (.int e),s1,s2]=(okE (cN d 1035 [(.bytes b),(.int p)] []) (fun v0=>obO (itemA v0 (.int 0)) fun v1=>obO (binA .Add (.int p) v1) fun v2=>obO (partA v2) fun v3=>obO (augA .Add (.int p) v1) fun v4=>(k .next [(pS (.bytes b)),(pS a2),(pS a3),(pS v4),(pS (.int e)),(pS v1),(pS (.bytes (cutL b (some p) v3)))])) (fun u0=>(X u0 [(pS (.bytes b)),(pS a2),(pS a3),(pS (.int p)),(pS (.int e)),s1,s2]))):=by kernel_rfl
theorem e1478 (R:Type)(d:Nat)(a1 a2 a3 a4 a5 a6 a7:AV)(k:AV→AEnv→Option R)(X:KX R):(ev 60 (cxG d) g1478.ye) k X [pS a1,pS a2,pS a3,pS a4,pS a5,pS a6,pS a7]=(okE (cN d 1238 [a7,a3] []) (fun v0=>(k v0 [(pS a1),(pS a2),(pS a3),(pS a4),(pS a5),(pS a6),(pS a7)])) (fun u0=>(X u0 [(pS a1),(pS a2),(pS a3),(pS a4),(pS a5),(pS a6),(pS a7)]))):=by kernel_rfl
theorem m1514_i (d:Nat)(a b:Int):cN (d+1) 1514 [.int a,.int b] []=(some (.ok (.bool (decide (a=b))))):=by kernel_rfl
theorem m1514_s (d:Nat)(a b:Str):cN (d+1) 1514 [.str a,.str b] []=(some (.ok (.bool (sEqB a b)))):=by kernel_rfl
theorem m1514_y (d:Nat)(a b:List UInt8):cN (d+1) 1514 [.bytes a,.bytes b] []=(some (.ok (.bool (decide (a=b))))):=by kernel_rfl
theorem m1514_d2 (d:Nat) (a b:AV):cN (d+1) 1514 [.dict [(S "n",a),(S "t",b)],.dict [(S "n",a),(S "t",b)]] []=(okE (cN d 1514 [a,a] []) (fun v0=>obO (truthA v0) fun v1=>cnd (Bool.not v1) (okE (cN d 1514 [b,b] []) (fun v2=>obO (truthA v2) fun v3=>cnd (Bool.not v3) (some (.ok (.bool false))) (some (.ok (.bool false)))) (fun u0=>some (.error u0))) (okE (cN d 1514 [b,b] []) (fun v2=>obO (truthA v2) fun v3=>cnd (Bool.not v3) (some (.ok (.bool false))) (some (.ok (.bool true)))) (fun u0=>some (.error u0)))) (fun u0=>some (.error u0))):=by kernel_rfl
theorem m1514_l0 (d:Nat):cN (d+1) 1514 [.list [],.list []] []=(some (.ok (.bool true))):=by kernel_rfl
theorem m1514_l1 (d:Nat)(a:AV):cN (d+1) 1514 [.list [a],.list [a]] []=(okE (cN d 1514 [a,a] []) (fun v0=>obO (truthA v0) fun v1=>cnd (Bool.not v1) (some (.ok (.bool false))) (some (.ok (.bool true)))) (fun u0=>some (.error u0))):=by kernel_rfl
theorem m1514_l2 (d:Nat)(a b:AV):cN (d+1) 1514 [.list [a,b],.list [a,b]] []=(okE (cN d 1514 [a,a] []) (fun v0=>obO (truthA v0) fun v1=>cnd (Bool.not v1) (okE (cN d 1514 [b,b] []) (fun v2=>obO (truthA v2) fun v3=>cnd (Bool.not v3) (some (.ok (.bool false))) (some (.ok (.bool false)))) (fun u0=>some (.error u0))) (okE (cN d 1514 [b,b] []) (fun v2=>obO (truthA v2) fun v3=>cnd (Bool.not v3) (some (.ok (.bool false))) (some (.ok (.bool true)))) (fun u0=>some (.error u0)))) (fun u0=>some (.error u0))):=by kernel_rfl
theorem m1514_l3 (d:Nat)(a b c:AV):cN (d+1) 1514 [.list [a,b,c],.list [a,b,c]] []=(okE (cN d 1514 [a,a] []) (fun v0=>obO (truthA v0) fun v1=>cnd (Bool.not v1) (okE (cN d 1514 [b,b] []) (fun v2=>obO (truthA v2) fun v3=>cnd (Bool.not v3) (okE (cN d 1514 [c,c] []) (fun v4=>obO (truthA v4) fun v5=>cnd (Bool.not v5) (some (.ok (.bool false))) (some (.ok (.bool false)))) (fun u0=>some (.error u0))) (okE (cN d 1514 [c,c] []) (fun v4=>obO (truthA v4) fun v5=>cnd (Bool.not v5) (some (.ok (.bool false))) (some (.ok (.bool false)))) (fun u0=>some (.error u0)))) (fun u0=>some (.error u0))) (okE (cN d 1514 [b,b] []) (fun v2=>obO (truthA v2) fun v3=>cnd (Bool.not v3) (okE (cN d 1514 [c,c] []) (fun v4=>obO (truthA v4) fun v5=>cnd (Bool.not v5) (some (.ok (.bool false))) (some (.ok (.bool false)))) (fun u0=>some (.error u0))) (okE (cN d 1514 [c,c] []) (fun v4=>obO (truthA v4) fun v5=>cnd (Bool.not v5) (some (.ok (.bool false))) (some (.ok (.bool true)))) (fun u0=>some (.error u0)))) (fun u0=>some (.error u0)))) (fun u0=>some (.error u0))):=by kernel_rfl
theorem m1514_l4 (d:Nat)(a b c e:AV):cN (d+1) 1514 [.list [a,b,c,e],.list [a,b,c,e]] []=(okE (cN d 1514 [a,a] []) (fun v0=>obO (truthA v0) fun v1=>cnd (Bool.not v1) (okE (cN d 1514 [b,b] []) (fun v2=>obO (truthA v2) fun v3=>cnd (Bool.not v3) (okE (cN d 1514 [c,c] []) (fun v4=>obO (truthA v4) fun v5=>cnd (Bool.not v5) (okE (cN d 1514 [e,e] []) (fun v6=>obO (truthA v6) fun v7=>cnd (Bool.not v7) (some (.ok (.bool false))) (some (.ok (.bool false)))) (fun u0=>some (.error u0))) (okE (cN d 1514 [e,e] []) (fun v6=>obO (truthA v6) fun v7=>cnd (Bool.not v7) (some (.ok (.bool false))) (some (.ok (.bool false)))) (fun u0=>some (.error u0)))) (fun u0=>some (.error u0))) (okE (cN d 1514 [c,c] []) (fun v4=>obO (truthA v4) fun v5=>cnd (Bool.not v5) (okE (cN d 1514 [e,e] []) (fun v6=>obO (truthA v6) fun v7=>cnd (Bool.not v7) (some (.ok (.bool false))) (some (.ok (.bool false)))) (fun u0=>some (.error u0))) (okE (cN d 1514 [e,e] []) (fun v6=>obO (truthA v6) fun v7=>cnd (Bool.not v7) (some (.ok (.bool false))) (some (.ok (.bool false)))) (fun u0=>some (.error u0)))) (fun u0=>some (.error u0)))) (fun u0=>some (.error u0))) (okE (cN d 1514 [b,b] []) (fun v2=>obO (truthA v2) fun v3=>cnd (Bool.not v3) (okE (cN d 1514 [c,c] []) (fun v4=>obO (truthA v4) fun v5=>cnd (Bool.not v5) (okE (cN d 1514 [e,e] []) (fun v6=>obO (truthA v6) fun v7=>cnd (Bool.not v7) (some (.ok (.bool false))) (some (.ok (.bool false)))) (fun u0=>some (.error u0))) (okE (cN d 1514 [e,e] []) (fun v6=>obO (truthA v6) fun v7=>cnd (Bool.not v7) (some (.ok (.bool false))) (some (.ok (.bool false)))) (fun u0=>some (.error u0)))) (fun u0=>some (.error u0))) (okE (cN d 1514 [c,c] []) (fun v4=>obO (truthA v4) fun v5=>cnd (Bool.not v5) (okE (cN d 1514 [e,e] []) (fun v6=>obO (truthA v6) fun v7=>cnd (Bool.not v7) (some (.ok (.bool false))) (some (.ok (.bool false)))) (fun u0=>some (.error u0))) (okE (cN d 1514 [e,e] []) (fun v6=>obO (truthA v6) fun v7=>cnd (Bool.not v7) (some (.ok (.bool false))) (some (.ok (.bool true)))) (fun u0=>some (.error u0)))) (fun u0=>some (.error u0)))) (fun u0=>some (.error u0)))) (fun u0=>some (.error u0))):=by kernel_rfl
theorem m1514_n (d:Nat):cN (d+1) 1514 [.none,.none] []=(some (.ok (.bool true))):=by kernel_rfl
theorem m1514_b (d:Nat)(b:Bool):cN (d+1) 1514 [.bool b,.bool b] []=(some (.ok (.bool (BEq.beq b b)))):=by kernel_rfl
theorem m1514_d0 (d:Nat):cN (d+1) 1514 [.dict [],.dict []] []=(some (.ok (.bool true))):=by kernel_rfl
theorem m1514_dd (d:Nat) (a:AV):cN (d+1) 1514 [.dict [(S "d",a)],.dict [(S "d",a)]] []=(okE (cN d 1514 [a,a] []) (fun v0=>obO (truthA v0) fun v1=>cnd (Bool.not v1) (some (.ok (.bool false))) (some (.ok (.bool true)))) (fun u0=>some (.error u0))):=by kernel_rfl
theorem m1514_de (d:Nat) (a b:AV):cN (d+1) 1514 [.dict [(S "e",a),(S "l",b)],.dict [(S "e",a),(S "l",b)]] []=(okE (cN d 1514 [a,a] []) (fun v0=>obO (truthA v0) fun v1=>cnd (Bool.not v1) (okE (cN d 1514 [b,b] []) (fun v2=>obO (truthA v2) fun v3=>cnd (Bool.not v3) (some (.ok (.bool false))) (some (.ok (.bool false)))) (fun u0=>some (.error u0))) (okE (cN d 1514 [b,b] []) (fun v2=>obO (truthA v2) fun v3=>cnd (Bool.not v3) (some (.ok (.bool false))) (some (.ok (.bool true)))) (fun u0=>some (.error u0)))) (fun u0=>some (.error u0))):=by kernel_rfl
theorem m1514_d3 (d:Nat) (a b:AV):cN (d+1) 1514 [.dict [(S "_id",a),(S "o",b)],.dict [(S "_id",a),(S "o",b)]] []=(okE (cN d 1514 [a,a] []) (fun v0=>obO (truthA v0) fun v1=>cnd (Bool.not v1) (okE (cN d 1514 [b,b] []) (fun v2=>obO (truthA v2) fun v3=>cnd (Bool.not v3) (some (.ok (.bool false))) (some (.ok (.bool false)))) (fun u0=>some (.error u0))) (okE (cN d 1514 [b,b] []) (fun v2=>obO (truthA v2) fun v3=>cnd (Bool.not v3) (some (.ok (.bool false))) (some (.ok (.bool true)))) (fun u0=>some (.error u0)))) (fun u0=>some (.error u0))):=by kernel_rfl
theorem m1514_dz (d:Nat) (a:AV):cN (d+1) 1514 [.dict [(S "",a)],.dict [(S "",a)]] []=(okE (cN d 1514 [a,a] []) (fun v0=>obO (truthA v0) fun v1=>cnd (Bool.not v1) (some (.ok (.bool false))) (some (.ok (.bool true)))) (fun u0=>some (.error u0))):=by kernel_rfl
theorem m1439_0 (d:Nat):cN (d+1) 1439 [.dict [],.bool false,.obj 262] []=(okE (cN d 1245 [(.int 5)] []) (fun v0=>obO (binA .Add v0 (.bytes [])) fun v1=>obO (binA .Add v1 (.bytes [0])) fun v2=>some (.ok v2)) (fun u0=>some (.error u0))):=by kernel_rfl
theorem m1439_1 (d:Nat) (a b:AV):cN (d+1) 1439 [.dict [(S "n",a),(S "t",b)],.bool false,.obj 262] []=(okE (cN d 1431 [(.str (S "n")),a,(.bool false),(.obj 262)] []) (fun v0=>okE (cN d 1431 [(.str (S "t")),b,(.bool false),(.obj 262)] []) (fun v1=>obO (runMt cx .join (.bytes []) [(.list [v0,v1])] []) fun v2=>obO (callB cx .len [v2]) fun v3=>obO (binA .Add v3 (.int 5)) fun v4=>okE (cN d 1245 [v4] []) (fun v5=>obO (binA .Add v5 v2) fun v6=>obO (binA .Add v6 (.bytes [0])) fun v7=>some (.ok v7)) (fun u0=>some (.error u0))) (fun u0=>none)) (fun u0=>none)):=by kernel_rfl
theorem m1439_2 (d:Nat) (a:AV):cN (d+1) 1439 [.dict [(S "d",a)],.bool false,.obj 262] []=(okE (cN d 1431 [(.str (S "d")),a,(.bool false),(.obj 262)] []) (fun v0=>obO (runMt cx .join (.bytes []) [(.list [v0])] []) fun v1=>obO (callB cx .len [v1]) fun v2=>obO (binA .Add v2 (.int 5)) fun v3=>okE (cN d 1245 [v3] []) (fun v4=>obO (binA .Add v4 v1) fun v5=>obO (binA .Add v5 (.bytes [0])) fun v6=>some (.ok v6)) (fun u0=>some (.error u0))) (fun u0=>none)):=by kernel_rfl
theorem m1439_3 (d:Nat) (a b:AV):cN (d+1) 1439 [.dict [(S "o",a),(S "_id",b)],.bool false,.obj 262] []=(okE (cN d 1424 [(.bytes [95,105,100,0]),b,(.bool false),(.obj 262)] []) (fun v0=>okE (cN d 1431 [(.str (S "o")),a,(.bool false),(.obj 262)] []) (fun v1=>obO (runMt cx .join (.bytes []) [(.list [v0,v1])] []) fun v2=>obO (callB cx .len [v2]) fun v3=>obO (binA .Add v3 (.int 5)) fun v4=>okE (cN d 1245 [v4] []) (fun v5=>obO (binA .Add v5 v2) fun v6=>obO (binA .Add v6 (.bytes [0])) fun v7=>some (.ok v7)) (fun u0=>some (.error u0))) (fun u0=>none)) (fun u0=>some (.error u0))):=by kernel_rfl
theorem m1439_4 (d:Nat) (a b:AV):cN (d+1) 1439 [.dict [(S "_id",b),(S "o",a)],.bool false,.obj 262] []=(okE (cN d 1424 [(.bytes [95,105,100,0]),b,(.bool false),(.obj 262)] []) (fun v0=>okE (cN d 1431 [(.str (S "o")),a,(.bool false),(.obj 262)] []) (fun v1=>obO (runMt cx .join (.bytes []) [(.list [v0,v1])] []) fun v2=>obO (callB cx .len [v2]) fun v3=>obO (binA .Add v3 (.int 5)) fun v4=>okE (cN d 1245 [v4] []) (fun v5=>obO (binA .Add v5 v2) fun v6=>obO (binA .Add v6 (.bytes [0])) fun v7=>some (.ok v7)) (fun u0=>some (.error u0))) (fun u0=>none)) (fun u0=>some (.error u0))):=by kernel_rfl
theorem m1439_5 (d:Nat) (a:AV):cN (d+1) 1439 [.dict [(S "l",a)],.bool false,.obj 262] []=(okE (cN d 1431 [(.str (S "l")),a,(.bool false),(.obj 262)] []) (fun v0=>obO (runMt cx .join (.bytes []) [(.list [v0])] []) fun v1=>obO (callB cx .len [v1]) fun v2=>obO (binA .Add v2 (.int 5)) fun v3=>okE (cN d 1245 [v3] []) (fun v4=>obO (binA .Add v4 v1) fun v5=>obO (binA .Add v5 (.bytes [0])) fun v6=>some (.ok v6)) (fun u0=>some (.error u0))) (fun u0=>none)):=by kernel_rfl
theorem m1299_0 (d:Nat)(n:List UInt8):cN (d+1) 1299 [.bytes n,.dict [],.bool false,.obj 262] []=(obO (binA .Add (.bytes [3]) (.bytes n)) fun v0=>okE (cN d 1245 [(.int 5)] []) (fun v1=>obO (binA .Add v0 v1) fun v2=>obO (binA .Add v2 (.bytes [])) fun v3=>obO (binA .Add v3 (.bytes [0])) fun v4=>some (.ok v4)) (fun u0=>some (.error u0))):=by kernel_rfl
theorem m1299_1 (d:Nat)(n:List UInt8)(x:Str)(a:AV):cN (d+1) 1299 [.bytes n,.dict [(x,a)],.bool false,.obj 262] []=(okE (cN d 1431 [(.str x),a,(.bool false),(.obj 262)] []) (fun v0=>obO (runMt cx .join (.bytes []) [(.list [v0])] []) fun v1=>obO (binA .Add (.bytes [3]) (.bytes n)) fun v2=>obO (callB cx .len [v1]) fun v3=>obO (binA .Add v3 (.int 5)) fun v4=>okE (cN d 1245 [v4] []) (fun v5=>obO (binA .Add v2 v5) fun v6=>obO (binA .Add v6 v1) fun v7=>obO (binA .Add v7 (.bytes [0])) fun v8=>some (.ok v8)) (fun u0=>some (.error u0))) (fun u0=>some (.error u0))):=by kernel_rfl
theorem m1299_2 (d:Nat)(n:List UInt8)(x y:Str)(a b:AV):cN (d+1) 1299 [.bytes n,.dict [(x,a),(y,b)],.bool false,.obj 262] []=(okE (cN d 1431 [(.str x),a,(.bool false),(.obj 262)] []) (fun v0=>okE (cN d 1431 [(.str y),b,(.bool false),(.obj 262)] []) (fun v1=>obO (runMt cx .join (.bytes []) [(.list [v0,v1])] []) fun v2=>obO (binA .Add (.bytes [3]) (.bytes n)) fun v3=>obO (callB cx .len [v2]) fun v4=>obO (binA .Add v4 (.int 5)) fun v5=>okE (cN d 1245 [v5] []) (fun v6=>obO (binA .Add v3 v6) fun v7=>obO (binA .Add v7 v2) fun v8=>obO (binA .Add v8 (.bytes [0])) fun v9=>some (.ok v9)) (fun u0=>some (.error u0))) (fun u0=>some (.error u0))) (fun u0=>some (.error u0))):=by kernel_rfl
theorem m1311_0 (d:Nat)(n:List UInt8):cN (d+1) 1311 [.bytes n,.list [],.bool false,.obj 262] []=(obO (binA .Add (.bytes [4]) (.bytes n)) fun v0=>okE (cN d 1245 [(.int 5)] []) (fun v1=>obO (binA .Add v0 v1) fun v2=>obO (binA .Add v2 (.bytes [])) fun v3=>obO (binA .Add v3 (.bytes [0])) fun v4=>some (.ok v4)) (fun u0=>some (.error u0))):=by kernel_rfl
theorem m1311_1 (d:Nat)(n:List UInt8)(a:AV):cN (d+1) 1311 [.bytes n,.list [a],.bool false,.obj 262] []=(okE (cN d 1424 [(.bytes [48,0]),a,(.bool false),(.obj 262)] []) (fun v0=>obO (runMt cx .join (.bytes []) [(.list [v0])] []) fun v1=>obO (binA .Add (.bytes [4]) (.bytes n)) fun v2=>obO (callB cx .len [v1]) fun v3=>obO (binA .Add v3 (.int 5)) fun v4=>okE (cN d 1245 [v4] []) (fun v5=>obO (binA .Add v2 v5) fun v6=>obO (binA .Add v6 v1) fun v7=>obO (binA .Add v7 (.bytes [0])) fun v8=>some (.ok v8)) (fun u0=>some (.error u0))) (fun u0=>some (.error u0))):=by kernel_rfl
theorem m1311_2 (d:Nat)(n:List UInt8)(a b:AV):cN (d+1) 1311 [.bytes n,.list [a,b],.bool false,.obj 262] []=(okE (cN d 1424 [(.bytes [48,0]),a,(.bool false),(.obj 262)] []) (fun v0=>okE (cN d 1424 [(.bytes [49,0]),b,(.bool false),(.obj 262)] []) (fun v1=>obO (runMt cx .join (.bytes []) [(.list [v0,v1])] []) fun v2=>obO (binA .Add (.bytes [4]) (.bytes n)) fun v3=>obO (callB cx .len [v2]) fun v4=>obO (binA .Add v4 (.int 5)) fun v5=>okE (cN d 1245 [v5] []) (fun v6=>obO (binA .Add v3 v6) fun v7=>obO (binA .Add v7 v2) fun v8=>obO (binA .Add v8 (.bytes [0])) fun v9=>some (.ok v9)) (fun u0=>some (.error u0))) (fun u0=>some (.error u0))) (fun u0=>some (.error u0))):=by kernel_rfl
theorem m1311_3 (d:Nat)(n:List UInt8)(a b c:AV):cN (d+1) 1311 [.bytes n,.list [a,b,c],.bool false,.obj 262] []=(okE (cN d 1424 [(.bytes [48,0]),a,(.bool false),(.obj 262)] []) (fun v0=>okE (cN d 1424 [(.bytes [49,0]),b,(.bool false),(.obj 262)] []) (fun v1=>okE (cN d 1424 [(.bytes [50,0]),c,(.bool false),(.obj 262)] []) (fun v2=>obO (runMt cx .join (.bytes []) [(.list [v0,v1,v2])] []) fun v3=>obO (binA .Add (.bytes [4]) (.bytes n)) fun v4=>obO (callB cx .len [v3]) fun v5=>obO (binA .Add v5 (.int 5)) fun v6=>okE (cN d 1245 [v6] []) (fun v7=>obO (binA .Add v4 v7) fun v8=>obO (binA .Add v8 v3) fun v9=>obO (binA .Add v9 (.bytes [0])) fun v10=>some (.ok v10)) (fun u0=>some (.error u0))) (fun u0=>some (.error u0))) (fun u0=>some (.error u0))) (fun u0=>some (.error u0))):=by kernel_rfl
theorem m1311_4 (d:Nat)(n:List UInt8)(a b c e:AV):cN (d+1) 1311 [.bytes n,.list [a,b,c,e],.bool false,.obj 262] []=(okE (cN d 1424 [(.bytes [48,0]),a,(.bool false),(.obj 262)] []) (fun v0=>okE (cN d 1424 [(.bytes [49,0]),b,(.bool false),(.obj 262)] []) (fun v1=>okE (cN d 1424 [(.bytes [50,0]),c,(.bool false),(.obj 262)] []) (fun v2=>okE (cN d 1424 [(.bytes [51,0]),e,(.bool false),(.obj 262)] []) (fun v3=>obO (runMt cx .join (.bytes []) [(.list [v0,v1,v2,v3])] []) fun v4=>obO (binA .Add (.bytes [4]) (.bytes n)) fun v5=>obO (callB cx .len [v4]) fun v6=>obO (binA .Add v6 (.int 5)) fun v7=>okE (cN d 1245 [v7] []) (fun v8=>obO (binA .Add v5 v8) fun v9=>obO (binA .Add v9 v4) fun v10=>obO (binA .Add v10 (.bytes [0])) fun v11=>some (.ok v11)) (fun u0=>some (.error u0))) (fun u0=>some (.error u0))) (fun u0=>some (.error u0))) (fun u0=>some (.error u0))) (fun u0=>some (.error u0))):=by kernel_rfl
def EnP (d:Nat)(tag:UInt8)(pay:List UInt8)(v:AV):Prop:=∀nm:List UInt8,nm.length≤1000→cN d 1424 [.bytes nm,v,.bool false,.obj 262] []=some (.ok (.bytes (tag::(nm++pay))))
theorem len_b {C:Ctx}{l:List UInt8}:callB C .len [.bytes l]=some (.int (l.length:Nat)):=rfl
theorem enP_none {d:Nat}:EnP (d+2) 10 [] .none:=fun nm h=>by
 rw[m1424_n,eO (s1360 (by lia)),List.append_nil]
theorem enP_bool {d:Nat}{c:Bool}:EnP (d+2) 8 [if c then 1 else 0] (.bool c):=fun nm h=>by
 have e:cN (d+1) 1346 [.bytes nm,.bool c,.bool false,.obj 262] []=some (.ok (.bytes (8::(nm++[if c then 1 else 0])))):=by
  rw[m1346,oS (add_b (x:=[8]) (by simp; lia))]
  cases c
  ·rw[cnd_f,cnd_f,oS (add_b (by simp; lia))]; rfl
  ·rw[cnd_t,oS (add_b (by simp; lia))]; rfl
 rw[m1424_b,eO e]
theorem enP_int {d:Nat}{n:Int}(hn:I32 n):EnP (d+3) 16 (le4 n) (.int n):=fun nm h=>by
 have e:cN (d+2) 1381 [.bytes nm,.int n,.bool false,.obj 262] []=some (.ok (.bytes (16::(nm++le4 n)))):=by
  have h1:=hn.1
  have h2:=hn.2
  rw[m1381,decide_eq_true (by lia),cnd_t,decide_eq_true (by lia),cnd_t,oS (add_b (x:=[16]) (by simp; lia)),eO (s1245 hn),oS (add_b (by simp[lL]; lia))]; rfl
 rw[m1424_i,eO e]
theorem enc_m {s:Str} {y:List UInt8} (h:utf8A s=some y):runMt cx .encode (.str s) [.str (S "utf-8")] []=some (.bytes y):=by
 have e1:sEqB (S "utf-8") (PySem.Str.ofString "utf-8")=true:=by decide +kernel
 show gd (sEqB (S "utf-8") (PySem.Str.ofString "utf-8")||sEqB (S "utf-8") (PySem.Str.ofString "utf8")) (ob (utf8A s) fun b=>some (AV.bytes b))=_
 rw[e1]
 exact obS h
theorem s1070 {d:Nat}{s:Str}{y:List UInt8}(h:utf8A s=some y):cN (d+1) 1070 [.str s] []=some (.ok (.tup [.bytes y,.int (s.length:Nat)])):=by
 rw[m1070,oS (enc_m h)]
theorem enP_str {d:Nat}{s:Str}{y:List UInt8}(hy:utf8A s=some y)(hl:y.length≤1000):EnP (d+3) 2 (le4 ((y.length:Nat)+1:Int)++(y++[0])) (.str s):=fun nm h=>by
 have e:cN (d+2) 1318 [.bytes nm,.str s,.bool false,.obj 262] []=some (.ok (.bytes (2::(nm++(le4 ((y.length:Nat)+1:Int)++(y++[0])))))):=by
  rw[m1318,eO (s1070 hy),oS tup0,oS (add_b (x:=[2]) (by simp; lia)),oS len_b,oS add_i,eO (s1245 ⟨by lia,by lia⟩),oS (add_b (by simp[lL]; lia)),oS (add_b (by simp[lL]; lia)),oS (add_b (by simp[lL]; lia))]
  simp
 rw[m1424_s,eO e]
theorem enP_bytes {d:Nat}{y:List UInt8}(hl:y.length≤1000):EnP (d+3) 5 (le4 (y.length:Nat)++(0::y)) (.bytes y):=fun nm h=>by
 have e:cN (d+2) 1294 [.bytes nm,.bytes y,.bool false,.obj 262] []=some (.ok (.bytes (5::(nm++(le4 (y.length:Nat)++(0::y)))))):=by
  rw[m1294,oS (add_b (x:=[5]) (by simp; lia)),eO (s1245 ⟨by lia,by lia⟩),oS (add_b (by simp[lL]; lia)),oS (add_b (by simp[lL]; lia)),oS (add_b (by simp[lL]; lia))]
  simp
 rw[m1424_y,eO e]
structure PayOK (D E:Nat) (tag:UInt8) (pay:List UInt8) (v:AV):Prop where
 tz:tag≠0
 pl:pay.length≤1000
 rd:∀d,Rd (d+D) tag pay v
 en:∀d,EnP (d+E) tag pay v
 al:∀d,cN (d+E) 1514 [v,v] []=some (.ok (.bool true))
theorem PayOK.mono {D E D' E':Nat}{tag:UInt8}{pay:List UInt8}{v:AV}(h:PayOK D E tag pay v)(hd:D≤D')(he:E≤E'):PayOK D' E' tag pay v :=
 ⟨h.tz,h.pl,fun d=>by have:=h.rd (d+(D'-D)); rwa [show d+(D'-D)+D=d+D' by lia] at this,
  fun d=>by have:=h.en (d+(E'-E)); rwa [show d+(E'-E)+E=d+E' by lia] at this,
  fun d=>by have:=h.al (d+(E'-E)); rwa [show d+(E'-E)+E=d+E' by lia] at this⟩
structure NmOK (nm:List UInt8) (x:Str):Prop where
 nz:(0:UInt8)∉nm
 dec:decT nm=some x
 enc:utf8A x=some nm
 con:PySem.Txt.contains x (⟨#[0]⟩:Str)=false
 nl:nm.length≤10
structure FldOK (D E:Nat) (f:Fld):Prop extends NmOK f.nm f.x,PayOK D E f.tag f.pay f.v
theorem s1287 {d:Nat}{s:Str}{y:List UInt8}(h:utf8A s=some y)(hc:PySem.Txt.contains s (⟨#[0]⟩:Str)=false)(hl:y.length≤1000):cN (d+2) 1287 [.str s] []=some (.ok (.bytes (y++[0]))):=by
 rw[m1287,hc,cnd_f,eO (s1070 h),oS tup0,oS (add_b (by simp; lia))]
theorem FldOK.elem {D E:Nat}{f:Fld}(h:FldOK D (E+2) f)(d:Nat):cN (d+E+3) 1431 [.str f.x,f.v,.bool false,.obj 262] []=some (.ok (.bytes f.oc)):=by
 have hn:=h.nl
 have e:=h.en d (f.nm++[0]) (by simp; lia)
 rw[m1431,eO (s1287 (d:=d+E) h.enc h.con (by lia)),eO (show cN (d+E+2) 1424 [.bytes (f.nm++[0]),f.v,.bool false,.obj 262] []=some (.ok (.bytes (f.tag::(f.nm++[0]++f.pay)))) from e)]
 rfl
theorem FldOK.ocl {D E:Nat}{f:Fld}(h:FldOK D E f):f.oc.length≤1012:=by
 rw[oc_len]; have:=h.nl; have:=h.pl; lia
theorem join_m {v:AV}{xs:List AV}{bs:List (List UInt8)}(h1:bytesL xs=some bs)(h2:fitL bs.flatten.length=true):runMt cx .join v [.list xs] []=some (.bytes bs.flatten):=by
 show ob (bytesL xs) (fun bs=>gd (fitL bs.flatten.length) (some (AV.bytes bs.flatten)))=_
 rw[obS h1]
 exact gdT h2
theorem join1 {a:List UInt8}(h:a.length≤16777216):runMt cx .join (.bytes []) [.list [.bytes a]] []=some (.bytes (a++[])):=by
 exact join_m (bs:=[a]) rfl (decide_eq_true (by simp; lia))
theorem join2 {a b:List UInt8}(h:a.length+b.length≤16777216):runMt cx .join (.bytes []) [.list [.bytes a,.bytes b]] []=some (.bytes (a++(b++[]))):=by
 exact join_m (bs:=[a,b]) rfl (decide_eq_true (by simp; lia))
theorem join3 {a b c:List UInt8}(h:a.length+b.length+c.length≤16777216):runMt cx .join (.bytes []) [.list [.bytes a,.bytes b,.bytes c]] []=some (.bytes (a++(b++(c++[])))):=by
 exact join_m (bs:=[a,b,c]) rfl (decide_eq_true (by simp; lia))
theorem join4 {a b c e:List UInt8}(h:a.length+b.length+c.length+e.length≤16777216):runMt cx .join (.bytes []) [.list [.bytes a,.bytes b,.bytes c,.bytes e]] []=some (.bytes (a++(b++(c++(e++[]))))):=by
 exact join_m (bs:=[a,b,c,e]) rfl (decide_eq_true (by simp; lia))
theorem held_eq (l:List UInt8):le4 (((l.length:Nat):Int)+5)++l++[0]=held l:=by
 unfold held
 rw[List.append_assoc]
 rfl
theorem close_m {d:Nat}{l:List UInt8}(h:l.length≤16000000):(obO (callB cx .len [AV.bytes l]) fun v_3 =>
  obO (binA PySem.Operator.Add v_3 (AV.int 5)) fun v_4 =>
  okE (cN (d+1) 1245 [v_4] []) (fun v_5 =>
  obO (binA PySem.Operator.Add v_5 (AV.bytes l)) fun v_6 =>
   obO (binA PySem.Operator.Add v_6 (AV.bytes [0])) fun v_7 =>
   some (Except.ok v_7)) (fun x_0=>some (Except.error x_0)))=some (Except.ok (AV.bytes (held l))):=by
 refine (oS len_b).trans ((oS add_i).trans ((eO (s1245 ⟨by lia,by lia⟩)).trans ((oS (add_b (by rw[lL]; lia))).trans ((oS (add_b (by simp[lL]; lia))).trans ?_)))); rw[held_eq]
theorem close_n {d:Nat}{t:UInt8}{n l:List UInt8}(hn:n.length≤1000)(h:l.length≤16000000):(obO (binA PySem.Operator.Add (AV.bytes [t]) (AV.bytes n)) fun v_2 =>
  obO (callB cx .len [AV.bytes l]) fun v_3 =>
  obO (binA PySem.Operator.Add v_3 (AV.int 5)) fun v_4 =>
  okE (cN (d+1) 1245 [v_4] []) (fun v_5 =>
  obO (binA PySem.Operator.Add v_2 v_5) fun v_6 =>
   obO (binA PySem.Operator.Add v_6 (AV.bytes l)) fun v_7 =>
   obO (binA PySem.Operator.Add v_7 (AV.bytes [0])) fun v_8 =>
   some (Except.ok v_8)) (fun x_0=>some (Except.error x_0)))=some (Except.ok (AV.bytes (t::(n++held l)))):=by
 rw[oS (add_b (by simp; lia)),oS len_b,oS add_i,eO (s1245 ⟨by lia,by lia⟩),oS (add_b (by simp[lL]; lia)),oS (add_b (by simp[lL]; lia)),oS (add_b (by simp[lL]; lia)),←held_eq]
 simp
theorem enP_d0 {d:Nat}:EnP (d+3) 3 (held (bodyF [])) (.dict []):=fun nm h=>by
 rw[m1424_d,eO (v:=.bytes (3::(nm++held [])))]
 ·rfl
 ·rw[m1299_0]; exact close_n (d:=d) (l:=[]) h (by simp)
theorem enP_d1 {d D E:Nat}{f:Fld}(hf:FldOK D (E+2) f):EnP (d+E+5) 3 (held (bodyF [f])) (.dict [(f.x,f.v)]):=fun nm h=>by
 have hl:=hf.ocl
 rw[m1424_d,eO (v:=.bytes (3::(nm++held (bodyF [f]))))]
 rw[m1299_1,eO (hf.elem d),oS (join1 (by lia))]
 exact close_n (d:=d+E+2) (l:=f.oc++[]) h (by simp; lia)
theorem enP_d2 {d D D' E:Nat}{f g:Fld}(hf:FldOK D (E+2) f)(hg:FldOK D' (E+2) g):EnP (d+E+5) 3 (held (bodyF [f,g])) (.dict [(f.x,f.v),(g.x,g.v)]):=fun nm h=>by
 have hl:=hf.ocl
 have hl':=hg.ocl
 rw[m1424_d,eO (v:=.bytes (3::(nm++held (bodyF [f,g]))))]
 rw[m1299_2,eO (hf.elem d),eO (hg.elem d),oS (join2 (by lia))]
 exact close_n (d:=d+E+2) (l:=f.oc++(g.oc++[])) h (by simp; lia)
theorem nm_n:NmOK [110] (S "n"):=⟨by decide,by kernel_rfl,by kernel_rfl,by kernel_rfl,by decide⟩
theorem nm_t:NmOK [116] (S "t"):=⟨by decide,by kernel_rfl,by kernel_rfl,by kernel_rfl,by decide⟩
theorem nm_d:NmOK [100] (S "d"):=⟨by decide,by kernel_rfl,by kernel_rfl,by kernel_rfl,by decide⟩
theorem nm_e:NmOK [101] (S "e"):=⟨by decide,by kernel_rfl,by kernel_rfl,by kernel_rfl,by decide⟩
theorem nm_l:NmOK [108] (S "l"):=⟨by decide,by kernel_rfl,by kernel_rfl,by kernel_rfl,by decide⟩
theorem nm_o:NmOK [111] (S "o"):=⟨by decide,by kernel_rfl,by kernel_rfl,by kernel_rfl,by decide⟩
theorem nm_id:NmOK [95,105,100] (S "_id"):=⟨by decide,by kernel_rfl,by kernel_rfl,by kernel_rfl,by decide⟩
theorem nm_z:NmOK [] (S ""):=⟨by decide,by kernel_rfl,by kernel_rfl,by kernel_rfl,by decide⟩
theorem sEq_self (s:Str):sEqB s s=true:=by rw[sEqB_eq]; exact decide_eq_true rfl
theorem pay_none:PayOK 4 3 10 [] .none:=⟨by decide,by decide,fun d=>rd_none,fun d=>enP_none,fun d=>m1514_n _⟩
theorem pay_bool (c:Bool):PayOK 4 3 8 [if c then 1 else 0] (.bool c):=⟨by decide,by simp,fun d=>rd_bool,fun d=>enP_bool,fun d=>by
 rw[m1514_b]; cases c <;> rfl⟩
theorem pay_int {n:Int}(h:I32 n):PayOK 4 3 16 (le4 n) (.int n):=⟨by decide,by rw[lL]; decide,fun d=>rd_int h,fun d=>enP_int h,fun d=>by
 rw[m1514_i,decide_eq_true rfl]⟩
theorem pay_str {s:Str}{y:List UInt8}(hd:decT y=some s)(hy:utf8A s=some y)(hl:y.length≤100):PayOK 4 3 2 (le4 ((y.length:Nat)+1:Int)++(y++[0])) (.str s):=⟨by decide,by simp[lL]; lia,fun d=>rd_str hd,fun d=>enP_str hy (by lia),fun d=>by
 rw[m1514_s,sEq_self]⟩
theorem pay_bytes {y:List UInt8}(hl:y.length≤100):PayOK 4 3 5 (le4 (y.length:Nat)++(0::y)) (.bytes y):=⟨by decide,by simp[lL]; lia,fun d=>rd_bytes,fun d=>enP_bytes (by lia),fun d=>by
 rw[m1514_y,decide_eq_true rfl]⟩
theorem FldOK.mk' {D E:Nat}{f:Fld}(h:NmOK f.nm f.x)(g:PayOK D E f.tag f.pay f.v):FldOK D E f:={ toNmOK:=h,toPayOK:=g }
theorem rd_fs {D E:Nat} {fs:List Fld} (h:∀f∈fs,FldOK (D+2) E f) (hn:fs.length<100) (hI:(bodyF fs).length≤16000000) (hr:dGet (S "$ref") (putAll [] (fs.map Fld.el))=none):∀d,Rd (d+(D+6)) 3 (held (bodyF fs)) (dictF fs):=fun d =>
 rd_dictF (d:=d+D) (fun f hf=>⟨(h f hf).nz,(h f hf).dec,(h f hf).rd d⟩) hn hI hr
structure ItmOK (D E:Nat) (i:UInt8) (f:Fld):Prop extends PayOK D E f.tag f.pay f.v where
 nm:f.nm=[i]
theorem ItmOK.en' {D E:Nat}{i:UInt8}{f:Fld}(h:ItmOK D E i f)(d:Nat):cN (d+E) 1424 [.bytes [i,0],f.v,.bool false,.obj 262] []=some (.ok (.bytes f.oc)):=by
 have:=h.en d [i,0] (od rfl)
 rw[this]
 unfold Fld.oc
 rw[h.nm]
 rfl
theorem ItmOK.en1 {D E:Nat}{i:UInt8}{f:Fld}(h:ItmOK D (E+1) i f)(d:Nat):cN (d+E+1) 1424 [.bytes [i,0],f.v,.bool false,.obj 262] []=some (.ok (.bytes f.oc)):=h.en' d
theorem ItmOK.ocl {D E:Nat}{i:UInt8}{f:Fld}(h:ItmOK D E i f):f.oc.length≤1003:=by
 rw[oc_len,h.nm]; have:=h.pl; simp; lia
theorem rd_its {D E:Nat}{fs:List Fld}(h:∀f∈fs,∃i,i≠0∧ItmOK (D+2) E i f)(hn:fs.length<100)(hI:(bodyF fs).length≤16000000):∀d,Rd (d+(D+4)) 4 (held (bodyF fs)) (.list (fs.map Fld.v)):=fun d =>
 rd_listF (d:=d+D) (fun f hf=>by
  obtain ⟨i,hi,h⟩:=h f hf
  exact ⟨by rw[h.nm]; simp; exact fun e=>hi e.symm,h.tz,h.rd d⟩) hn hI
theorem enP_l0 {d:Nat}:EnP (d+3) 4 (held (bodyF [])) (.list []):=fun nm h=>by
 rw[m1424_l,eO (v:=.bytes (4::(nm++held [])))]
 ·rfl
 ·rw[m1311_0]; exact close_n (d:=d) (l:=[]) h (od rfl)
theorem enP_l1 {d D E:Nat}{f:Fld}(hf:ItmOK D (E+1) 48 f):EnP (d+E+3) 4 (held (bodyF [f])) (.list [f.v]):=fun nm h=>by
 have hl:=hf.ocl
 rw[m1424_l,eO (v:=.bytes (4::(nm++held (bodyF [f]))))]
 rw[m1311_1,eO (hf.en1 d),oS (join1 (by lia))]
 exact close_n (d:=d+E) (l:=f.oc++[]) h (by simp; lia)
theorem enP_l2 {d D E:Nat}{f g:Fld}(hf:ItmOK D (E+1) 48 f)(hg:ItmOK D (E+1) 49 g):EnP (d+E+3) 4 (held (bodyF [f,g])) (.list [f.v,g.v]):=fun nm h=>by
 have hl:=hf.ocl
 have hl':=hg.ocl
 rw[m1424_l,eO (v:=.bytes (4::(nm++held (bodyF [f,g]))))]
 rw[m1311_2,eO (hf.en1 d),eO (hg.en1 d),oS (join2 (by lia))]
 exact close_n (d:=d+E) (l:=f.oc++(g.oc++[])) h (by simp; lia)
theorem enP_l3 {d D E:Nat}{f g k:Fld}(hf:ItmOK D (E+1) 48 f)(hg:ItmOK D (E+1) 49 g)(hk:ItmOK D (E+1) 50 k):EnP (d+E+3) 4 (held (bodyF [f,g,k])) (.list [f.v,g.v,k.v]):=fun nm h=>by
 have hl:=hf.ocl
 have hl':=hg.ocl
 have hl'':=hk.ocl
 rw[m1424_l,eO (v:=.bytes (4::(nm++held (bodyF [f,g,k]))))]
 rw[m1311_3,eO (hf.en1 d),eO (hg.en1 d),eO (hk.en1 d),oS (join3 (by lia))]
 exact close_n (d:=d+E) (l:=f.oc++(g.oc++(k.oc++[]))) h (by simp; lia)
theorem enP_l4 {d D E:Nat}{f g k m:Fld}(hf:ItmOK D (E+1) 48 f)(hg:ItmOK D (E+1) 49 g)(hk:ItmOK D (E+1) 50 k)(hm:ItmOK D (E+1) 51 m):EnP (d+E+3) 4 (held (bodyF [f,g,k,m])) (.list [f.v,g.v,k.v,m.v]):=fun nm h=>by
 have hl:=hf.ocl
 have hl':=hg.ocl
 have hl'':=hk.ocl
 have hl3:=hm.ocl
 rw[m1424_l,eO (v:=.bytes (4::(nm++held (bodyF [f,g,k,m]))))]
 rw[m1311_4,eO (hf.en1 d),eO (hg.en1 d),eO (hk.en1 d),eO (hm.en1 d),oS (join4 (by lia))]
 exact close_n (d:=d+E) (l:=f.oc++(g.oc++(k.oc++(m.oc++[])))) h (by simp; lia)
def Alk (d:Nat)(v:AV):Prop:=cN d 1514 [v,v] []=some (.ok (.bool true))
theorem tr_t:truthA (.bool true)=some true:=rfl
theorem nt_t:Bool.not true=false:=rfl
theorem alk_l0 {d:Nat}:Alk (d+1) (.list []):=m1514_l0 d
theorem alk_l1 {d:Nat}{a:AV}(ha:Alk d a):Alk (d+1) (.list [a]):=by
 unfold Alk at *; rw[m1514_l1]; simp only[ha,okE_s,obO_s,tr_t,nt_t,cnd_f]
theorem alk_l2 {d:Nat}{a b:AV}(ha:Alk d a)(hb:Alk d b):Alk (d+1) (.list [a,b]):=by
 unfold Alk at *; rw[m1514_l2]; simp only[ha,hb,okE_s,obO_s,tr_t,nt_t,cnd_f]
theorem alk_l3 {d:Nat}{a b c:AV}(ha:Alk d a)(hb:Alk d b)(hc:Alk d c):Alk (d+1) (.list [a,b,c]):=by
 unfold Alk at *; rw[m1514_l3]; simp only[ha,hb,hc,okE_s,obO_s,tr_t,nt_t,cnd_f]
theorem alk_l4 {d:Nat}{a b c e:AV}(ha:Alk d a)(hb:Alk d b)(hc:Alk d c)(he:Alk d e):Alk (d+1) (.list [a,b,c,e]):=by
 unfold Alk at *; rw[m1514_l4]; simp only[ha,hb,hc,he,okE_s,obO_s,tr_t,nt_t,cnd_f]
structure DocOK (fs:List Fld):Prop where
 fo:∀f∈fs,FldOK 14 11 f
 few:fs.length<100
 sm:(bodyF fs).length≤90
 ref:dGet (S "$ref") (putAll [] (fs.map Fld.el))=none
 pay:PayOK 18 14 3 (held (bodyF fs)) (dictF fs)
 enc:∀d,cN (d+16) 1447 [dictF fs] []=some (.ok (.bytes (held (bodyF fs))))
theorem all2 {P:Fld→Prop}{f g:Fld}(hf:P f)(hg:P g):∀x∈[f,g],P x:=by
 intro x hx
 rcases List.mem_cons.mp hx with rfl|hx
 ·exact hf
 ·rcases List.mem_cons.mp hx with rfl|hx
  ·exact hg
  ·cases hx
theorem all1 {P:Fld→Prop}{f:Fld}(hf:P f):∀x∈[f],P x:=by
 intro x hx
 rcases List.mem_cons.mp hx with rfl|hx
 ·exact hf
 ·cases hx
theorem FldOK.mono {D E D' E':Nat}{f:Fld}(h:FldOK D E f)(hd:D≤D')(he:E≤E'):FldOK D' E' f:={ toNmOK:=h.toNmOK,toPayOK:=h.toPayOK.mono hd he }
noncomputable def fl0 (n:Int):Fld:=⟨16,[110],S "n",le4 n,.int n⟩
noncomputable def fl1 (x:Str) (y:List UInt8):Fld:=⟨2,[116],S "t",le4 ((y.length:Nat)+1:Int)++(y++[0]),.str x⟩
theorem doc0 {n:Int}(hn:I32 n){x:Str}{y:List UInt8}(hx:decT y=some x)(he:utf8A x=some y)(hl:y.length≤12):DocOK [fl0 n,fl1 x y]:=by
 have h0:FldOK 4 3 (fl0 n):=.mk' nm_n (pay_int hn)
 have h1:FldOK 4 3 (fl1 x y):=.mk' nm_t (pay_str hx he (by lia))
 have hv:dictF [fl0 n,fl1 x y]=.dict [(S "n",.int n),(S "t",.str x)]:=by kernel_rfl
 have hb:(bodyF [fl0 n,fl1 x y]).length≤90:=by
  show ((fl0 n).oc++((fl1 x y).oc++[])).length≤90
  rw[List.length_append,List.length_append,oc_len,oc_len]
  simp[fl0,fl1,lL]; lia
 have hr:dGet (S "$ref") (putAll [] ([fl0 n,fl1 x y].map Fld.el))=none:=by kernel_rfl
 refine ⟨all2 (h0.mono (by decide) (by decide)) (h1.mono (by decide) (by decide)),by simp,hb,hr,⟨by decide,by rw[held_len]; lia,rd_fs (D:=12) (E:=11) (all2 (h0.mono (by decide) (by decide)) (h1.mono (by decide) (by decide))) (od rfl) (by lia) hr,fun d=>?_,fun d=>?_⟩,fun d=>?_⟩
 ·rw[hv]; exact enP_d2 (d:=d+8) (E:=1) h0 h1
 ·rw[hv,m1514_d2,eO (show cN (d+13) 1514 [.int n,.int n] []=some (.ok (.bool true)) from h0.al _),oS tr_t,nt_t,cnd_f,eO (show cN (d+13) 1514 [.str x,.str x] []=some (.ok (.bool true)) from h1.al _),oS tr_t,nt_t,cnd_f]
 ·rw[hv,m1447,eO]
  rw[m1439_1,eO (show cN (d+14) 1431 [.str (S "n"),.int n,.bool false,.obj 262] []=some (.ok (.bytes (fl0 n).oc)) from h0.elem (E:=1) (d+10)),eO (show cN (d+14) 1431 [.str (S "t"),.str x,.bool false,.obj 262] []=some (.ok (.bytes (fl1 x y).oc)) from h1.elem (E:=1) (d+10)),oS (join2 (by have:=h0.ocl; have:=h1.ocl; lia))]
  exact close_m (d:=d+13) (l:=(fl0 n).oc++((fl1 x y).oc++[])) (by have:((fl0 n).oc++((fl1 x y).oc++[])).length≤90:=hb; lia)
theorem doc1:DocOK []:=by
 refine ⟨nofun,by decide,by decide,by kernel_rfl,⟨by decide,by rw[held_len]; decide,rd_fs (D:=12) (E:=1) nofun (by decide) (by decide) (by kernel_rfl),fun d=>enP_d0,fun d=>m1514_d0 _⟩,fun d=>?_⟩
 rw[m1447,eO (v:=.bytes (held []))]
 ·rfl
 ·show cN (d+14+1) 1439 [.dict [],_,_] []=_
  rw[m1439_0]
  exact close_m (d:=d+13) (l:=[]) (od rfl)
noncomputable def fd0 (a:Int):Fld:=⟨16,[95,105,100],S "_id",le4 a,.int a⟩
noncomputable def fd1 (y:List UInt8):Fld:=⟨5,[111],S "o",le4 (y.length:Nat)++(0::y),.bytes y⟩
theorem doc3_ {a:Int} (ha:I32 a) {y:List UInt8} (hl:y.length≤12):DocOK [fd0 a,fd1 y]∧∀d,cN (d+16) 1447 [.dict [(S "o",.bytes y),(S "_id",.int a)]] []=some (.ok (.bytes (held (bodyF [fd0 a,fd1 y])))):=by
 have h0:FldOK 4 3 (fd0 a):=.mk' nm_id (pay_int ha)
 have h1:FldOK 4 3 (fd1 y):=.mk' nm_o (pay_bytes (by lia))
 have hv:dictF [fd0 a,fd1 y]=.dict [(S "_id",.int a),(S "o",.bytes y)]:=by kernel_rfl
 have hb:(bodyF [fd0 a,fd1 y]).length≤90:=by
  show ((fd0 a).oc++((fd1 y).oc++[])).length≤90
  rw[List.length_append,List.length_append,oc_len,oc_len]
  simp[fd0,fd1,lL]; lia
 have hr:dGet (S "$ref") (putAll [] ([fd0 a,fd1 y].map Fld.el))=none:=by kernel_rfl
 have en0:∀d,cN (d+14) 1424 [.bytes [95,105,100,0],.int a,.bool false,.obj 262] []=some (.ok (.bytes (fd0 a).oc)):=fun d=>by
  have:=h0.en (d+11) [95,105,100,0] (by decide)
  rw[show d+11+3=d+14 from rfl] at this
  exact this
 have cl:∀d,(obO (callB cx .len [AV.bytes ((fd0 a).oc++((fd1 y).oc++[]))]) fun v_3 =>
   obO (binA PySem.Operator.Add v_3 (AV.int 5)) fun v_4 =>
   okE (cN (d+1) 1245 [v_4] []) (fun v_5 =>
   obO (binA PySem.Operator.Add v_5 (AV.bytes ((fd0 a).oc++((fd1 y).oc++[])))) fun v_6 =>
    obO (binA PySem.Operator.Add v_6 (AV.bytes [0])) fun v_7 =>
    some (Except.ok v_7)) (fun x_0=>some (Except.error x_0)))=some (Except.ok (AV.bytes (held (bodyF [fd0 a,fd1 y])))):=fun d =>
  close_m (d:=d) (l:=(fd0 a).oc++((fd1 y).oc++[])) (by have:((fd0 a).oc++((fd1 y).oc++[])).length≤90:=hb; lia)
 refine ⟨⟨all2 (h0.mono (by decide) (by decide)) (h1.mono (by decide) (by decide)),by simp,hb,hr,⟨by decide,by rw[held_len]; lia,rd_fs (D:=12) (E:=11) (all2 (h0.mono (by decide) (by decide)) (h1.mono (by decide) (by decide))) (od rfl) (by lia) hr,fun d=>?_,fun d=>?_⟩,fun d=>?_⟩,fun d=>?_⟩
 ·rw[hv]; exact enP_d2 (d:=d+8) (E:=1) h0 h1
 ·rw[hv,m1514_d3,eO (show cN (d+13) 1514 [.int a,.int a] []=some (.ok (.bool true)) from h0.al _),oS tr_t,nt_t,cnd_f,eO (show cN (d+13) 1514 [.bytes y,.bytes y] []=some (.ok (.bool true)) from h1.al _),oS tr_t,nt_t,cnd_f]
 ·rw[hv,m1447,eO]
  rw[m1439_4,eO (en0 d),eO (show cN (d+14) 1431 [.str (S "o"),.bytes y,.bool false,.obj 262] []=some (.ok (.bytes (fd1 y).oc)) from h1.elem (E:=1) (d+10)),oS (join2 (by have:=h0.ocl; have:=h1.ocl; lia))]
  exact cl (d+13)
 ·rw[m1447,eO]
  rw[m1439_3,eO (en0 d),eO (show cN (d+14) 1431 [.str (S "o"),.bytes y,.bool false,.obj 262] []=some (.ok (.bytes (fd1 y).oc)) from h1.elem (E:=1) (d+10)),oS (join2 (by have:=h0.ocl; have:=h1.ocl; lia))]
  exact cl (d+13)
noncomputable def it0 (c:Int):Fld:=⟨16,[48],S "",le4 c,.int c⟩
noncomputable def it1:Fld:=⟨4,[49],S "",held (bodyF [⟨10,[48],S "",[],.none⟩,⟨8,[49],S "",[1],.bool true⟩]),.list [.none,.bool true]⟩
noncomputable def fz:Fld:=⟨2,[],S "",le4 3++([120,0]++[0]),.str (S "x\x00")⟩
noncomputable def it2:Fld:=⟨3,[50],S "",held (bodyF [fz]),dictF [fz]⟩
noncomputable def fe0:Fld:=⟨3,[101],S "e",held (bodyF []),dictF []⟩
noncomputable def fe1 (c:Int):Fld:=⟨4,[108],S "l",held (bodyF [it0 c,it1,it2]),.list [.int c,.list [.none,.bool true],dictF [fz]]⟩
noncomputable def fq (c:Int):Fld:=⟨3,[100],S "d",held (bodyF [fe0,fe1 c]),dictF [fe0,fe1 c]⟩
theorem itm0 {c:Int}(hc:I32 c):ItmOK 4 3 48 (it0 c):={ toPayOK:=pay_int hc,nm:=rfl }
theorem pay_it1:PayOK 6 5 4 it1.pay it1.v:=by
 have h0:ItmOK 4 3 48 ⟨10,[48],S "",[],.none⟩:={ toPayOK:=pay_none,nm:=rfl }
 have h1:ItmOK 4 3 49 ⟨8,[49],S "",[1],.bool true⟩:={ toPayOK:=pay_bool true,nm:=rfl }
 refine ⟨by decide,by decide +kernel,rd_its (D:=2) (E:=3) (fs:=[⟨10,[48],S "",[],.none⟩,⟨8,[49],S "",[1],.bool true⟩]) (all2 ⟨48,by decide,h0⟩ ⟨49,by decide,h1⟩) (by decide) (by decide +kernel),fun d=>?_,fun d=>?_⟩
 ·exact enP_l2 (d:=d) (E:=2) h0 h1
 ·exact alk_l2 (d:=d+4) (h0.al (d+1)) (h1.al (d+1))
theorem fz_ok:FldOK 4 3 fz:=.mk' nm_z (pay_str (s:=S "x\x00") (y:=[120,0]) (by kernel_rfl) (by kernel_rfl) (by decide))
theorem pay_it2:PayOK 8 6 3 it2.pay it2.v:=by
 have hv:dictF [fz]=.dict [(S "",.str (S "x\x00"))]:=by kernel_rfl
 refine ⟨by decide,by decide +kernel,rd_fs (D:=2) (E:=3) (all1 fz_ok) (by decide) (by decide +kernel) (by kernel_rfl),fun d=>?_,fun d=>?_⟩
 ·show EnP (d+6) 3 (held (bodyF [fz])) (dictF [fz])
  rw[hv]; exact enP_d1 (d:=d) (E:=1) fz_ok
 ·show cN (d+6) 1514 [dictF [fz],dictF [fz]] []=_
  rw[hv,m1514_dz,eO (show cN (d+5) 1514 [.str (S "x\x00"),.str (S "x\x00")] []=some (.ok (.bool true)) from fz_ok.al _),oS tr_t,nt_t,cnd_f]
theorem fe1_len {c:Int}:(fe1 c).pay.length=44:=by
 show (held (bodyF [it0 c,it1,it2])).length=44
 rw[held_len]
 show ((it0 c).oc++(it1.oc++(it2.oc++[]))).length+5=44
 have e:(it1.oc++(it2.oc++[])).length=32:=by decide +kernel
 rw[List.length_append,oc_len,e]
 show 1+(le4 c).length+2+32+5=44
 rw[lL]
theorem fe1_ok {c:Int}(hc:I32 c):FldOK 10 8 (fe1 c):=by
 have h0:ItmOK 8 6 48 (it0 c):={ toPayOK:=(itm0 hc).toPayOK.mono (by decide) (by decide),nm:=rfl }
 have h1:ItmOK 8 6 49 it1:={ toPayOK:=pay_it1.mono (by decide) (by decide),nm:=rfl }
 have h2:ItmOK 8 6 50 it2:={ toPayOK:=pay_it2.mono (by decide) (by decide),nm:=rfl }
 refine .mk' nm_l ⟨by show (4:UInt8)≠0; decide,by rw[fe1_len]; decide,rd_its (D:=6) (E:=6) (fs:=[it0 c,it1,it2]) (fun f hf=>?_) (od rfl) ?_,fun d=>?_,fun d=>?_⟩
 ·rcases List.mem_cons.mp hf with rfl|hf
  ·exact ⟨48,by decide,h0⟩
  ·exact all2 (P:=fun f=>∃i,i≠0∧ItmOK (6+2) 6 i f) ⟨49,by decide,h1⟩ ⟨50,by decide,h2⟩ f hf
 ·have:=fe1_len (c:=c)
  have e:(fe1 c).pay.length=(bodyF [it0 c,it1,it2]).length+5:=held_len _
  lia
 ·exact enP_l3 (d:=d) (E:=5) h0 h1 h2
 ·exact alk_l3 (d:=d+7) (h0.al (d+1)) (h1.al (d+1)) (h2.al (d+1))
theorem fe0_ok:FldOK 10 8 fe0:=.mk' nm_e ⟨by decide,by decide +kernel,rd_fs (D:=4) (E:=1) (fs:=[]) nofun (by decide) (by decide) (by kernel_rfl),fun d=>enP_d0,fun d=>m1514_d0 _⟩
theorem fq_len {c:Int}:(bodyF [fe0,fe1 c]).length=55:=by
 show (fe0.oc++((fe1 c).oc++[])).length=55
 rw[List.length_append,List.length_append,oc_len (fe1 c),fe1_len,show fe0.oc.length=8 by decide +kernel]
 rfl
theorem fq_ok {c:Int}(hc:I32 c):FldOK 14 11 (fq c):=by
 have h0:=fe0_ok
 have h1:=fe1_ok hc
 have hr:dGet (S "$ref") (putAll [] ([fe0,fe1 c].map Fld.el))=none:=by kernel_rfl
 have hv:dictF [fe0,fe1 c]=.dict [(S "e",fe0.v),(S "l",(fe1 c).v)]:=by kernel_rfl
 refine .mk' nm_d ⟨by show (3:UInt8)≠0; decide,?_,rd_fs (D:=8) (fs:=[fe0,fe1 c]) (all2 h0 h1) (od rfl) (by rw[fq_len]; decide) hr,fun d=>?_,fun d=>?_⟩
 ·show (held (bodyF [fe0,fe1 c])).length≤1000
  rw[held_len,fq_len]; decide
 ·show EnP (d+11) 3 (held (bodyF [fe0,fe1 c])) (dictF [fe0,fe1 c])
  rw[hv]
  exact enP_d2 (d:=d) (E:=6) h0 h1
 ·show cN (d+11) 1514 [dictF [fe0,fe1 c],dictF [fe0,fe1 c]] []=_
  rw[hv,m1514_de,eO (show cN (d+10) 1514 [fe0.v,fe0.v] []=some (.ok (.bool true)) from h0.al _),oS tr_t,nt_t,cnd_f,eO (show cN (d+10) 1514 [(fe1 c).v,(fe1 c).v] []=some (.ok (.bool true)) from h1.al _),oS tr_t,nt_t,cnd_f]
theorem doc2 {c:Int}(hc:I32 c):DocOK [fq c]:=by
 have h0:=fq_ok hc
 have hv:dictF [fq c]=.dict [(S "d",(fq c).v)]:=by kernel_rfl
 have hr:dGet (S "$ref") (putAll [] ([fq c].map Fld.el))=none:=by kernel_rfl
 have hb:(bodyF [fq c]).length≤90:=by
  show ((fq c).oc++[]).length≤90
  rw[List.append_nil,oc_len]
  show 1+(held (bodyF [fe0,fe1 c])).length+2≤90
  rw[held_len,fq_len]; decide
 refine ⟨all1 h0,by simp,hb,hr,⟨by decide,by rw[held_len]; lia,rd_fs (D:=12) (E:=11) (all1 h0) (od rfl) (by lia) hr,fun d=>?_,fun d=>?_⟩,fun d=>?_⟩
 ·rw[hv]; exact enP_d1 (d:=d) (E:=9) h0
 ·rw[hv,m1514_dd,eO (show cN (d+13) 1514 [(fq c).v,(fq c).v] []=some (.ok (.bool true)) from h0.al _),oS tr_t,nt_t,cnd_f]
 ·rw[hv,m1447,eO]
  rw[m1439_2,eO (show cN (d+14) 1431 [.str (S "d"),(fq c).v,.bool false,.obj 262] []=some (.ok (.bytes (fq c).oc)) from h0.elem (E:=9) (d+2)),oS (join1 (by have:=h0.ocl; lia))]
  exact close_m (d:=d+13) (l:=(fq c).oc++[]) (by have:((fq c).oc++[]).length≤90:=hb; lia)
noncomputable abbrev Doc:=List Fld
noncomputable def ocD (f:Doc):List UInt8:=held (bodyF f)
noncomputable def flat:List Doc→List UInt8
 | []=>[]
 | f::r=>ocD f++flat r
noncomputable def avs (ds:List Doc):List AV:=ds.map dictF
def AllD (ds:List Doc):Prop:=∀f∈ds,DocOK f
theorem ocD_len (f:Doc):(ocD f).length=(bodyF f).length+5:=held_len _
theorem AllD.tail {f:Doc}{r:List Doc}(h:AllD (f::r)):AllD r:=fun x hx=>h x (.tail _ hx)
theorem AllD.head {f:Doc}{r:List Doc}(h:AllD (f::r)):DocOK f:=h f (.head _)
theorem flat_le {ds:List Doc}(h:AllD ds):(flat ds).length≤ds.length*95:=by
 induction ds with
 | nil=>exact Nat.zero_le _
 | cons f r ih =>
  have:=ih h.tail
  have:=h.head.sm
  rw[flat,List.length_append,ocD_len,List.length_cons]
  lia
theorem s1231_at {d:Nat}{b:List UInt8}{p:Nat}{f:Doc}(hf:DocOK f)(hb:b.length≤16777216)(h:Has b p (ocD f)):cN (d+20) 1231 [.bytes b,.bytes b,.int (p+4:Nat),.int (p+(bodyF f).length+4:Nat),.obj 262] []=some (.ok (dictF f)):=by
 have h1:Has b (p+4) (bodyF f++[0]):=by have:=h.right; rwa [lL] at this
 have c:=chain_of (d:=d+16) (oe:=p+(bodyF f).length+4) hb f (p+4) (fun g hg=>⟨(hf.fo g hg).nz,(hf.fo g hg).dec,by have:=(hf.fo g hg).rd (d+4); rwa [show d+4+14=d+16+2 from rfl] at this⟩) (by lia) h1.left (by lia)
 exact s1231 c (by rw[List.length_map]; exact hf.few)
theorem zero_at {b:List UInt8}{p:Nat}{f:Doc}(h:Has b p (ocD f)):Has b (p+(bodyF f).length+4) [0]:=by
 have h1:Has b (p+4) (bodyF f++[0]):=by have:=h.right; rwa [lL] at this
 have:=h1.right
 rwa [show p+4+(bodyF f).length=p+(bodyF f).length+4 by lia] at this
theorem Has.self (l:List UInt8):Has l 0 l:=⟨[],by rw[List.drop_zero,List.append_nil],Nat.zero_le _⟩
theorem s1084 {d:Nat}{x:AV}:cN (d+1) 1084 [x] []=some (.ok (.tup [x,x])):=m1084 d x
theorem s1238 {d:Nat}{f:Doc}(hf:DocOK f):cN (d+21) 1238 [.bytes (ocD f),.obj 262] []=some (.ok (dictF f)):=by
 have hs:=hf.sm
 have hl:=ocD_len f
 have z:=zero_at (Has.self (ocD f))
 have g:=s1119 (d:=d+17) (b:=ocD f) (p:=0) (n:=(bodyF f).length+5) (e:=(ocD f).length) ⟨by lia,by lia⟩ (Has.self (ocD f)).left (by rwa [show 0+(bodyF f).length+4=0+((bodyF f).length+5)-1 by lia] at z) (by lia) (by lia) (fun J=>hl.symm)
 have e:=s1231_at (d:=d) (p:=0) hf (by lia) (Has.self (ocD f))
 rw[m1238,eO s1084,onTL_t,decide_eq_true (by rfl),cnd_t,consL_c,consL_c,consL_n,oS len_b,
  eO (show cN (d+20) 1119 [.bytes (ocD f),.int 0,.int ((ocD f).length:Nat)] []=some (.ok (.tup [.int ((bodyF f).length+5:Nat),.int (0+((bodyF f).length+5)-1:Nat)])) from g),onTL_t,decide_eq_true (by rfl),cnd_t,consL_c,consL_c,consL_n,
  show 0+((bodyF f).length+5)-1=0+(bodyF f).length+4 by lia,
  eO (show cN (d+20) 1231 [.bytes (ocD f),.bytes (ocD f),.int 4,.int (0+(bodyF f).length+4:Nat),.obj 262] []=some (.ok (dictF f)) from e)]
theorem s1455 {d:Nat}{f:Doc}(hf:DocOK f):cN (d+22) 1455 [.bytes (ocD f)] []=some (.ok (dictF f)):=by
 rw[m1455,eO (s1238 hf)]
theorem l1462 {R:Type}{d:Nat}{b:List UInt8}{k:KF R}{X:KX R}(hb:b.length≤16777216):∀(r:List Doc) (n p:Nat) (xs:List AV) (s1 s2 s3:Option Slot),AllD r→Has b p (flat r)→p+(flat r).length=b.length→r.length<n→xs.length+r.length≤16777216 →
  ∃s1' s2',whileL (tst 52 (cxF f1462 (d+20)) (whT (nthS (tryB (nthS f1462.body 4)) 0))) (exs 52 (cxF f1462 (d+20)) (whB (nthS (tryB (nthS f1462.body 4)) 0))) n k X
   [pS (.bytes b),pS (.obj 262),pS (.bytes b),pS (.int (b.length:Nat)),some (.own (.list xs)),pS (.int p),s1,s2,s3] =
   k .next [pS (.bytes b),pS (.obj 262),pS (.bytes b),pS (.int (b.length:Nat)),some (.own (.list (xs++avs r))),pS (.int (b.length:Nat)),s1',s2',s3]
 | _,0,_,_,_,_,_=>fun J J J hn J=>absurd hn (Nat.not_lt_zero _)
 | [],n+1,p,xs,s1,s2,s3=>fun ha hh hp hn hs=>by
  have hp:p=b.length:=hp
  refine ⟨s1,s2,?_⟩
  rw[whileL_succ,t1462,decide_eq_false (by lia),ifM_f,ret_eq,hp,show avs []=[] from rfl,List.append_nil]
 | f::r,n+1,p,xs,s1,s2,s3=>fun ha hh hp hn hs=>by
  have hf:Has b p (ocD f):=Has.left (y:=flat r) hh
  have hr:Has b (p+(ocD f).length) (flat r):=Has.right (x:=ocD f) hh
  have hl:=ocD_len f
  have hsm:=ha.head.sm
  rw[flat,List.length_append] at hp
  rw[List.length_cons] at hn hs
  have z:=zero_at hf
  have e:=s1231_at (d:=d) ha.head hb hf
  obtain ⟨s1',s2',e'⟩:=l1462 hb r n (p+(ocD f).length) (xs++[dictF f]) (pS (.int (((bodyF f).length+5:Nat):Int))) (pS (.int (p+(bodyF f).length+4:Nat))) s3 ha.tail hr (by lia) (by lia) (by rw[List.length_append,List.length_singleton]; lia)
  refine ⟨s1',s2',?_⟩
  have e1:(p:Int)+(((bodyF f).length+5:Nat):Int)-1=((p+(bodyF f).length+4:Nat):Int):=by lia
  rw[whileL_succ,t1462,decide_eq_true (by lia),ifM_t,bnd_eq,u1462,decide_eq_false (by lia),cnd_f,eO (s1035 (d:=d+18) ⟨by lia,by lia⟩ hf.left),oS tup0,oS lt_i,decide_eq_false (by lia),cnd_f,oS lt_i,decide_eq_false (by lia),cnd_f,oS add_i,oS sub_i,e1,oS z.item,oS ne_i,
   show (!decide (((0:UInt8).toNat:Int)=0))=false from rfl,cnd_f,
   eO (show cN (d+20) 1231 [.bytes b,.bytes b,.int ((p:Int)+4),.int (p+(bodyF f).length+4:Nat),.obj 262] []=some (.ok (dictF f)) from e),
   show fitL (xs.length+1)=true from decide_eq_true (by lia),cnd_t,oS (show augA .Add (.int (p:Int)) (.int (((bodyF f).length+5:Nat):Int))=some (.int ((p:Int)+(((bodyF f).length+5:Nat):Int))) from rfl)]
  rw[show ((p:Int)+(((bodyF f).length+5:Nat):Int))=((p+(ocD f).length:Nat):Int) by rw[hl]; lia]
  rw[show avs (f::r)=dictF f::avs r from rfl,show xs++dictF f::avs r=(xs++[dictF f])++avs r by simp]
  exact e'
theorem b1462 (d:Nat)(b:List UInt8):cN (d+1) 1462 [.bytes b,.obj 262] []=exs 60 (cxF f1462 d) (f1462.body.take 4++(nthS f1462.body 4::f1462.body.drop 5)) endK exN
 [pS (.bytes b),pS (.obj 262),none,none,none,none,none,none,none]:=by kernel_rfl
theorem x1462 {R:Type}(d:Nat)(k:KF R)(X:KX R)(e:AEnv):exS 55 (cxF f1462 d) (nthS f1462.body 4) k X e=exs 54 (cxF f1462 d) (nthS (tryB (nthS f1462.body 4)) 0::(tryB (nthS f1462.body 4)).drop 1) k (fun J J=>none) e:=by kernel_rfl
theorem y1462 {R:Type}(d:Nat)(k:KF R)(X:KX R)(e:AEnv):exS 53 (cxF f1462 d) (nthS (tryB (nthS f1462.body 4)) 0) k X e=whileL (tst 52 (cxF f1462 d) (whT (nthS (tryB (nthS f1462.body 4)) 0))) (exs 52 (cxF f1462 d) (whB (nthS (tryB (nthS f1462.body 4)) 0))) 100 k X e:=by kernel_rfl
theorem s1462 {d:Nat}{ds:List Doc}(h:AllD ds)(hn:ds.length<100):cN (d+21) 1462 [.bytes (flat ds),.obj 262] []=some (.ok (.list (avs ds))):=by
 have hl:=flat_le h
 rw[b1462,exs_app (m:=55) _ _ _ (by rfl),p1462,eO (s1084 (d:=d+19)),onTL_t,decide_eq_true (by rfl),cnd_t,consL_c,consL_c,consL_n,oS len_b,sN,xS,x1462,xS,y1462]
 obtain ⟨s1',s2',e⟩:=l1462 (R:=Except AX AV) (d:=d) (b:=flat ds) (k:=seqK 53 (cxF f1462 (d+20)) ((tryB (nthS f1462.body 4)).drop 1) (seqK 55 (cxF f1462 (d+20)) (f1462.body.drop 5) endK exN) (fun J J=>none)) (X:=fun J J=>none) (by lia) ds 100 0 [] none none none h (Has.self _) (by lia) hn (by rw[List.length_nil]; lia)
 rw[show (.int 0:AV)=.int ((0:Nat):Int) from rfl,e,sN,v1462,seqK_ret]
 rfl
theorem s1470 {d:Nat}{ds:List Doc}(h:AllD ds)(hn:ds.length<100):cN (d+22) 1470 [.bytes (flat ds)] []=some (.ok (.list (avs ds))):=by
 rw[m1470,eO (s1462 h hn)]
set_option tactic.hygienic true in
theorem gl_succ {C:Ctx}{g:GnA}{n:Nat}{e:AEnv}:gl C g (n+1) e=gd (scalE e) (tst 60 C g.test (fun b e=>match b with
 | false=>some []
 | true=>exs 60 C g.bd (fun fl e=>match fl with
  | .next=>ev 60 C g.ye (fun v e=>ob (gl C g n e) fun r=>some (v::r)) (fun J J=>none) e
  | _=>none) (fun J J=>none) e) (fun J J=>none) e):=rfl
theorem scalE_cons {s:Option Slot}{r:AEnv}(h:scalS s=true):scalE (s::r)=scalE r:=by
 show (match scalS s with|true=>scalE r|false=>false)=_
 rw[h]
theorem scal7 {b:List UInt8}{x y z:AV}(hx:scal x=true)(hy:scal y=true)(hz:scal z=true){s1 s2:Option Slot}(h1:scalS s1=true)(h2:scalS s2=true){w:AV}(hw:scal w=true):scalE [pS (.bytes b),pS w,pS x,pS y,pS z,s1,s2]=true:=by
 rw[scalE_cons (show scalS (pS (.bytes b))=true from rfl),scalE_cons (show scalS (pS w)=true from hw),scalE_cons (show scalS (pS x)=true from hx),scalE_cons (show scalS (pS y)=true from hy),scalE_cons (show scalS (pS z)=true from hz),scalE_cons h1,scalE_cons h2]
 rfl
theorem l1478 {d:Nat}{b:List UInt8}(hb:b.length≤16777216):∀(r:List Doc) (n p:Nat) (s1 s2:Option Slot),AllD r→Has b p (flat r)→p+(flat r).length=b.length→r.length<n→scalS s1=true→scalS s2=true →
  gl (cxG (d+22)) g1478 n [pS (.bytes b),pS .none,pS (.obj 262),pS (.int p),pS (.int ((b.length:Int)-1)),s1,s2]=some (avs r)
 | _,0,_,_,_=>fun J J J hn J J=>absurd hn (Nat.not_lt_zero _)
 | [],n+1,p,s1,s2=>fun ha hh hp hn h1 h2=>by
  have hp:p=b.length:=hp
  rw[gl_succ,scal7 rfl rfl rfl h1 h2 rfl]
  show tst 60 (cxG (d+22)) g1478.test _ _ _=_
  rw[t1478,decide_eq_false (by lia)]
  rfl
 | f::r,n+1,p,s1,s2=>fun ha hh hp hn h1 h2=>by
  have hf:Has b p (ocD f):=Has.left (y:=flat r) hh
  have hr:Has b (p+(ocD f).length) (flat r):=Has.right (x:=ocD f) hh
  have hl:=ocD_len f
  have hsm:=ha.head.sm
  rw[flat,List.length_append] at hp
  rw[List.length_cons] at hn
  have e':=l1478 (d:=d) hb r n (p+(ocD f).length) (pS (.int (((bodyF f).length+5:Nat):Int))) (pS (.bytes (ocD f))) ha.tail hr (by lia) (by lia) rfl rfl
  have hc:cutL b (some (p:Int)) (some (((p+(ocD f).length:Nat)):Int))=ocD f:=hf.cut rfl
  have e1:(p:Int)+(((bodyF f).length+5:Nat):Int)=((p+(ocD f).length:Nat):Int):=by lia
  rw[gl_succ,scal7 rfl rfl rfl h1 h2 rfl]
  show tst 60 (cxG (d+22)) g1478.test _ _ _=_
  rw[t1478,decide_eq_true (by lia)]
  show exs 60 (cxG (d+22)) g1478.bd _ _ _=_
  rw[u1478,eO (s1035 (d:=d+20) ⟨by lia,by lia⟩ hf.left),oS tup0,oS add_i,e1,oS part_i,oS (show augA .Add (.int (p:Int)) (.int (((bodyF f).length+5:Nat):Int))=some (.int ((p:Int)+(((bodyF f).length+5:Nat):Int))) from rfl),e1,hc]
  show ev 60 (cxG (d+22)) g1478.ye _ _ _=_
  rw[e1478,eO (s1238 (d:=d+1) ha.head)]
  show ob (gl (cxG (d+22)) g1478 n _) (fun r=>some (dictF f::r))=_
  rw[e']
  rfl
noncomputable def e0_1478 (b:List UInt8):AEnv:=[pS (.bytes b),pS .none,none,none,none,none,none]
noncomputable def r1478 (d:Nat) (b:List UInt8):Option (List AV):=exs 60 (cxG d) g1478.pre (fun fl e=>match fl with
 | .next=>gl (cxG d) g1478 100 e
 | _=>none) (fun J J=>none) (e0_1478 b)
noncomputable def w1478 (o:Option (List AV)):Option (List AV):=match o with
 | none=>none
 | some r=>match Nat.ble r.length 16777216 with
  | true=>some r
  | false=>none
noncomputable def g1478' (c:Bool) (o:Option (List AV)):Option (List AV):=match c with
 | false=>none
 | true=>o
theorem gen_at (d:Nat)(b:List UInt8):genD TT fnT (d+1) 1478 [.bytes b]=g1478' (scalE (e0_1478 b)) (w1478 (r1478 d b)):=by kernel_rfl
theorem s1478 {d:Nat}{ds:List Doc}(h:AllD ds)(hn:ds.length<100):genD TT fnT (d+23) 1478 [.bytes (flat ds)]=some (avs ds):=by
 have hl:=flat_le h
 have e:=l1478 (d:=d) (b:=flat ds) (by lia) ds 100 0 none none h (Has.self _) (by lia) hn rfl rfl
 have er:r1478 (d+22) (flat ds)=some (avs ds):=by
  unfold r1478 e0_1478
  rw[p1478]
  exact e
 rw[gen_at,er,show scalE (e0_1478 (flat ds))=true from by unfold e0_1478; rw[scalE_cons (show scalS (pS (.bytes (flat ds)))=true from rfl)]; rfl]
 show (match Nat.ble (avs ds).length 16777216 with|true=>some (avs ds)|false=>none)=_
 rw[Nat.ble_eq_true_of_le (by show (ds.map dictF).length≤_; rw[List.length_map]; lia)]
theorem intIt {b:List UInt8}{p:Nat}{x:UInt8}{l:List UInt8}(h:Has b p (x::l)){i:Int}(hi:i=p):itemA (.bytes b) (.int i)=some (.int (x.toNat:Nat)):=by rw[hi]; exact h.item
theorem mul_i {x y:Int}(h:x.natAbs<18446744073709551616):binA .Mult (.int x) (.int y)=some (.int (x*y)):=by
 exact gdT (decide_eq_true h)
theorem le4_sum {n:Nat}(h:n<2147483648){a b c e:UInt8}(hl:le4 (n:Int)=[a,b,c,e]):((a.toNat:Nat):Int)*1+(((b.toNat:Nat):Int)*256+(((c.toNat:Nat):Int)*65536+(((e.toNat:Nat):Int)*16777216+0)))=n:=by
 have hm:=le4_at (n:=(n:Int)) ⟨by lia,by lia⟩
 rw[hl] at hm
 simp only[List.map_cons,List.map_nil,List.cons.injEq,and_true] at hm
 obtain ⟨h1,h2,h3,h4⟩:=hm
 lia
theorem s1483 {d:Nat}{b:List UInt8}{p n:Nat}(hn:n<2147483648)(h:Has b p (le4 (n:Int))):cN (d+1) 1483 [.bytes b,.int p] []=some (.ok (.int n)):=by
 obtain ⟨x,y,z,w,e⟩:=four (lL (n:Int))
 have hs:=le4_sum hn e
 rw[e] at h
 have h1:Has b (p+1) [y,z,w]:=Has.right (x:=[x]) h
 have h2:Has b (p+1+1) [z,w]:=Has.right (x:=[y]) h1
 have h3:Has b (p+1+1+1) [w]:=Has.right (x:=[z]) h2
 have t:∀u:UInt8,(((u.toNat:Nat):Int)).natAbs<18446744073709551616:=fun u=>by have:=u.toNat_lt; lia
 rw[m1483,oS (intIt h (by lia)),oS (mul_i (t _)),oS (intIt h1 (by lia)),oS (mul_i (t _)),oS (intIt h2 (by lia)),oS (mul_i (t _)),oS (intIt h3 (by lia)),oS (mul_i (t _))]
 rw[←hs]
 rfl
noncomputable def bords:Nat→List Doc→List Nat
 | q,[]=>[q]
 | q,f::r=>q::bords (q+(ocD f).length) r
noncomputable def ivs (l:List Nat):List AV:=l.map fun n=>.int (n:Nat)
theorem last_item {xs:List AV}{v:AV}:itemA (.list (xs++[v])) (.int (-1))=some v:=by
 show ob (idxN (-1) (xs++[v]).length) (fun j=>(xs++[v])[j]?)=_
 unfold idxN
 rw[decide_eq_false (show ¬((0:Int)≤-1) by decide)]
 dsimp only
 have hl:(xs++[v]).length=xs.length+1:=by simp
 rw[hl]
 have e2:((-1:Int)+((xs.length+1:Nat):Int))=(xs.length:Nat):=by lia
 rw[decide_eq_true (show (0:Int)≤(-1:Int)+((xs.length+1:Nat):Int) by lia)]
 show (xs++[v])[((-1:Int)+((xs.length+1:Nat):Int)).toNat]?=_
 rw[e2,Int.toNat_natCast]
 simp
theorem l1490 {R:Type}{d:Nat}{b:List UInt8}{k:KF R}{X:KX R}(hb:b.length≤16777216):∀(r:List Doc) (n p:Nat) (xs:List AV),AllD r→Has b p (flat r)→p+(flat r).length=b.length→r.length<n→xs.length+r.length+1≤16777216 →
  whileL (tst 57 (cxF f1490 (d+1)) (whT (nthS f1490.body 1))) (exs 57 (cxF f1490 (d+1)) (whB (nthS f1490.body 1))) n k X
   [pS (.bytes b),some (.own (.list (xs++[.int (p:Nat)])))]=k .next [pS (.bytes b),some (.own (.list (xs++ivs (bords p r))))]
 | _,0,_,_=>fun J J J hn J=>absurd hn (Nat.not_lt_zero _)
 | [],n+1,p,xs=>fun ha hh hp hn hs=>by
  have hp:p=b.length:=hp
  rw[whileL_succ,t1490,oS last_item,oS lt_i,decide_eq_false (by lia),ifM_f,ret_eq]
  rfl
 | f::r,n+1,p,xs=>fun ha hh hp hn hs=>by
  have hf:Has b p (ocD f):=Has.left (y:=flat r) hh
  have hr:Has b (p+(ocD f).length) (flat r):=Has.right (x:=ocD f) hh
  have hl:=ocD_len f
  have hsm:=ha.head.sm
  rw[flat,List.length_append] at hp
  rw[List.length_cons] at hn hs
  have e':=l1490 (d:=d) (k:=k) (X:=X) hb r n (p+(ocD f).length) (xs++[.int (p:Nat)]) ha.tail hr (by lia) (by lia) (by rw[List.length_append,List.length_singleton]; lia)
  have hsz:cN (d+1) 1483 [.bytes b,.int p] []=some (.ok (.int ((ocD f).length:Nat))):=by
   have h0:Has b p (le4 (((ocD f).length:Nat):Int)):=by have:=hf.left; rwa [hl]
   exact s1483 (by lia) h0
  rw[whileL_succ,t1490,oS last_item,oS lt_i,decide_eq_true (by lia),ifM_t,bnd_eq,u1490,oS last_item,oS last_item,eO hsz,oS add_i,
   show fitL ((xs++[AV.int (p:Nat)]).length+1)=true from decide_eq_true (by rw[List.length_append,List.length_singleton]; lia),cnd_t]
  rw[show ((p:Int)+(((ocD f).length:Nat):Int))=((p+(ocD f).length:Nat):Int) from rfl]
  refine Eq.trans e' ?_
  show k .next [_,some (.own (.list (xs++[.int (p:Nat)]++ivs (bords (p+(ocD f).length) r))))]=_
  rw[List.append_assoc]
  rfl
theorem b1490 (d:Nat)(b:List UInt8):cN (d+1) 1490 [.bytes b] []=exs 60 (cxF f1490 d) (f1490.body.take 1++(nthS f1490.body 1::f1490.body.drop 2)) endK exN [pS (.bytes b),none]:=by kernel_rfl
theorem y1490 {R:Type}(d:Nat)(k:KF R)(X:KX R)(e:AEnv):exS 58 (cxF f1490 d) (nthS f1490.body 1) k X e=whileL (tst 57 (cxF f1490 d) (whT (nthS f1490.body 1))) (exs 57 (cxF f1490 d) (whB (nthS f1490.body 1))) 100 k X e:=by kernel_rfl
theorem s1490 {d:Nat}{ds:List Doc}(h:AllD ds)(hn:ds.length<100):cN (d+2) 1490 [.bytes (flat ds)] []=some (.ok (.list (ivs (bords 0 ds)))):=by
 have hl:=flat_le h
 rw[b1490,exs_app (m:=58) _ _ _ (by rfl),p1490,sN,xS,y1490]
 have e:=l1490 (R:=Except AX AV) (d:=d) (b:=flat ds) (k:=seqK 58 (cxF f1490 (d+1)) (f1490.body.drop 2) endK exN) (X:=exN) (by lia) ds 100 0 [] h (Has.self _) (by lia) hn (by rw[List.length_nil]; lia)
 rw[List.nil_append,List.nil_append] at e
 rw[show (.int 0:AV)=.int ((0:Nat):Int) from rfl,e,sN,v1490]
noncomputable def ifT:Stmt→PySem.Expr
 | .If t _ _ _=>t
 | _=>.Constant .none 0 default
noncomputable def ifB:Stmt→List Stmt
 | .If _ b _ _=>b
 | _=>[]
noncomputable def ifE:Stmt→List Stmt
 | .If _ _ e _=>e
 | _=>[]
end
noncomputable def fb:List Stmt:=(forB (nthS f1519.body 2))
noncomputable def cc0:Stmt:=nthS fb 5
noncomputable def cc1:Stmt:=nthS (ifE cc0) 0
noncomputable def cc2:Stmt:=nthS (ifE cc1) 0
noncomputable def cc3:Stmt:=nthS (ifE cc2) 0
noncomputable def cc4:Stmt:=nthS (ifE cc3) 0
noncomputable def cc5:Stmt:=nthS (ifE cc4) 0
noncomputable def cc6:Stmt:=nthS (ifE cc5) 0
theorem m1509 (d:Nat) (n:Int):cN (d+1) 1509 [.int n] []=(cnd (decide ((Int.fmod n 4)=0)) (okE (cN d 1495 [(.int ((Int.fmod (Int.fdiv n 4) 4294967296)-2147483648)),(.int 4)] []) (fun v0=>obO (binA .Add (.bytes [16,110,0]) v0) fun v1=>obO (binA .Add v1 (.bytes [2,116,0])) fun v2=>okE (cN d 1495 [(.int ((3*(Int.fmod (Int.fdiv n 4) 5))+1)),(.int 4)] []) (fun v3=>obO (binA .Add v2 v3) fun v4=>obO (binA .Mult (.bytes [226,130,172]) (.int (Int.fmod (Int.fdiv n 4) 5))) fun v5=>obO (binA .Add v4 v5) fun v6=>obO (binA .Add v6 (.bytes [0])) fun v7=>obO (binA .Mult (.str (⟨#[8364]⟩:Str)) (.int (Int.fmod (Int.fdiv n 4) 5))) fun v8=>okE (cN d 1502 [v7] []) (fun v9=>some (.ok (.tup [(.dict [((S "n"),(.int ((Int.fmod (Int.fdiv n 4) 4294967296)-2147483648))),((S "t"),v8)]),(.dict [((S "n"),(.int ((Int.fmod (Int.fdiv n 4) 4294967296)-2147483648))),((S "t"),v8)]),v9]))) (fun u0=>some (.error u0))) (fun u0=>some (.error u0))) (fun u0=>some (.error u0))) (cnd (decide ((Int.fmod n 4)=1)) (okE (cN d 1502 [(.bytes [])] []) (fun v0=>some (.ok (.tup [(.dict []),(.dict []),v0]))) (fun u0=>some (.error u0))) (cnd (decide ((Int.fmod n 4)=2)) (okE (cN d 1495 [(.int (Int.fmod (Int.fdiv n 4) 100)),(.int 4)] []) (fun v0=>obO (binA .Add (.bytes [16,48,0]) v0) fun v1=>obO (binA .Add v1 (.bytes [4,49,0])) fun v2=>okE (cN d 1502 [(.bytes [10,48,0,8,49,0,1])] []) (fun v3=>obO (binA .Add v2 v3) fun v4=>obO (binA .Add v4 (.bytes [3,50,0])) fun v5=>okE (cN d 1502 [(.bytes [2,0,3,0,0,0,120,0,0])] []) (fun v6=>obO (binA .Add v5 v6) fun v7=>okE (cN d 1502 [(.bytes [])] []) (fun v8=>obO (binA .Add (.bytes [3,101,0]) v8) fun v9=>obO (binA .Add v9 (.bytes [4,108,0])) fun v10=>okE (cN d 1502 [v7] []) (fun v11=>obO (binA .Add v10 v11) fun v12=>okE (cN d 1502 [v12] []) (fun v13=>obO (binA .Add (.bytes [3,100,0]) v13) fun v14=>okE (cN d 1502 [v14] []) (fun v15=>some (.ok (.tup [(.dict [((S "d"),(.dict [((S "e"),(.dict [])),((S "l"),(.list [(.int (Int.fmod (Int.fdiv n 4) 100)),(.list [.none,(.bool true)]),(.dict [((S ""),(.str (⟨#[120,0]⟩:Str)))])]))]))]),(.dict [((S "d"),(.dict [((S "e"),(.dict [])),((S "l"),(.list [(.int (Int.fmod (Int.fdiv n 4) 100)),(.list [.none,(.bool true)]),(.dict [((S ""),(.str (⟨#[120,0]⟩:Str)))])]))]))]),v15]))) (fun u0=>some (.error u0))) (fun u0=>some (.error u0))) (fun u0=>some (.error u0))) (fun u0=>some (.error u0))) (fun u0=>some (.error u0))) (fun u0=>some (.error u0))) (fun u0=>some (.error u0))) (okE (cN d 1495 [(.int (Int.fmod (Int.fdiv n 4) 7)),(.int 4)] []) (fun v0=>obO (binA .Add (.bytes [16,95,105,100,0]) v0) fun v1=>obO (binA .Add v1 (.bytes [5,111,0])) fun v2=>okE (cN d 1495 [(.int (Int.fmod (Int.fdiv n 4) 9)),(.int 4)] []) (fun v3=>obO (binA .Add v2 v3) fun v4=>obO (binA .Add v4 (.bytes [0])) fun v5=>okE (cN d 1495 [(.int (Int.fmod (Int.fdiv n 4) 256)),(.int 1)] []) (fun v6=>obO (binA .Mult v6 (.int (Int.fmod (Int.fdiv n 4) 9))) fun v7=>obO (binA .Add v5 v7) fun v8=>obO (binA .Mult (.list [(.int (Int.fmod (Int.fdiv n 4) 256))]) (.int (Int.fmod (Int.fdiv n 4) 9))) fun v9=>obO (callB cx .bytes [v9]) fun v10=>okE (cN d 1502 [v8] []) (fun v11=>some (.ok (.tup [(.dict [((S "o"),v10),((S "_id"),(.int (Int.fmod (Int.fdiv n 4) 7)))]),(.dict [((S "_id"),(.int (Int.fmod (Int.fdiv n 4) 7))),((S "o"),v10)]),v11]))) (fun u0=>some (.error u0))) (fun u0=>some (.error u0))) (fun u0=>some (.error u0))) (fun u0=>some (.error u0)))))):=by kernel_rfl
theorem m1495_4 (d:Nat)(n:Int):cN (d+1) 1495 [.int n,.int 4] []=(obO (callB cx .bytes [(.list [(.int (Int.fmod (Int.fdiv n 1) 256)),(.int (Int.fmod (Int.fdiv n 256) 256)),(.int (Int.fmod (Int.fdiv n 65536) 256)),(.int (Int.fmod (Int.fdiv n 16777216) 256))])]) fun v0=>some (.ok v0)):=by kernel_rfl
theorem p1519 (R:Type)(d:Nat)(l:List AV)(k:KF R)(X:KX R):(exs 60 (cxF f1519 d) (f1519.body.take 2)) k X [pS (.list l),none,none,none,none,none,none,none,none,none,none,none,none,none,none,none,none,none,none,none,none]=((k .next [(pS (.list l)),(pS (.bytes [])),(pS (.list [])),(pS (.list (cutL l none (some 8)))),none,none,none,none,none,none,none,none,none,none,none,none,none,none,none,none,none])):=by kernel_rfl
theorem a1519 (R:Type)(d:Nat)(s0 s1 s2 s3 s4 s5 s6 s7 s8 s9 s10 s11 s12 s13 s14 s15 s16 s17 s18 s19 s20:Option Slot)(q:AV)(k:Unit→AEnv→Option R)(X:KX R):(asg (cxF f1519 d) (forT (nthS f1519.body 2)) q) k X [s0,s1,s2,s3,s4,s5,s6,s7,s8,s9,s10,s11,s12,s13,s14,s15,s16,s17,s18,s19,s20]=((k Unit.unit [s0,s1,s2,s3,(pS q),s5,s6,s7,s8,s9,s10,s11,s12,s13,s14,s15,s16,s17,s18,s19,s20])):=by kernel_rfl
set_option tactic.hygienic true in
theorem f0 (R:Type)(d:Nat)(s0 s1 s2 s5 s6 s7 s8 s9 s10 s11 s12 s13 s14 s15 s16 s17 s18 s19 s20:Option Slot)(t:Int)(ns:List AV)(k:KF R)(X:KX R):(exS 55 (cxF f1519 d) (nthS fb 0)) k X [s0,s1,s2,pS (.list ns),pS (.int t),s5,s6,s7,s8,s9,s10,s11,s12,s13,s14,s15,s16,s17,s18,s19,s20]=(obO (binA .Add (.list (cutL ns (some t) (some (t+2)))) (.list [(.int 0)])) fun v0=>obO (sliceA v0 none (some 2)) fun v1=>onTL v1 fun t0=>cnd (decide (2=(List.length t0))) (consL t0 (none) (fun u0 w0=>consL w0 (none) (fun u1 w1=>consL w1 ((k .next [s0,s1,s2,(pS (.list ns)),(pS (.int t)),(pS u0),(pS u1),s7,s8,s9,s10,s11,s12,s13,s14,s15,s16,s17,s18,s19,s20])) (fun u2 w2=>none)))) (none)):=by kernel_rfl
set_option tactic.hygienic true in
theorem f1 (R:Type)(d:Nat)(s0 s2 s3 s4 s5 s6 s7 s8 s9 s10 s11 s12 s13 s14 s15 s16 s17 s18 s19 s20:Option Slot)(b:AV)(k:KF R)(X:KX R):(exS 54 (cxF f1519 d) (nthS fb 1)) k X [s0,pS b,s2,s3,s4,s5,s6,s7,s8,s9,s10,s11,s12,s13,s14,s15,s16,s17,s18,s19,s20]=(okE (cN d 1490 [b] []) (fun v0=>(k .next [s0,(pS b),s2,s3,s4,s5,s6,(pS v0),s8,s9,s10,s11,s12,s13,s14,s15,s16,s17,s18,s19,s20])) (fun u0=>(X u0 [s0,(pS b),s2,s3,s4,s5,s6,s7,s8,s9,s10,s11,s12,s13,s14,s15,s16,s17,s18,s19,s20]))):=by kernel_rfl
theorem f2 (R:Type)(d:Nat)(s0 s1 s3 s4 s6 s7 s8 s9 s10 s11 s12 s13 s14 s15 s16 s17 s18 s19 s20:Option Slot)(x:Int)(row:List AV)(k:KF R)(X:KX R):(exS 53 (cxF f1519 d) (nthS fb 2)) k X [s0,s1,pS (.list row),s3,s4,pS (.int x),s6,s7,s8,s9,s10,s11,s12,s13,s14,s15,s16,s17,s18,s19,s20]=((k .next [s0,s1,(pS (.list row)),s3,s4,(pS (.int x)),s6,s7,(pS (.int (Int.fmod x 7))),(pS (.int (Int.fmod (Int.fdiv x 7) ((((List.length row):Nat):Int)+1)))),s10,s11,s12,s13,s14,s15,s16,s17,s18,s19,s20])):=by kernel_rfl
theorem f3 (R:Type)(d:Nat)(s0 s1 s2 s3 s4 s5 s6 s8 s10 s11 s12 s13 s14 s15 s16 s17 s18 s19 s20:Option Slot)(bs:List AV)(kk:Int)(k:KF R)(X:KX R):(exS 52 (cxF f1519 d) (nthS fb 3)) k X [s0,s1,s2,s3,s4,s5,s6,pS (.list bs),s8,pS (.int kk),s10,s11,s12,s13,s14,s15,s16,s17,s18,s19,s20]=(obO (itemA (.list bs) (.int kk)) fun v0=>(k .next [s0,s1,s2,s3,s4,s5,s6,(pS (.list bs)),s8,(pS (.int kk)),(pS v0),s11,s12,s13,s14,s15,s16,s17,s18,s19,s20])):=by kernel_rfl
theorem f4 (R:Type)(d:Nat)(s0 s3 s4 s5 s8 s10 s11 s12 s13 s14 s15 s16 s17 s18 s19 s20:Option Slot)(bs row:List AV)(b:List UInt8)(kk y:Int)(k:KF R)(X:KX R):(exS 51 (cxF f1519 d) (nthS fb 4)) k X [s0,pS (.bytes b),pS (.list row),s3,s4,s5,pS (.int y),pS (.list bs),s8,pS (.int kk),s10,s11,s12,s13,s14,s15,s16,s17,s18,s19,s20]=(cnd (decide (kk<(((List.length row):Nat):Int))) (obO (binA .Mod (.int y) (.int (((List.length row):Nat):Int))) fun v0=>obO (itemA (.list bs) v0) fun v1=>obO (partA v1) fun v2=>obO (binA .Add v0 (.int 1)) fun v3=>obO (itemA (.list bs) v3) fun v4=>obO (partA v4) fun v5=>(k .next [s0,(pS (.bytes b)),(pS (.list row)),s3,s4,s5,(pS (.int y)),(pS (.list bs)),s8,(pS (.int kk)),s10,(pS v0),(pS (.bytes (cutL b v2 v5))),s13,s14,s15,s16,s17,s18,s19,s20])) ((k .next [s0,(pS (.bytes b)),(pS (.list row)),s3,s4,s5,(pS (.int y)),(pS (.list bs)),s8,(pS (.int kk)),s10,s11,s12,s13,s14,s15,s16,s17,s18,s19,s20]))):=by kernel_rfl
theorem g0 (R:Type)(d:Nat)(s0 s1 s3 s4 s5 s6 s7 s10 s11 s12 s13 s14 s15 s16 s17 s18 s19 s20:Option Slot)(row:List AV)(dd kk:Int)(k:Bool→AEnv→Option R)(X:KX R):(tst 49 (cxF f1519 d) (ifT cc0)) k X [s0,s1,pS (.list row),s3,s4,s5,s6,s7,pS (.int dd),pS (.int kk),s10,s11,s12,s13,s14,s15,s16,s17,s18,s19,s20]=(cnd (decide (dd=0)) ((k true [s0,s1,(pS (.list row)),s3,s4,s5,s6,s7,(pS (.int dd)),(pS (.int kk)),s10,s11,s12,s13,s14,s15,s16,s17,s18,s19,s20])) (cnd (decide (kk=(((List.length row):Nat):Int))) (cnd (Bool.not (decide (dd=3))) ((k true [s0,s1,(pS (.list row)),s3,s4,s5,s6,s7,(pS (.int dd)),(pS (.int kk)),s10,s11,s12,s13,s14,s15,s16,s17,s18,s19,s20])) ((k false [s0,s1,(pS (.list row)),s3,s4,s5,s6,s7,(pS (.int dd)),(pS (.int kk)),s10,s11,s12,s13,s14,s15,s16,s17,s18,s19,s20]))) ((k false [s0,s1,(pS (.list row)),s3,s4,s5,s6,s7,(pS (.int dd)),(pS (.int kk)),s10,s11,s12,s13,s14,s15,s16,s17,s18,s19,s20])))):=by kernel_rfl
theorem g1 (R:Type)(d:Nat)(s0 s1 s2 s3 s4 s5 s6 s7 s9 s10 s11 s12 s13 s14 s15 s16 s17 s18 s19 s20:Option Slot)(dd:Int)(k:Bool→AEnv→Option R)(X:KX R):(tst 47 (cxF f1519 d) (ifT cc1)) k X [s0,s1,s2,s3,s4,s5,s6,s7,pS (.int dd),s9,s10,s11,s12,s13,s14,s15,s16,s17,s18,s19,s20]=((k (decide (dd=1)) [s0,s1,s2,s3,s4,s5,s6,s7,(pS (.int dd)),s9,s10,s11,s12,s13,s14,s15,s16,s17,s18,s19,s20])):=by kernel_rfl
theorem g2 (R:Type)(d:Nat)(s0 s1 s2 s3 s4 s5 s6 s7 s10 s12 s13 s14 s15 s16 s17 s18 s19 s20:Option Slot)(dd kk oo:Int)(k:Bool→AEnv→Option R)(X:KX R):(tst 45 (cxF f1519 d) (ifT cc2)) k X [s0,s1,s2,s3,s4,s5,s6,s7,pS (.int dd),pS (.int kk),s10,pS (.int oo),s12,s13,s14,s15,s16,s17,s18,s19,s20]=(cnd (decide (dd=2)) (cnd (Bool.not (decide (kk=oo))) ((k true [s0,s1,s2,s3,s4,s5,s6,s7,(pS (.int dd)),(pS (.int kk)),s10,(pS (.int oo)),s12,s13,s14,s15,s16,s17,s18,s19,s20])) ((k false [s0,s1,s2,s3,s4,s5,s6,s7,(pS (.int dd)),(pS (.int kk)),s10,(pS (.int oo)),s12,s13,s14,s15,s16,s17,s18,s19,s20]))) ((k false [s0,s1,s2,s3,s4,s5,s6,s7,(pS (.int dd)),(pS (.int kk)),s10,(pS (.int oo)),s12,s13,s14,s15,s16,s17,s18,s19,s20]))):=by kernel_rfl
theorem g3 (R:Type)(d:Nat)(s0 s1 s2 s3 s4 s5 s6 s7 s9 s10 s11 s12 s13 s14 s15 s16 s17 s18 s19 s20:Option Slot)(dd:Int)(k:Bool→AEnv→Option R)(X:KX R):(tst 43 (cxF f1519 d) (ifT cc3)) k X [s0,s1,s2,s3,s4,s5,s6,s7,pS (.int dd),s9,s10,s11,s12,s13,s14,s15,s16,s17,s18,s19,s20]=((k (decide (dd=3)) [s0,s1,s2,s3,s4,s5,s6,s7,(pS (.int dd)),s9,s10,s11,s12,s13,s14,s15,s16,s17,s18,s19,s20])):=by kernel_rfl
theorem g4 (R:Type)(d:Nat)(s0 s1 s2 s3 s4 s5 s6 s7 s9 s10 s11 s12 s13 s14 s15 s16 s17 s18 s19 s20:Option Slot)(dd:Int)(k:Bool→AEnv→Option R)(X:KX R):(tst 41 (cxF f1519 d) (ifT cc4)) k X [s0,s1,s2,s3,s4,s5,s6,s7,pS (.int dd),s9,s10,s11,s12,s13,s14,s15,s16,s17,s18,s19,s20]=((k (decide (dd=4)) [s0,s1,s2,s3,s4,s5,s6,s7,(pS (.int dd)),s9,s10,s11,s12,s13,s14,s15,s16,s17,s18,s19,s20])):=by kernel_rfl
theorem g5 (R:Type)(d:Nat)(s0 s1 s2 s3 s4 s5 s6 s7 s9 s10 s11 s12 s13 s14 s15 s16 s17 s18 s19 s20:Option Slot)(dd:Int)(k:Bool→AEnv→Option R)(X:KX R):(tst 39 (cxF f1519 d) (ifT cc5)) k X [s0,s1,s2,s3,s4,s5,s6,s7,pS (.int dd),s9,s10,s11,s12,s13,s14,s15,s16,s17,s18,s19,s20]=((k (decide (dd=5)) [s0,s1,s2,s3,s4,s5,s6,s7,(pS (.int dd)),s9,s10,s11,s12,s13,s14,s15,s16,s17,s18,s19,s20])):=by kernel_rfl
theorem g6 (R:Type)(d:Nat)(s0 s1 s2 s3 s4 s5 s6 s7 s9 s10 s11 s12 s13 s14 s15 s16 s17 s18 s19 s20:Option Slot)(dd:Int)(k:Bool→AEnv→Option R)(X:KX R):(tst 37 (cxF f1519 d) (ifT cc6)) k X [s0,s1,s2,s3,s4,s5,s6,s7,pS (.int dd),s9,s10,s11,s12,s13,s14,s15,s16,s17,s18,s19,s20]=((k (decide (dd=6)) [s0,s1,s2,s3,s4,s5,s6,s7,(pS (.int dd)),s9,s10,s11,s12,s13,s14,s15,s16,s17,s18,s19,s20])):=by kernel_rfl
set_option tactic.hygienic true in
theorem h0 (R:Type)(d:Nat)(s0 s3 s4 s5 s7 s8 s11 s12 s13 s14 s15 s16 s17 s18 s19 s20:Option Slot)(b:List UInt8)(row:List AV)(yy aa kk:Int)(k:KF R)(X:KX R):(exs 49 (cxF f1519 d) (ifB cc0)) k X [s0,pS (.bytes b),pS (.list row),s3,s4,s5,pS (.int yy),s7,s8,pS (.int kk),pS (.int aa),s11,s12,s13,s14,s15,s16,s17,s18,s19,s20]=(okE (cN d 1509 [(.int yy)] []) (fun v0=>onTL v0 fun t0=>cnd (decide (3=(List.length t0))) (consL t0 (none) (fun u0 w0=>consL w0 (none) (fun u1 w1=>consL w1 (none) (fun u2 w2=>consL w2 (okE (cN d 1447 [u0] []) (fun v1=>obO (cmpA .NotEq v1 u2) fun v2=>cnd v2 ((k (.ret (.bool false)) [s0,(pS (.bytes b)),(pS (.list row)),s3,s4,s5,(pS (.int yy)),s7,s8,(pS (.int kk)),(pS (.int aa)),s11,s12,(pS u0),(pS u1),(pS u2),s16,s17,s18,s19,s20])) (obO (binA .Add (.bytes (cutL b none (some aa))) u2) fun v3=>obO (binA .Add v3 (.bytes (cutL b (some aa) none))) fun v4=>obO (binA .Add (.list (cutL row none (some kk))) (.list [u1])) fun v5=>obO (binA .Add v5 (.list (cutL row (some kk) none))) fun v6=>(k .next [s0,(pS v4),(pS v6),s3,s4,s5,(pS (.int yy)),s7,s8,(pS (.int kk)),(pS (.int aa)),s11,s12,(pS u0),(pS u1),(pS u2),s16,s17,s18,s19,s20]))) (fun u3=>(X u3 [s0,(pS (.bytes b)),(pS (.list row)),s3,s4,s5,(pS (.int yy)),s7,s8,(pS (.int kk)),(pS (.int aa)),s11,s12,(pS u0),(pS u1),(pS u2),s16,s17,s18,s19,s20]))) (fun u3 w3=>none))))) (none)) (fun u0=>(X u0 [s0,(pS (.bytes b)),(pS (.list row)),s3,s4,s5,(pS (.int yy)),s7,s8,(pS (.int kk)),(pS (.int aa)),s11,s12,s13,s14,s15,s16,s17,s18,s19,s20]))):=by kernel_rfl
theorem h1 (R:Type)(d:Nat)(s0 s3 s4 s5 s6 s8 s11 s12 s13 s14 s15 s16 s17 s18 s19 s20:Option Slot)(b:List UInt8)(row bs:List AV)(aa kk:Int)(k:KF R)(X:KX R):(exs 47 (cxF f1519 d) (ifB cc1)) k X [s0,pS (.bytes b),pS (.list row),s3,s4,s5,s6,pS (.list bs),s8,pS (.int kk),pS (.int aa),s11,s12,s13,s14,s15,s16,s17,s18,s19,s20]=(obO (itemA (.list bs) (.int (kk+1))) fun v0=>obO (partA v0) fun v1=>obO (binA .Add (.bytes (cutL b none (some aa))) (.bytes (cutL b v1 none))) fun v2=>obO (binA .Add (.list (cutL row none (some kk))) (.list (cutL row (some (kk+1)) none))) fun v3=>(k .next [s0,(pS v2),(pS v3),s3,s4,s5,s6,(pS (.list bs)),s8,(pS (.int kk)),(pS (.int aa)),s11,s12,s13,s14,s15,s16,s17,s18,s19,s20])):=by kernel_rfl
theorem h3 (R:Type)(d:Nat)(s0 s3 s4 s5 s6 s7 s8 s11 s12 s13 s14 s15 s16 s17 s18 s19 s20:Option Slot)(b:List UInt8)(row:List AV)(aa kk:Int)(k:KF R)(X:KX R):(exs 43 (cxF f1519 d) (ifB cc3)) k X [s0,pS (.bytes b),pS (.list row),s3,s4,s5,s6,s7,s8,pS (.int kk),pS (.int aa),s11,s12,s13,s14,s15,s16,s17,s18,s19,s20]=(obO (binA .Add (.bytes (cutL b (some aa) none)) (.bytes (cutL b none (some aa)))) fun v0=>obO (binA .Add (.list (cutL row (some kk) none)) (.list (cutL row none (some kk)))) fun v1=>(k .next [s0,(pS v0),(pS v1),s3,s4,s5,s6,s7,s8,(pS (.int kk)),(pS (.int aa)),s11,s12,s13,s14,s15,s16,s17,s18,s19,s20])):=by kernel_rfl
theorem h4 (R:Type)(d:Nat)(s0 s3 s4 s5 s6 s7 s8 s13 s14 s15 s16 s17 s18 s19 s20:Option Slot)(b tt:List UInt8)(row:List AV)(aa kk oo:Int)(k:KF R)(X:KX R):(exs 41 (cxF f1519 d) (ifB cc4)) k X [s0,pS (.bytes b),pS (.list row),s3,s4,s5,s6,s7,s8,pS (.int kk),pS (.int aa),pS (.int oo),pS (.bytes tt),s13,s14,s15,s16,s17,s18,s19,s20]=(obO (binA .Add (.bytes (cutL b none (some aa))) (.bytes tt)) fun v0=>obO (binA .Add v0 (.bytes (cutL b (some aa) none))) fun v1=>obO (itemA (.list row) (.int oo)) fun v2=>obO (binA .Add (.list (cutL row none (some kk))) (.list [v2])) fun v3=>obO (binA .Add v3 (.list (cutL row (some kk) none))) fun v4=>(k .next [s0,(pS v1),(pS v4),s3,s4,s5,s6,s7,s8,(pS (.int kk)),(pS (.int aa)),(pS (.int oo)),(pS (.bytes tt)),s13,s14,s15,s16,s17,s18,s19,s20])):=by kernel_rfl
theorem h5 (R:Type)(d:Nat)(s0 s3 s4 s5 s6 s8 s13 s14 s15 s16 s17 s18 s19 s20:Option Slot)(b tt:List UInt8)(row bs:List AV)(aa kk oo:Int)(k:KF R)(X:KX R):(exs 39 (cxF f1519 d) (ifB cc5)) k X [s0,pS (.bytes b),pS (.list row),s3,s4,s5,s6,pS (.list bs),s8,pS (.int kk),pS (.int aa),pS (.int oo),pS (.bytes tt),s13,s14,s15,s16,s17,s18,s19,s20]=(obO (binA .Add (.bytes (cutL b none (some aa))) (.bytes tt)) fun v0=>obO (itemA (.list bs) (.int (kk+1))) fun v1=>obO (partA v1) fun v2=>obO (binA .Add v0 (.bytes (cutL b v2 none))) fun v3=>obO (itemA (.list row) (.int oo)) fun v4=>obO (binA .Add (.list (cutL row none (some kk))) (.list [v4])) fun v5=>obO (binA .Add v5 (.list (cutL row (some (kk+1)) none))) fun v6=>(k .next [s0,(pS v3),(pS v6),s3,s4,s5,s6,(pS (.list bs)),s8,(pS (.int kk)),(pS (.int aa)),(pS (.int oo)),(pS (.bytes tt)),s13,s14,s15,s16,s17,s18,s19,s20])):=by kernel_rfl
theorem h2p (R:Type)(d:Nat)(s0 s1 s2 s3 s4 s5 s6 s7 s8 s10 s12 s13 s14 s15 s16 s17 s18 s19 s20:Option Slot)(kk oo:Int)(k:KF R)(X:KX R):(exS 44 (cxF f1519 d) (nthS (ifB cc2) 0)) k X [s0,s1,s2,s3,s4,s5,s6,s7,s8,pS (.int kk),s10,pS (.int oo),s12,s13,s14,s15,s16,s17,s18,s19,s20]=((k .next [s0,s1,s2,s3,s4,s5,s6,s7,s8,(pS (.int kk)),s10,(pS (.int oo)),s12,s13,s14,s15,(pS (.int (ite (oo<kk) oo kk))),(pS (.int (ite (GT.gt oo kk) oo kk))),s18,s19,s20])):=by kernel_rfl
theorem h2_2_0_1 (R:Type)(d:Nat)(s0 s3 s4 s5 s6 s8 s9 s10 s11 s12 s13 s14 s15 s18 s19 s20:Option Slot)(b:List UInt8)(x0 x1:AV)(p0 p1 p2:Int)(k:KF R)(X:KX R):(exs 44 (cxF f1519 d) ((ifB cc2).drop 1)) k X [s0,pS (.bytes b),pS (.list [x0,x1]),s3,s4,s5,s6,pS (.list [.int p0,.int p1,.int p2]),s8,s9,s10,s11,s12,s13,s14,s15,pS (.int 0),pS (.int 1),s18,s19,s20]=(obO (binA .Add (.bytes (cutL b none (some p0))) (.bytes (cutL b (some p1) (some p2)))) fun v0=>obO (binA .Add v0 (.bytes (cutL b (some p1) (some p1)))) fun v1=>obO (binA .Add v1 (.bytes (cutL b (some p0) (some p1)))) fun v2=>obO (binA .Add v2 (.bytes (cutL b (some p2) none))) fun v3=>(k .next [s0,(pS v3),(pS (.list [x1,x0])),s3,s4,s5,s6,(pS (.list [(.int p0),(.int p1),(.int p2)])),s8,s9,s10,s11,s12,s13,s14,s15,(pS (.int 0)),(pS (.int 1)),(pS (.list [(.bytes (cutL b (some p0) (some p1))),(.bytes (cutL b (some p1) (some p2)))])),s19,s20])):=by kernel_rfl
theorem h2_3_0_1 (R:Type)(d:Nat)(s0 s3 s4 s5 s6 s8 s9 s10 s11 s12 s13 s14 s15 s18 s19 s20:Option Slot)(b:List UInt8)(x0 x1 x2:AV)(p0 p1 p2 p3:Int)(k:KF R)(X:KX R):(exs 44 (cxF f1519 d) ((ifB cc2).drop 1)) k X [s0,pS (.bytes b),pS (.list [x0,x1,x2]),s3,s4,s5,s6,pS (.list [.int p0,.int p1,.int p2,.int p3]),s8,s9,s10,s11,s12,s13,s14,s15,pS (.int 0),pS (.int 1),s18,s19,s20]=(obO (binA .Add (.bytes (cutL b none (some p0))) (.bytes (cutL b (some p1) (some p2)))) fun v0=>obO (binA .Add v0 (.bytes (cutL b (some p1) (some p1)))) fun v1=>obO (binA .Add v1 (.bytes (cutL b (some p0) (some p1)))) fun v2=>obO (binA .Add v2 (.bytes (cutL b (some p2) none))) fun v3=>(k .next [s0,(pS v3),(pS (.list [x1,x0,x2])),s3,s4,s5,s6,(pS (.list [(.int p0),(.int p1),(.int p2),(.int p3)])),s8,s9,s10,s11,s12,s13,s14,s15,(pS (.int 0)),(pS (.int 1)),(pS (.list [(.bytes (cutL b (some p0) (some p1))),(.bytes (cutL b (some p1) (some p2))),(.bytes (cutL b (some p2) (some p3)))])),s19,s20])):=by kernel_rfl
theorem h2_3_0_2 (R:Type)(d:Nat)(s0 s3 s4 s5 s6 s8 s9 s10 s11 s12 s13 s14 s15 s18 s19 s20:Option Slot)(b:List UInt8)(x0 x1 x2:AV)(p0 p1 p2 p3:Int)(k:KF R)(X:KX R):(exs 44 (cxF f1519 d) ((ifB cc2).drop 1)) k X [s0,pS (.bytes b),pS (.list [x0,x1,x2]),s3,s4,s5,s6,pS (.list [.int p0,.int p1,.int p2,.int p3]),s8,s9,s10,s11,s12,s13,s14,s15,pS (.int 0),pS (.int 2),s18,s19,s20]=(obO (binA .Add (.bytes (cutL b none (some p0))) (.bytes (cutL b (some p2) (some p3)))) fun v0=>obO (binA .Add v0 (.bytes (cutL b (some p1) (some p2)))) fun v1=>obO (binA .Add v1 (.bytes (cutL b (some p0) (some p1)))) fun v2=>obO (binA .Add v2 (.bytes (cutL b (some p3) none))) fun v3=>(k .next [s0,(pS v3),(pS (.list [x2,x1,x0])),s3,s4,s5,s6,(pS (.list [(.int p0),(.int p1),(.int p2),(.int p3)])),s8,s9,s10,s11,s12,s13,s14,s15,(pS (.int 0)),(pS (.int 2)),(pS (.list [(.bytes (cutL b (some p0) (some p1))),(.bytes (cutL b (some p1) (some p2))),(.bytes (cutL b (some p2) (some p3)))])),s19,s20])):=by kernel_rfl
theorem h2_3_1_2 (R:Type)(d:Nat)(s0 s3 s4 s5 s6 s8 s9 s10 s11 s12 s13 s14 s15 s18 s19 s20:Option Slot)(b:List UInt8)(x0 x1 x2:AV)(p0 p1 p2 p3:Int)(k:KF R)(X:KX R):(exs 44 (cxF f1519 d) ((ifB cc2).drop 1)) k X [s0,pS (.bytes b),pS (.list [x0,x1,x2]),s3,s4,s5,s6,pS (.list [.int p0,.int p1,.int p2,.int p3]),s8,s9,s10,s11,s12,s13,s14,s15,pS (.int 1),pS (.int 2),s18,s19,s20]=(obO (binA .Add (.bytes (cutL b none (some p1))) (.bytes (cutL b (some p2) (some p3)))) fun v0=>obO (binA .Add v0 (.bytes (cutL b (some p2) (some p2)))) fun v1=>obO (binA .Add v1 (.bytes (cutL b (some p1) (some p2)))) fun v2=>obO (binA .Add v2 (.bytes (cutL b (some p3) none))) fun v3=>(k .next [s0,(pS v3),(pS (.list [x0,x2,x1])),s3,s4,s5,s6,(pS (.list [(.int p0),(.int p1),(.int p2),(.int p3)])),s8,s9,s10,s11,s12,s13,s14,s15,(pS (.int 1)),(pS (.int 2)),(pS (.list [(.bytes (cutL b (some p0) (some p1))),(.bytes (cutL b (some p1) (some p2))),(.bytes (cutL b (some p2) (some p3)))])),s19,s20])):=by kernel_rfl
set_option tactic.hygienic true in
theorem h6a (R:Type) (d:Nat) (s0 s3 s4 s5 s6 s7 s8 s9 s10 s11 s12 s13 s14 s15 s16 s17 s18 s19 s20:Option Slot) (b:List UInt8) (row:List AV) (k:KF R) (X:KX R):(exS 36 (cxF f1519 d) (nthS (ifB cc6) 0)) k X [s0,pS (.bytes b),pS (.list row),s3,s4,s5,s6,s7,s8,s9,s10,s11,s12,s13,s14,s15,s16,s17,s18,s19,s20]=(okE (cN d 1447 [(.dict [((S "l"),(.list row))])] []) (fun v0=>okE (cN d 1455 [v0] []) (fun v1=>obO (itemA v1 (.str (S "l"))) fun v2=>(k .next [s0,(pS (.bytes b)),(pS (.list row)),s3,s4,s5,s6,s7,s8,s9,s10,s11,s12,s13,s14,s15,s16,s17,s18,(pS v2),s20])) (fun u0=>(X u0 [s0,(pS (.bytes b)),(pS (.list row)),s3,s4,s5,s6,s7,s8,s9,s10,s11,s12,s13,s14,s15,s16,s17,s18,s19,s20]))) (fun u0=>(X u0 [s0,(pS (.bytes b)),(pS (.list row)),s3,s4,s5,s6,s7,s8,s9,s10,s11,s12,s13,s14,s15,s16,s17,s18,s19,s20]))):=by kernel_rfl
set_option tactic.hygienic true in
theorem h6b_1 (R:Type)(d:Nat)(s0 s3 s4 s5 s6 s7 s8 s9 s10 s11 s12 s13 s14 s15 s16 s17 s18 s20:Option Slot)(b:List UInt8)(x0:AV)(k:KF R)(X:KX R):(exs 36 (cxF f1519 d) ((ifB cc6).drop 1)) k X [s0,pS (.bytes b),pS (.list [x0]),s3,s4,s5,s6,s7,s8,s9,s10,s11,s12,s13,s14,s15,s16,s17,s18,pS (.list [x0]),s20]=(okE (cN d 1514 [(.list [x0]),(.list [x0])] []) (fun v0=>obO (truthA v0) fun v1=>cnd (Bool.not v1) ((k (.ret (.bool false)) [s0,(pS (.bytes b)),(pS (.list [x0])),s3,s4,s5,s6,s7,s8,s9,s10,s11,s12,s13,s14,s15,s16,s17,s18,(pS (.list [x0])),s20])) (okE (cN d 1447 [x0] []) (fun v2=>obO (runMt cx .join (.bytes []) [(.list [v2])] []) fun v3=>obO (cmpA .NotEq v3 (.bytes b)) fun v4=>cnd v4 ((k (.ret (.bool false)) [s0,(pS (.bytes b)),(pS (.list [x0])),s3,s4,s5,s6,s7,s8,s9,s10,s11,s12,s13,s14,s15,s16,s17,s18,(pS (.list [x0])),s20])) ((k .next [s0,(pS (.bytes b)),(pS (.list [x0])),s3,s4,s5,s6,s7,s8,s9,s10,s11,s12,s13,s14,s15,s16,s17,s18,(pS (.list [x0])),s20]))) (fun u0=>(X u0 [s0,(pS (.bytes b)),(pS (.list [x0])),s3,s4,s5,s6,s7,s8,s9,s10,s11,s12,s13,s14,s15,s16,s17,s18,(pS (.list [x0])),s20])))) (fun u0=>(X u0 [s0,(pS (.bytes b)),(pS (.list [x0])),s3,s4,s5,s6,s7,s8,s9,s10,s11,s12,s13,s14,s15,s16,s17,s18,(pS (.list [x0])),s20]))):=by kernel_rfl
set_option tactic.hygienic true in
theorem h6b_2 (R:Type)(d:Nat)(s0 s3 s4 s5 s6 s7 s8 s9 s10 s11 s12 s13 s14 s15 s16 s17 s18 s20:Option Slot)(b:List UInt8)(x0 x1:AV)(k:KF R)(X:KX R):(exs 36 (cxF f1519 d) ((ifB cc6).drop 1)) k X [s0,pS (.bytes b),pS (.list [x0,x1]),s3,s4,s5,s6,s7,s8,s9,s10,s11,s12,s13,s14,s15,s16,s17,s18,pS (.list [x0,x1]),s20]=(okE (cN d 1514 [(.list [x0,x1]),(.list [x0,x1])] []) (fun v0=>obO (truthA v0) fun v1=>cnd (Bool.not v1) ((k (.ret (.bool false)) [s0,(pS (.bytes b)),(pS (.list [x0,x1])),s3,s4,s5,s6,s7,s8,s9,s10,s11,s12,s13,s14,s15,s16,s17,s18,(pS (.list [x0,x1])),s20])) (okE (cN d 1447 [x0] []) (fun v2=>okE (cN d 1447 [x1] []) (fun v3=>obO (runMt cx .join (.bytes []) [(.list [v2,v3])] []) fun v4=>obO (cmpA .NotEq v4 (.bytes b)) fun v5=>cnd v5 ((k (.ret (.bool false)) [s0,(pS (.bytes b)),(pS (.list [x0,x1])),s3,s4,s5,s6,s7,s8,s9,s10,s11,s12,s13,s14,s15,s16,s17,s18,(pS (.list [x0,x1])),s20])) ((k .next [s0,(pS (.bytes b)),(pS (.list [x0,x1])),s3,s4,s5,s6,s7,s8,s9,s10,s11,s12,s13,s14,s15,s16,s17,s18,(pS (.list [x0,x1])),s20]))) (fun u0=>(X u0 [s0,(pS (.bytes b)),(pS (.list [x0,x1])),s3,s4,s5,s6,s7,s8,s9,s10,s11,s12,s13,s14,s15,s16,s17,s18,(pS (.list [x0,x1])),s20]))) (fun u0=>(X u0 [s0,(pS (.bytes b)),(pS (.list [x0,x1])),s3,s4,s5,s6,s7,s8,s9,s10,s11,s12,s13,s14,s15,s16,s17,s18,(pS (.list [x0,x1])),s20])))) (fun u0=>(X u0 [s0,(pS (.bytes b)),(pS (.list [x0,x1])),s3,s4,s5,s6,s7,s8,s9,s10,s11,s12,s13,s14,s15,s16,s17,s18,(pS (.list [x0,x1])),s20]))):=by kernel_rfl
set_option tactic.hygienic true in
theorem h6b_3 (R:Type)(d:Nat)(s0 s3 s4 s5 s6 s7 s8 s9 s10 s11 s12 s13 s14 s15 s16 s17 s18 s20:Option Slot)(b:List UInt8)(x0 x1 x2:AV)(k:KF R)(X:KX R):(exs 36 (cxF f1519 d) ((ifB cc6).drop 1)) k X [s0,pS (.bytes b),pS (.list [x0,x1,x2]),s3,s4,s5,s6,s7,s8,s9,s10,s11,s12,s13,s14,s15,s16,s17,s18,pS (.list [x0,x1,x2]),s20]=(okE (cN d 1514 [(.list [x0,x1,x2]),(.list [x0,x1,x2])] []) (fun v0=>obO (truthA v0) fun v1=>cnd (Bool.not v1) ((k (.ret (.bool false)) [s0,(pS (.bytes b)),(pS (.list [x0,x1,x2])),s3,s4,s5,s6,s7,s8,s9,s10,s11,s12,s13,s14,s15,s16,s17,s18,(pS (.list [x0,x1,x2])),s20])) (okE (cN d 1447 [x0] []) (fun v2=>okE (cN d 1447 [x1] []) (fun v3=>okE (cN d 1447 [x2] []) (fun v4=>obO (runMt cx .join (.bytes []) [(.list [v2,v3,v4])] []) fun v5=>obO (cmpA .NotEq v5 (.bytes b)) fun v6=>cnd v6 ((k (.ret (.bool false)) [s0,(pS (.bytes b)),(pS (.list [x0,x1,x2])),s3,s4,s5,s6,s7,s8,s9,s10,s11,s12,s13,s14,s15,s16,s17,s18,(pS (.list [x0,x1,x2])),s20])) ((k .next [s0,(pS (.bytes b)),(pS (.list [x0,x1,x2])),s3,s4,s5,s6,s7,s8,s9,s10,s11,s12,s13,s14,s15,s16,s17,s18,(pS (.list [x0,x1,x2])),s20]))) (fun u0=>(X u0 [s0,(pS (.bytes b)),(pS (.list [x0,x1,x2])),s3,s4,s5,s6,s7,s8,s9,s10,s11,s12,s13,s14,s15,s16,s17,s18,(pS (.list [x0,x1,x2])),s20]))) (fun u0=>(X u0 [s0,(pS (.bytes b)),(pS (.list [x0,x1,x2])),s3,s4,s5,s6,s7,s8,s9,s10,s11,s12,s13,s14,s15,s16,s17,s18,(pS (.list [x0,x1,x2])),s20]))) (fun u0=>(X u0 [s0,(pS (.bytes b)),(pS (.list [x0,x1,x2])),s3,s4,s5,s6,s7,s8,s9,s10,s11,s12,s13,s14,s15,s16,s17,s18,(pS (.list [x0,x1,x2])),s20])))) (fun u0=>(X u0 [s0,(pS (.bytes b)),(pS (.list [x0,x1,x2])),s3,s4,s5,s6,s7,s8,s9,s10,s11,s12,s13,s14,s15,s16,s17,s18,(pS (.list [x0,x1,x2])),s20]))):=by kernel_rfl
theorem z4_0 (R:Type)(d:Nat)(s0 s3 s4 s5 s6 s8 s9 s10 s11 s12 s13 s14 s15 s16 s17 s18 s19 s20:Option Slot)(b:List UInt8)(p0:Int)(k:KF R)(X:KX R):(exS 55 (cxF f1519 d) (nthS f1519.body 4)) k X [s0,pS (.bytes b),pS (.list []),s3,s4,s5,s6,pS (.list [.int p0]),s8,s9,s10,s11,s12,s13,s14,s15,s16,s17,s18,s19,s20]=((k .next [s0,(pS (.bytes b)),(pS (.list [])),s3,s4,s5,s6,(pS (.list [(.int p0)])),s8,s9,s10,s11,s12,s13,s14,s15,s16,s17,(pS (.list [])),s19,s20])):=by kernel_rfl
set_option tactic.hygienic true in
theorem z5_0 (R:Type)(d:Nat)(s0 s3 s4 s5 s6 s7 s8 s9 s10 s11 s12 s13 s14 s15 s16 s17 s19 s20:Option Slot)(b:List UInt8)(k:KF R)(X:KX R):(exS 54 (cxF f1519 d) (nthS f1519.body 5)) k X [s0,pS (.bytes b),pS (.list []),s3,s4,s5,s6,s7,s8,s9,s10,s11,s12,s13,s14,s15,s16,s17,pS (.list []),s19,s20]=(okE (cN d 1514 [(.list []),(.list [])] []) (fun v0=>obO (truthA v0) fun v1=>cnd (Bool.not v1) ((k (.ret (.bool false)) [s0,(pS (.bytes b)),(pS (.list [])),s3,s4,s5,s6,s7,s8,s9,s10,s11,s12,s13,s14,s15,s16,s17,(pS (.list [])),s19,s20])) (cnd (Bool.not (decide ([]=b))) ((k (.ret (.bool false)) [s0,(pS (.bytes b)),(pS (.list [])),s3,s4,s5,s6,s7,s8,s9,s10,s11,s12,s13,s14,s15,s16,s17,(pS (.list [])),s19,s20])) ((k .next [s0,(pS (.bytes b)),(pS (.list [])),s3,s4,s5,s6,s7,s8,s9,s10,s11,s12,s13,s14,s15,s16,s17,(pS (.list [])),s19,s20])))) (fun u0=>(X u0 [s0,(pS (.bytes b)),(pS (.list [])),s3,s4,s5,s6,s7,s8,s9,s10,s11,s12,s13,s14,s15,s16,s17,(pS (.list [])),s19,s20]))):=by kernel_rfl
theorem z6_0 (R:Type)(d:Nat)(s0 s1 s3 s4 s5 s6 s7 s8 s9 s10 s11 s12 s13 s14 s15 s16 s17 s19 s20:Option Slot)(k:KF R)(X:KX R):(exS 53 (cxF f1519 d) (nthS f1519.body 6)) k X [s0,s1,pS (.list []),s3,s4,s5,s6,s7,s8,s9,s10,s11,s12,s13,s14,s15,s16,s17,pS (.list []),s19,s20]=((k .next [s0,s1,(pS (.list [])),s3,s4,s5,s6,s7,s8,s9,s10,s11,s12,s13,s14,s15,s16,s17,(pS (.list [])),s19,(pS (.bytes []))])):=by kernel_rfl
theorem z4_1 (R:Type)(d:Nat)(s0 s3 s4 s5 s6 s8 s9 s10 s11 s12 s13 s14 s15 s16 s17 s18 s19 s20:Option Slot)(b:List UInt8)(x0:AV)(p0 p1:Int)(k:KF R)(X:KX R):(exS 55 (cxF f1519 d) (nthS f1519.body 4)) k X [s0,pS (.bytes b),pS (.list [x0]),s3,s4,s5,s6,pS (.list [.int p0,.int p1]),s8,s9,s10,s11,s12,s13,s14,s15,s16,s17,s18,s19,s20]=((k .next [s0,(pS (.bytes b)),(pS (.list [x0])),s3,s4,s5,s6,(pS (.list [(.int p0),(.int p1)])),s8,s9,s10,s11,s12,s13,s14,s15,s16,s17,(pS (.list [(.bytes (cutL b (some p0) (some p1)))])),s19,s20])):=by kernel_rfl
set_option tactic.hygienic true in
theorem z5_1 (R:Type)(d:Nat)(s0 s3 s4 s5 s6 s7 s8 s9 s10 s11 s12 s13 s14 s15 s16 s17 s19 s20:Option Slot)(b:List UInt8)(x0:AV)(q0:List UInt8)(k:KF R)(X:KX R):(exS 54 (cxF f1519 d) (nthS f1519.body 5)) k X [s0,pS (.bytes b),pS (.list [x0]),s3,s4,s5,s6,s7,s8,s9,s10,s11,s12,s13,s14,s15,s16,s17,pS (.list [.bytes q0]),s19,s20]=(okE (cN d 1455 [(.bytes q0)] []) (fun v0=>okE (cN d 1514 [(.list [v0]),(.list [x0])] []) (fun v1=>obO (truthA v1) fun v2=>cnd (Bool.not v2) ((k (.ret (.bool false)) [s0,(pS (.bytes b)),(pS (.list [x0])),s3,s4,s5,s6,s7,s8,s9,s10,s11,s12,s13,s14,s15,s16,s17,(pS (.list [(.bytes q0)])),s19,s20])) (okE (cN d 1447 [x0] []) (fun v3=>obO (runMt cx .join (.bytes []) [(.list [v3])] []) fun v4=>obO (cmpA .NotEq v4 (.bytes b)) fun v5=>cnd v5 ((k (.ret (.bool false)) [s0,(pS (.bytes b)),(pS (.list [x0])),s3,s4,s5,s6,s7,s8,s9,s10,s11,s12,s13,s14,s15,s16,s17,(pS (.list [(.bytes q0)])),s19,s20])) ((k .next [s0,(pS (.bytes b)),(pS (.list [x0])),s3,s4,s5,s6,s7,s8,s9,s10,s11,s12,s13,s14,s15,s16,s17,(pS (.list [(.bytes q0)])),s19,s20]))) (fun u0=>(X u0 [s0,(pS (.bytes b)),(pS (.list [x0])),s3,s4,s5,s6,s7,s8,s9,s10,s11,s12,s13,s14,s15,s16,s17,(pS (.list [(.bytes q0)])),s19,s20])))) (fun u0=>(X u0 [s0,(pS (.bytes b)),(pS (.list [x0])),s3,s4,s5,s6,s7,s8,s9,s10,s11,s12,s13,s14,s15,s16,s17,(pS (.list [(.bytes q0)])),s19,s20]))) (fun u0=>(X u0 [s0,(pS (.bytes b)),(pS (.list [x0])),s3,s4,s5,s6,s7,s8,s9,s10,s11,s12,s13,s14,s15,s16,s17,(pS (.list [(.bytes q0)])),s19,s20]))):=by kernel_rfl
theorem z6_1 (R:Type)(d:Nat)(s0 s1 s3 s4 s5 s6 s7 s8 s9 s10 s11 s12 s13 s14 s15 s16 s17 s19 s20:Option Slot)(x0:AV)(q0:List UInt8)(k:KF R)(X:KX R):(exS 53 (cxF f1519 d) (nthS f1519.body 6)) k X [s0,s1,pS (.list [x0]),s3,s4,s5,s6,s7,s8,s9,s10,s11,s12,s13,s14,s15,s16,s17,pS (.list [.bytes q0]),s19,s20]=(obO (binA .Add (.bytes [3,48,0]) (.bytes q0)) fun v0=>obO (runMt cx .join (.bytes []) [(.list [v0])] []) fun v1=>(k .next [s0,s1,(pS (.list [x0])),s3,s4,s5,s6,s7,s8,s9,s10,s11,s12,s13,s14,s15,s16,s17,(pS (.list [(.bytes q0)])),s19,(pS v1)])):=by kernel_rfl
theorem z4_2 (R:Type)(d:Nat)(s0 s3 s4 s5 s6 s8 s9 s10 s11 s12 s13 s14 s15 s16 s17 s18 s19 s20:Option Slot)(b:List UInt8)(x0 x1:AV)(p0 p1 p2:Int)(k:KF R)(X:KX R):(exS 55 (cxF f1519 d) (nthS f1519.body 4)) k X [s0,pS (.bytes b),pS (.list [x0,x1]),s3,s4,s5,s6,pS (.list [.int p0,.int p1,.int p2]),s8,s9,s10,s11,s12,s13,s14,s15,s16,s17,s18,s19,s20]=((k .next [s0,(pS (.bytes b)),(pS (.list [x0,x1])),s3,s4,s5,s6,(pS (.list [(.int p0),(.int p1),(.int p2)])),s8,s9,s10,s11,s12,s13,s14,s15,s16,s17,(pS (.list [(.bytes (cutL b (some p0) (some p1))),(.bytes (cutL b (some p1) (some p2)))])),s19,s20])):=by kernel_rfl
set_option tactic.hygienic true in
theorem z5_2 (R:Type)(d:Nat)(s0 s3 s4 s5 s6 s7 s8 s9 s10 s11 s12 s13 s14 s15 s16 s17 s19 s20:Option Slot)(b:List UInt8)(x0 x1:AV)(q0 q1:List UInt8)(k:KF R)(X:KX R):(exS 54 (cxF f1519 d) (nthS f1519.body 5)) k X [s0,pS (.bytes b),pS (.list [x0,x1]),s3,s4,s5,s6,s7,s8,s9,s10,s11,s12,s13,s14,s15,s16,s17,pS (.list [.bytes q0,.bytes q1]),s19,s20]=(okE (cN d 1455 [(.bytes q0)] []) (fun v0=>okE (cN d 1455 [(.bytes q1)] []) (fun v1=>okE (cN d 1514 [(.list [v0,v1]),(.list [x0,x1])] []) (fun v2=>obO (truthA v2) fun v3=>cnd (Bool.not v3) ((k (.ret (.bool false)) [s0,(pS (.bytes b)),(pS (.list [x0,x1])),s3,s4,s5,s6,s7,s8,s9,s10,s11,s12,s13,s14,s15,s16,s17,(pS (.list [(.bytes q0),(.bytes q1)])),s19,s20])) (okE (cN d 1447 [x0] []) (fun v4=>okE (cN d 1447 [x1] []) (fun v5=>obO (runMt cx .join (.bytes []) [(.list [v4,v5])] []) fun v6=>obO (cmpA .NotEq v6 (.bytes b)) fun v7=>cnd v7 ((k (.ret (.bool false)) [s0,(pS (.bytes b)),(pS (.list [x0,x1])),s3,s4,s5,s6,s7,s8,s9,s10,s11,s12,s13,s14,s15,s16,s17,(pS (.list [(.bytes q0),(.bytes q1)])),s19,s20])) ((k .next [s0,(pS (.bytes b)),(pS (.list [x0,x1])),s3,s4,s5,s6,s7,s8,s9,s10,s11,s12,s13,s14,s15,s16,s17,(pS (.list [(.bytes q0),(.bytes q1)])),s19,s20]))) (fun u0=>(X u0 [s0,(pS (.bytes b)),(pS (.list [x0,x1])),s3,s4,s5,s6,s7,s8,s9,s10,s11,s12,s13,s14,s15,s16,s17,(pS (.list [(.bytes q0),(.bytes q1)])),s19,s20]))) (fun u0=>(X u0 [s0,(pS (.bytes b)),(pS (.list [x0,x1])),s3,s4,s5,s6,s7,s8,s9,s10,s11,s12,s13,s14,s15,s16,s17,(pS (.list [(.bytes q0),(.bytes q1)])),s19,s20])))) (fun u0=>(X u0 [s0,(pS (.bytes b)),(pS (.list [x0,x1])),s3,s4,s5,s6,s7,s8,s9,s10,s11,s12,s13,s14,s15,s16,s17,(pS (.list [(.bytes q0),(.bytes q1)])),s19,s20]))) (fun u0=>(X u0 [s0,(pS (.bytes b)),(pS (.list [x0,x1])),s3,s4,s5,s6,s7,s8,s9,s10,s11,s12,s13,s14,s15,s16,s17,(pS (.list [(.bytes q0),(.bytes q1)])),s19,s20]))) (fun u0=>(X u0 [s0,(pS (.bytes b)),(pS (.list [x0,x1])),s3,s4,s5,s6,s7,s8,s9,s10,s11,s12,s13,s14,s15,s16,s17,(pS (.list [(.bytes q0),(.bytes q1)])),s19,s20]))):=by kernel_rfl
theorem z6_2 (R:Type)(d:Nat)(s0 s1 s3 s4 s5 s6 s7 s8 s9 s10 s11 s12 s13 s14 s15 s16 s17 s19 s20:Option Slot)(x0 x1:AV)(q0 q1:List UInt8)(k:KF R)(X:KX R):(exS 53 (cxF f1519 d) (nthS f1519.body 6)) k X [s0,s1,pS (.list [x0,x1]),s3,s4,s5,s6,s7,s8,s9,s10,s11,s12,s13,s14,s15,s16,s17,pS (.list [.bytes q0,.bytes q1]),s19,s20]=(obO (binA .Add (.bytes [3,48,0]) (.bytes q0)) fun v0=>obO (binA .Add (.bytes [3,49,0]) (.bytes q1)) fun v1=>obO (runMt cx .join (.bytes []) [(.list [v0,v1])] []) fun v2=>(k .next [s0,s1,(pS (.list [x0,x1])),s3,s4,s5,s6,s7,s8,s9,s10,s11,s12,s13,s14,s15,s16,s17,(pS (.list [(.bytes q0),(.bytes q1)])),s19,(pS v2)])):=by kernel_rfl
theorem z4_3 (R:Type)(d:Nat)(s0 s3 s4 s5 s6 s8 s9 s10 s11 s12 s13 s14 s15 s16 s17 s18 s19 s20:Option Slot)(b:List UInt8)(x0 x1 x2:AV)(p0 p1 p2 p3:Int)(k:KF R)(X:KX R):(exS 55 (cxF f1519 d) (nthS f1519.body 4)) k X [s0,pS (.bytes b),pS (.list [x0,x1,x2]),s3,s4,s5,s6,pS (.list [.int p0,.int p1,.int p2,.int p3]),s8,s9,s10,s11,s12,s13,s14,s15,s16,s17,s18,s19,s20]=((k .next [s0,(pS (.bytes b)),(pS (.list [x0,x1,x2])),s3,s4,s5,s6,(pS (.list [(.int p0),(.int p1),(.int p2),(.int p3)])),s8,s9,s10,s11,s12,s13,s14,s15,s16,s17,(pS (.list [(.bytes (cutL b (some p0) (some p1))),(.bytes (cutL b (some p1) (some p2))),(.bytes (cutL b (some p2) (some p3)))])),s19,s20])):=by kernel_rfl
set_option tactic.hygienic true in
theorem z5_3 (R:Type)(d:Nat)(s0 s3 s4 s5 s6 s7 s8 s9 s10 s11 s12 s13 s14 s15 s16 s17 s19 s20:Option Slot)(b:List UInt8)(x0 x1 x2:AV)(q0 q1 q2:List UInt8)(k:KF R)(X:KX R):(exS 54 (cxF f1519 d) (nthS f1519.body 5)) k X [s0,pS (.bytes b),pS (.list [x0,x1,x2]),s3,s4,s5,s6,s7,s8,s9,s10,s11,s12,s13,s14,s15,s16,s17,pS (.list [.bytes q0,.bytes q1,.bytes q2]),s19,s20]=(okE (cN d 1455 [(.bytes q0)] []) (fun v0=>okE (cN d 1455 [(.bytes q1)] []) (fun v1=>okE (cN d 1455 [(.bytes q2)] []) (fun v2=>okE (cN d 1514 [(.list [v0,v1,v2]),(.list [x0,x1,x2])] []) (fun v3=>obO (truthA v3) fun v4=>cnd (Bool.not v4) ((k (.ret (.bool false)) [s0,(pS (.bytes b)),(pS (.list [x0,x1,x2])),s3,s4,s5,s6,s7,s8,s9,s10,s11,s12,s13,s14,s15,s16,s17,(pS (.list [(.bytes q0),(.bytes q1),(.bytes q2)])),s19,s20])) (okE (cN d 1447 [x0] []) (fun v5=>okE (cN d 1447 [x1] []) (fun v6=>okE (cN d 1447 [x2] []) (fun v7=>obO (runMt cx .join (.bytes []) [(.list [v5,v6,v7])] []) fun v8=>obO (cmpA .NotEq v8 (.bytes b)) fun v9=>cnd v9 ((k (.ret (.bool false)) [s0,(pS (.bytes b)),(pS (.list [x0,x1,x2])),s3,s4,s5,s6,s7,s8,s9,s10,s11,s12,s13,s14,s15,s16,s17,(pS (.list [(.bytes q0),(.bytes q1),(.bytes q2)])),s19,s20])) ((k .next [s0,(pS (.bytes b)),(pS (.list [x0,x1,x2])),s3,s4,s5,s6,s7,s8,s9,s10,s11,s12,s13,s14,s15,s16,s17,(pS (.list [(.bytes q0),(.bytes q1),(.bytes q2)])),s19,s20]))) (fun u0=>(X u0 [s0,(pS (.bytes b)),(pS (.list [x0,x1,x2])),s3,s4,s5,s6,s7,s8,s9,s10,s11,s12,s13,s14,s15,s16,s17,(pS (.list [(.bytes q0),(.bytes q1),(.bytes q2)])),s19,s20]))) (fun u0=>(X u0 [s0,(pS (.bytes b)),(pS (.list [x0,x1,x2])),s3,s4,s5,s6,s7,s8,s9,s10,s11,s12,s13,s14,s15,s16,s17,(pS (.list [(.bytes q0),(.bytes q1),(.bytes q2)])),s19,s20]))) (fun u0=>(X u0 [s0,(pS (.bytes b)),(pS (.list [x0,x1,x2])),s3,s4,s5,s6,s7,s8,s9,s10,s11,s12,s13,s14,s15,s16,s17,(pS (.list [(.bytes q0),(.bytes q1),(.bytes q2)])),s19,s20])))) (fun u0=>(X u0 [s0,(pS (.bytes b)),(pS (.list [x0,x1,x2])),s3,s4,s5,s6,s7,s8,s9,s10,s11,s12,s13,s14,s15,s16,s17,(pS (.list [(.bytes q0),(.bytes q1),(.bytes q2)])),s19,s20]))) (fun u0=>(X u0 [s0,(pS (.bytes b)),(pS (.list [x0,x1,x2])),s3,s4,s5,s6,s7,s8,s9,s10,s11,s12,s13,s14,s15,s16,s17,(pS (.list [(.bytes q0),(.bytes q1),(.bytes q2)])),s19,s20]))) (fun u0=>(X u0 [s0,(pS (.bytes b)),(pS (.list [x0,x1,x2])),s3,s4,s5,s6,s7,s8,s9,s10,s11,s12,s13,s14,s15,s16,s17,(pS (.list [(.bytes q0),(.bytes q1),(.bytes q2)])),s19,s20]))) (fun u0=>(X u0 [s0,(pS (.bytes b)),(pS (.list [x0,x1,x2])),s3,s4,s5,s6,s7,s8,s9,s10,s11,s12,s13,s14,s15,s16,s17,(pS (.list [(.bytes q0),(.bytes q1),(.bytes q2)])),s19,s20]))):=by kernel_rfl
theorem z6_3 (R:Type)(d:Nat)(s0 s1 s3 s4 s5 s6 s7 s8 s9 s10 s11 s12 s13 s14 s15 s16 s17 s19 s20:Option Slot)(x0 x1 x2:AV)(q0 q1 q2:List UInt8)(k:KF R)(X:KX R):(exS 53 (cxF f1519 d) (nthS f1519.body 6)) k X [s0,s1,pS (.list [x0,x1,x2]),s3,s4,s5,s6,s7,s8,s9,s10,s11,s12,s13,s14,s15,s16,s17,pS (.list [.bytes q0,.bytes q1,.bytes q2]),s19,s20]=(obO (binA .Add (.bytes [3,48,0]) (.bytes q0)) fun v0=>obO (binA .Add (.bytes [3,49,0]) (.bytes q1)) fun v1=>obO (binA .Add (.bytes [3,50,0]) (.bytes q2)) fun v2=>obO (runMt cx .join (.bytes []) [(.list [v0,v1,v2])] []) fun v3=>(k .next [s0,s1,(pS (.list [x0,x1,x2])),s3,s4,s5,s6,s7,s8,s9,s10,s11,s12,s13,s14,s15,s16,s17,(pS (.list [(.bytes q0),(.bytes q1),(.bytes q2)])),s19,(pS v3)])):=by kernel_rfl
theorem z4_4 (R:Type)(d:Nat)(s0 s3 s4 s5 s6 s8 s9 s10 s11 s12 s13 s14 s15 s16 s17 s18 s19 s20:Option Slot)(b:List UInt8)(x0 x1 x2 x3:AV)(p0 p1 p2 p3 p4:Int)(k:KF R)(X:KX R):(exS 55 (cxF f1519 d) (nthS f1519.body 4)) k X [s0,pS (.bytes b),pS (.list [x0,x1,x2,x3]),s3,s4,s5,s6,pS (.list [.int p0,.int p1,.int p2,.int p3,.int p4]),s8,s9,s10,s11,s12,s13,s14,s15,s16,s17,s18,s19,s20]=((k .next [s0,(pS (.bytes b)),(pS (.list [x0,x1,x2,x3])),s3,s4,s5,s6,(pS (.list [(.int p0),(.int p1),(.int p2),(.int p3),(.int p4)])),s8,s9,s10,s11,s12,s13,s14,s15,s16,s17,(pS (.list [(.bytes (cutL b (some p0) (some p1))),(.bytes (cutL b (some p1) (some p2))),(.bytes (cutL b (some p2) (some p3))),(.bytes (cutL b (some p3) (some p4)))])),s19,s20])):=by kernel_rfl
set_option tactic.hygienic true in
theorem z5_4 (R:Type)(d:Nat)(s0 s3 s4 s5 s6 s7 s8 s9 s10 s11 s12 s13 s14 s15 s16 s17 s19 s20:Option Slot)(b:List UInt8)(x0 x1 x2 x3:AV)(q0 q1 q2 q3:List UInt8)(k:KF R)(X:KX R):(exS 54 (cxF f1519 d) (nthS f1519.body 5)) k X [s0,pS (.bytes b),pS (.list [x0,x1,x2,x3]),s3,s4,s5,s6,s7,s8,s9,s10,s11,s12,s13,s14,s15,s16,s17,pS (.list [.bytes q0,.bytes q1,.bytes q2,.bytes q3]),s19,s20]=(okE (cN d 1455 [(.bytes q0)] []) (fun v0=>okE (cN d 1455 [(.bytes q1)] []) (fun v1=>okE (cN d 1455 [(.bytes q2)] []) (fun v2=>okE (cN d 1455 [(.bytes q3)] []) (fun v3=>okE (cN d 1514 [(.list [v0,v1,v2,v3]),(.list [x0,x1,x2,x3])] []) (fun v4=>obO (truthA v4) fun v5=>cnd (Bool.not v5) ((k (.ret (.bool false)) [s0,(pS (.bytes b)),(pS (.list [x0,x1,x2,x3])),s3,s4,s5,s6,s7,s8,s9,s10,s11,s12,s13,s14,s15,s16,s17,(pS (.list [(.bytes q0),(.bytes q1),(.bytes q2),(.bytes q3)])),s19,s20])) (okE (cN d 1447 [x0] []) (fun v6=>okE (cN d 1447 [x1] []) (fun v7=>okE (cN d 1447 [x2] []) (fun v8=>okE (cN d 1447 [x3] []) (fun v9=>obO (runMt cx .join (.bytes []) [(.list [v6,v7,v8,v9])] []) fun v10=>obO (cmpA .NotEq v10 (.bytes b)) fun v11=>cnd v11 ((k (.ret (.bool false)) [s0,(pS (.bytes b)),(pS (.list [x0,x1,x2,x3])),s3,s4,s5,s6,s7,s8,s9,s10,s11,s12,s13,s14,s15,s16,s17,(pS (.list [(.bytes q0),(.bytes q1),(.bytes q2),(.bytes q3)])),s19,s20])) ((k .next [s0,(pS (.bytes b)),(pS (.list [x0,x1,x2,x3])),s3,s4,s5,s6,s7,s8,s9,s10,s11,s12,s13,s14,s15,s16,s17,(pS (.list [(.bytes q0),(.bytes q1),(.bytes q2),(.bytes q3)])),s19,s20]))) (fun u0=>(X u0 [s0,(pS (.bytes b)),(pS (.list [x0,x1,x2,x3])),s3,s4,s5,s6,s7,s8,s9,s10,s11,s12,s13,s14,s15,s16,s17,(pS (.list [(.bytes q0),(.bytes q1),(.bytes q2),(.bytes q3)])),s19,s20]))) (fun u0=>(X u0 [s0,(pS (.bytes b)),(pS (.list [x0,x1,x2,x3])),s3,s4,s5,s6,s7,s8,s9,s10,s11,s12,s13,s14,s15,s16,s17,(pS (.list [(.bytes q0),(.bytes q1),(.bytes q2),(.bytes q3)])),s19,s20]))) (fun u0=>(X u0 [s0,(pS (.bytes b)),(pS (.list [x0,x1,x2,x3])),s3,s4,s5,s6,s7,s8,s9,s10,s11,s12,s13,s14,s15,s16,s17,(pS (.list [(.bytes q0),(.bytes q1),(.bytes q2),(.bytes q3)])),s19,s20]))) (fun u0=>(X u0 [s0,(pS (.bytes b)),(pS (.list [x0,x1,x2,x3])),s3,s4,s5,s6,s7,s8,s9,s10,s11,s12,s13,s14,s15,s16,s17,(pS (.list [(.bytes q0),(.bytes q1),(.bytes q2),(.bytes q3)])),s19,s20])))) (fun u0=>(X u0 [s0,(pS (.bytes b)),(pS (.list [x0,x1,x2,x3])),s3,s4,s5,s6,s7,s8,s9,s10,s11,s12,s13,s14,s15,s16,s17,(pS (.list [(.bytes q0),(.bytes q1),(.bytes q2),(.bytes q3)])),s19,s20]))) (fun u0=>(X u0 [s0,(pS (.bytes b)),(pS (.list [x0,x1,x2,x3])),s3,s4,s5,s6,s7,s8,s9,s10,s11,s12,s13,s14,s15,s16,s17,(pS (.list [(.bytes q0),(.bytes q1),(.bytes q2),(.bytes q3)])),s19,s20]))) (fun u0=>(X u0 [s0,(pS (.bytes b)),(pS (.list [x0,x1,x2,x3])),s3,s4,s5,s6,s7,s8,s9,s10,s11,s12,s13,s14,s15,s16,s17,(pS (.list [(.bytes q0),(.bytes q1),(.bytes q2),(.bytes q3)])),s19,s20]))) (fun u0=>(X u0 [s0,(pS (.bytes b)),(pS (.list [x0,x1,x2,x3])),s3,s4,s5,s6,s7,s8,s9,s10,s11,s12,s13,s14,s15,s16,s17,(pS (.list [(.bytes q0),(.bytes q1),(.bytes q2),(.bytes q3)])),s19,s20]))) (fun u0=>(X u0 [s0,(pS (.bytes b)),(pS (.list [x0,x1,x2,x3])),s3,s4,s5,s6,s7,s8,s9,s10,s11,s12,s13,s14,s15,s16,s17,(pS (.list [(.bytes q0),(.bytes q1),(.bytes q2),(.bytes q3)])),s19,s20]))):=by kernel_rfl
theorem z6_4 (R:Type)(d:Nat)(s0 s1 s3 s4 s5 s6 s7 s8 s9 s10 s11 s12 s13 s14 s15 s16 s17 s19 s20:Option Slot)(x0 x1 x2 x3:AV)(q0 q1 q2 q3:List UInt8)(k:KF R)(X:KX R):(exS 53 (cxF f1519 d) (nthS f1519.body 6)) k X [s0,s1,pS (.list [x0,x1,x2,x3]),s3,s4,s5,s6,s7,s8,s9,s10,s11,s12,s13,s14,s15,s16,s17,pS (.list [.bytes q0,.bytes q1,.bytes q2,.bytes q3]),s19,s20]=(obO (binA .Add (.bytes [3,48,0]) (.bytes q0)) fun v0=>obO (binA .Add (.bytes [3,49,0]) (.bytes q1)) fun v1=>obO (binA .Add (.bytes [3,50,0]) (.bytes q2)) fun v2=>obO (binA .Add (.bytes [3,51,0]) (.bytes q3)) fun v3=>obO (runMt cx .join (.bytes []) [(.list [v0,v1,v2,v3])] []) fun v4=>(k .next [s0,s1,(pS (.list [x0,x1,x2,x3])),s3,s4,s5,s6,s7,s8,s9,s10,s11,s12,s13,s14,s15,s16,s17,(pS (.list [(.bytes q0),(.bytes q1),(.bytes q2),(.bytes q3)])),s19,(pS v4)])):=by kernel_rfl
set_option tactic.hygienic true in
theorem z3 (R:Type)(d:Nat)(s0 s2 s3 s4 s5 s6 s7 s8 s9 s10 s11 s12 s13 s14 s15 s16 s17 s18 s19 s20:Option Slot)(b:AV)(k:KF R)(X:KX R):(exS 56 (cxF f1519 d) (nthS f1519.body 3)) k X [s0,pS b,s2,s3,s4,s5,s6,s7,s8,s9,s10,s11,s12,s13,s14,s15,s16,s17,s18,s19,s20]=(okE (cN d 1490 [b] []) (fun v0=>(k .next [s0,(pS b),s2,s3,s4,s5,s6,(pS v0),s8,s9,s10,s11,s12,s13,s14,s15,s16,s17,s18,s19,s20])) (fun u0=>(X u0 [s0,(pS b),s2,s3,s4,s5,s6,s7,s8,s9,s10,s11,s12,s13,s14,s15,s16,s17,s18,s19,s20]))):=by kernel_rfl
theorem z7 (R:Type) (d:Nat) (s0 s1 s3 s4 s5 s6 s7 s8 s9 s10 s11 s12 s13 s14 s15 s16 s17 s18 s19:Option Slot) (row:List AV) (w:List UInt8) (k:KF R) (X:KX R):(exS 52 (cxF f1519 d) (nthS f1519.body 7)) k X [s0,s1,pS (.list row),s3,s4,s5,s6,s7,s8,s9,s10,s11,s12,s13,s14,s15,s16,s17,s18,s19,pS (.bytes w)]=(okE (cN d 1447 [(.dict [((S "l"),(.list row))])] []) (fun v0=>okE (cN d 1502 [(.bytes w)] []) (fun v1=>obO (binA .Add (.bytes [4,108,0]) v1) fun v2=>okE (cN d 1502 [v2] []) (fun v3=>obO (cmpA .Eq v0 v3) fun v4=>(k (.ret (.bool v4)) [s0,s1,(pS (.list row)),s3,s4,s5,s6,s7,s8,s9,s10,s11,s12,s13,s14,s15,s16,s17,s18,s19,(pS (.bytes w))])) (fun u0=>(X u0 [s0,s1,(pS (.list row)),s3,s4,s5,s6,s7,s8,s9,s10,s11,s12,s13,s14,s15,s16,s17,s18,s19,(pS (.bytes w))]))) (fun u0=>(X u0 [s0,s1,(pS (.list row)),s3,s4,s5,s6,s7,s8,s9,s10,s11,s12,s13,s14,s15,s16,s17,s18,s19,(pS (.bytes w))]))) (fun u0=>(X u0 [s0,s1,(pS (.list row)),s3,s4,s5,s6,s7,s8,s9,s10,s11,s12,s13,s14,s15,s16,s17,s18,s19,(pS (.bytes w))]))):=by kernel_rfl
theorem u8_of {u:UInt8}{n:Int}(h:((u.toNat:Nat):Int)=n):n.toNat.toUInt8=u:=by
 rw[←h,Int.toNat_natCast]
 apply UInt8.toNat_inj.mp
 show u.toNat % 2 ^ 8=u.toNat
 have:=u.toNat_lt
 lia
theorem fm (a:Int){b:Int}(h:0<b):Int.fmod a b=a % b:=Int.fmod_eq_emod_of_nonneg _ (by lia)
theorem fd (a:Int){b:Int}(h:0<b):Int.fdiv a b=a / b:=Int.fdiv_eq_ediv_of_nonneg _ (by lia)
theorem s1495 {d:Nat}{n:Int}(h:I32 n):cN (d+1) 1495 [.int n,.int 4] []=some (.ok (.bytes (le4 n))):=by
 obtain ⟨x,y,z,w,e⟩:=four (lL n)
 have hm:=le4_at h
 rw[e] at hm
 simp only[List.map_cons,List.map_nil,List.cons.injEq,and_true] at hm
 obtain ⟨h1,h2,h3,h4⟩:=hm
 rw[m1495_4,fd n (by decide:(0:Int)<1),Int.ediv_one,fd n (by decide:(0:Int)<256),fd n (by decide:(0:Int)<65536),fd n (by decide:(0:Int)<16777216),
  fm _ (by decide:(0:Int)<256),fm _ (by decide:(0:Int)<256),fm _ (by decide:(0:Int)<256),fm _ (by decide:(0:Int)<256),←h1,←h2,←h3,←h4,e]
 have ok:∀u:UInt8,(decide ((0:Int)≤(u.toNat:Nat))&&decide (((u.toNat:Nat):Int)<256))=true:=fun u=>by
  have:=u.toNat_lt
  rw[decide_eq_true (by lia),decide_eq_true (by lia)]; rfl
 have hb:okB [((x.toNat:Nat):Int),((y.toNat:Nat):Int),((z.toNat:Nat):Int),((w.toNat:Nat):Int)]=true:=by
  unfold okB
  rw[List.all_cons,List.all_cons,List.all_cons,List.all_cons,ok,ok,ok,ok]; rfl
 rw[oS (v:=.bytes [x,y,z,w])]
 show (match okB [((x.toNat:Nat):Int),((y.toNat:Nat):Int),((z.toNat:Nat):Int),((w.toNat:Nat):Int)] with|true=>some (AV.bytes ([((x.toNat:Nat):Int),((y.toNat:Nat):Int),((z.toNat:Nat):Int),((w.toNat:Nat):Int)].map fun n:Int=>n.toNat.toUInt8))|false=>none)=_
 rw[hb]
 dsimp only[List.map]
 rw[u8_of rfl,u8_of rfl,u8_of rfl,u8_of rfl]
theorem s1502 {d:Nat}{b:List UInt8}(h:b.length≤16000000):cN (d+2) 1502 [.bytes b] []=some (.ok (.bytes (held b))):=by
 rw[m1502,eO (s1495 ⟨by lia,by lia⟩),oS (add_b (by simp[lL]; lia)),oS (add_b (by simp[lL]; lia)),held_eq]
theorem s1495_1 {d:Nat}{n:Int}(h0:0≤n)(h1:n<256):cN (d+1) 1495 [.int n,.int 1] []=some (.ok (.bytes [n.toNat.toUInt8])):=by
 rw[m1495_1,fd n (by decide:(0:Int)<1),Int.ediv_one,fm _ (by decide:(0:Int)<256),Int.emod_eq_of_lt h0 h1]
 rw[oS (v:=.bytes [n.toNat.toUInt8])]
 show (match okB [n] with|true=>some (AV.bytes ([n].map fun n:Int=>n.toNat.toUInt8))|false=>none)=_
 have:okB [n]=true:=by unfold okB; rw[List.all_cons,decide_eq_true h0,decide_eq_true h1]; rfl
 rw[this]; rfl
structure Made (y:Int) (mv:AV) (fs:Doc):Prop where
 ok:DocOK fs
 run:∀d,cN (d+3) 1509 [.int y] []=some (.ok (.tup [mv,dictF fs,.bytes (ocD fs)]))
 enc:∀d,cN (d+16) 1447 [mv] []=some (.ok (.bytes (ocD fs)))
theorem made0 {y:Int}(h:y.fmod 4=0){k:Int}{x:Str}{b:List UInt8}(hk:(y.fdiv 4).fmod 5=k)(h1:decT b=some x)(h2:utf8A x=some b)(h3:b.length≤12)(h4:3*k+1=((b.length:Nat):Int)+1)
  (h5:binA .Mult (.bytes [226,130,172]) (.int k)=some (.bytes b)) (h6:binA .Mult (.str (⟨#[8364]⟩:Str)) (.int k)=some (.str x)):∃mv fs,Made y mv fs:=by
 have hn:I32 ((y.fdiv 4).fmod 4294967296-2147483648):=by
  rw[fm _ (by decide)]; constructor <;> lia
 refine ⟨_,_,doc0 hn h1 h2 h3,fun d=>?_,(doc0 hn h1 h2 h3).enc⟩
 have hd:=(doc0 hn h1 h2 h3).sm
 rw[m1509,h,decide_eq_true rfl,cnd_t,hk,h4,eO (s1495 hn),oS (add_b (by simp[lL])),oS (add_b (by simp[lL])),eO (s1495 ⟨by lia,by lia⟩),oS (add_b (by simp[lL])),oS h5,oS (add_b (by simp[lL]; lia)),oS (add_b (by simp[lL]; lia)),oS h6]
 rw[eO (v:=.bytes (ocD [fl0 ((y.fdiv 4).fmod 4294967296-2147483648),fl1 x b]))]
 ·rfl
 ·rw[s1502 (by simp[lL]; lia)]
  unfold ocD bodyF bodyF bodyF Fld.oc fl0 fl1
  simp
theorem made1 {y:Int}(h:y.fmod 4=1):∃mv fs,Made y mv fs:=by
 refine ⟨.dict [],[],doc1,fun d=>?_,doc1.enc⟩
 rw[m1509,h,decide_eq_false (by decide),cnd_f,decide_eq_true (by rfl),cnd_t,eO (s1502 (od rfl))]
 rfl
theorem made2 {y:Int}(h:y.fmod 4=2):∃mv fs,Made y mv fs:=by
 have hn:I32 ((y.fdiv 4).fmod 100):=by rw[fm _ (by decide)]; constructor <;> lia
 refine ⟨_,_,doc2 hn,fun d=>?_,(doc2 hn).enc⟩
 have hd:=(doc2 hn).sm
 have e1:(bodyF [it0 ((y.fdiv 4).fmod 100),it1,it2])=[16,48,0]++le4 ((y.fdiv 4).fmod 100)++[4,49,0]++held [10,48,0,8,49,0,1]++[3,50,0]++held [2,0,3,0,0,0,120,0,0]:=by
  have a1:it1.oc=[4,49,0]++held [10,48,0,8,49,0,1]:=by decide +kernel
  have a2:it2.oc=[3,50,0]++held [2,0,3,0,0,0,120,0,0]:=by decide +kernel
  unfold bodyF bodyF bodyF bodyF
  rw[a1,a2]
  unfold Fld.oc it0
  simp
 have e2:bodyF [fe0,fe1 ((y.fdiv 4).fmod 100)]=[3,101,0]++held []++[4,108,0]++held (bodyF [it0 ((y.fdiv 4).fmod 100),it1,it2]):=by
  show ((3::([101]++[0]))++held [])++(((4::([108]++[0]))++held (bodyF [it0 ((y.fdiv 4).fmod 100),it1,it2]))++[])=_
  generalize held (bodyF [it0 ((y.fdiv 4).fmod 100),it1,it2])=H
  simp
 have e3:bodyF [fq ((y.fdiv 4).fmod 100)]=[3,100,0]++held (bodyF [fe0,fe1 ((y.fdiv 4).fmod 100)]):=by
  show ((3::([100]++[0]))++held (bodyF [fe0,fe1 ((y.fdiv 4).fmod 100)]))++[]=_
  generalize held (bodyF [fe0,fe1 ((y.fdiv 4).fmod 100)])=H
  simp
 rw[m1509,h,decide_eq_false (by decide),cnd_f,decide_eq_false (by decide),cnd_f,decide_eq_true (by rfl),cnd_t,eO (s1495 hn),oS (add_b (by simp[lL])),oS (add_b (by simp[lL])),eO (s1502 (od rfl)),oS (add_b (by simp[lL,held_len])),oS (add_b (by simp[lL,held_len])),eO (s1502 (od rfl)),oS (add_b (by simp[lL,held_len])),eO (s1502 (od rfl)),oS (add_b (by simp[held_len])),oS (add_b (by simp[held_len])),
  ←e1,eO (s1502 (by have:(fe1 ((y.fdiv 4).fmod 100)).pay.length=44:=fe1_len; have e:(fe1 ((y.fdiv 4).fmod 100)).pay.length=(bodyF [it0 ((y.fdiv 4).fmod 100),it1,it2]).length+5:=held_len _; lia)),oS (add_b (by have:(fe1 ((y.fdiv 4).fmod 100)).pay.length=44:=fe1_len; have e:(fe1 ((y.fdiv 4).fmod 100)).pay.length=(held (bodyF [it0 ((y.fdiv 4).fmod 100),it1,it2])).length:=rfl; simp[held_len] at *; lia)),
  ←e2,eO (s1502 (by rw[fq_len]; decide)),oS (add_b (by rw[held_len,fq_len]; decide)),←e3,eO (s1502 (by lia))]
 rfl
theorem ints_rep {z:Int}:∀n:Nat,intsA (List.replicate n (.int z))=some (List.replicate n z)
 | 0=>rfl
 | n+1=>by
  rw[List.replicate_succ]; exact (obS (ints_rep n)).trans rfl
theorem rep_flat {α:Type}{x:α}:∀n:Nat,(List.replicate n [x]).flatten=List.replicate n x
 | 0=>rfl
 | n+1=>by rw[List.replicate_succ,List.flatten_cons,rep_flat n]; rfl
theorem okB_rep {z:Int}(h0:0≤z)(h1:z<256):∀n:Nat,okB (List.replicate n z)=true
 | 0=>rfl
 | n+1=>by
  have:=okB_rep h0 h1 n
  unfold okB at *
  rw[List.replicate_succ,List.all_cons,this,decide_eq_true h0,decide_eq_true h1]; rfl
theorem made3 {y:Int}(h:y.fmod 4=3):∃mv fs,Made y mv fs:=by
 have hm:(y.fdiv 4).fmod 7=(y.fdiv 4) % 7:=fm _ (by decide)
 have ho:(y.fdiv 4).fmod 9=(((y.fdiv 4) % 9).toNat:Nat):=by rw[fm _ (by decide)]; lia
 have hz:(y.fdiv 4).fmod 256=(y.fdiv 4) % 256:=fm _ (by decide)
 have ha:I32 ((y.fdiv 4).fmod 7):=by rw[hm]; constructor <;> lia
 generalize hN:((y.fdiv 4) % 9).toNat=N at ho
 have hN9:N≤8:=by lia
 have hb:(List.replicate N ((y.fdiv 4).fmod 256).toNat.toUInt8).length≤12:=by rw[List.length_replicate]; lia
 have hl:(List.replicate N ((y.fdiv 4).fmod 256).toNat.toUInt8).length=N:=List.length_replicate
 obtain ⟨D1,D2⟩:=doc3_ ha hb
 refine ⟨_,_,D1,fun d=>?_,D2⟩
 have h0:0≤(y.fdiv 4).fmod 256:=by lia
 have h1:(y.fdiv 4).fmod 256<256:=by lia
 have g1:binA .Mult (.bytes [((y.fdiv 4).fmod 256).toNat.toUInt8]) (.int N)=some (.bytes (List.replicate N ((y.fdiv 4).fmod 256).toNat.toUInt8)):=by
  refine (gdT (by rw[decide_eq_true (show (-1048576:Int)≤(N:Int) by lia),decide_eq_true (show (N:Int)≤1048576 by lia)]; rfl)).trans ?_
  show some (AV.bytes (repL [_] (N:Int)))=_
  unfold repL
  rw[Int.toNat_natCast,rep_flat]
 have g2:binA .Mult (.list [.int ((y.fdiv 4).fmod 256)]) (.int N)=some (.list (List.replicate N (.int ((y.fdiv 4).fmod 256)))):=by
  refine (gdT (by rw[decide_eq_true (show (-1048576:Int)≤(N:Int) by lia),decide_eq_true (show (N:Int)≤1048576 by lia)]; rfl)).trans ?_
  show some (AV.list (repL [_] (N:Int)))=_
  unfold repL
  rw[Int.toNat_natCast,rep_flat]
 have g3:callB cx .bytes [.list (List.replicate N (.int ((y.fdiv 4).fmod 256)))]=some (.bytes (List.replicate N ((y.fdiv 4).fmod 256).toNat.toUInt8)):=by
  refine (obS (ints_rep _)).trans ((gdT (okB_rep h0 h1 _)).trans ?_)
  rw[List.map_replicate]
 rw[m1509,h,decide_eq_false (by decide),cnd_f,decide_eq_false (by decide),cnd_f,decide_eq_false (by decide),cnd_f,eO (s1495 ha),oS (add_b (by simp[lL])),oS (add_b (by simp[lL])),ho,eO (s1495 ⟨by lia,by lia⟩),oS (add_b (by simp[lL])),oS (add_b (by simp[lL])),eO (s1495_1 h0 h1),oS g1,oS (add_b (by simp[lL]; lia)),oS g2,oS g3]
 rw[eO (v:=.bytes (ocD [fd0 ((y.fdiv 4).fmod 7),fd1 (List.replicate N ((y.fdiv 4).fmod 256).toNat.toUInt8)]))]
 ·rfl
 ·rw[s1502 (by simp[lL]; lia)]
  unfold ocD bodyF bodyF bodyF Fld.oc fd0 fd1
  rw[hl]
  simp
theorem made (y:Int):∃mv fs,Made y mv fs:=by
 have h4:y.fmod 4=0∨y.fmod 4=1∨y.fmod 4=2∨y.fmod 4=3:=by rw[fm _ (by decide)]; lia
 rcases h4 with h|h|h|h
 ·have h5:(y.fdiv 4).fmod 5=0∨(y.fdiv 4).fmod 5=1∨(y.fdiv 4).fmod 5=2∨(y.fdiv 4).fmod 5=3∨(y.fdiv 4).fmod 5=4:=by rw[fm _ (by decide)]; lia
  rcases h5 with k|k|k|k|k
  ·exact made0 h (x:=S "") (b:=[]) k (by kernel_rfl) (by kernel_rfl) (by decide) (by decide) (by kernel_rfl) (by kernel_rfl)
  ·exact made0 h (x:=S "€") (b:=[226,130,172]) k (by kernel_rfl) (by kernel_rfl) (by decide) (by decide) (by kernel_rfl) (by kernel_rfl)
  ·exact made0 h (x:=S "€€") (b:=[226,130,172,226,130,172]) k (by kernel_rfl) (by kernel_rfl) (by decide) (by decide) (by kernel_rfl) (by kernel_rfl)
  ·exact made0 h (x:=S "€€€") (b:=[226,130,172,226,130,172,226,130,172]) k (by kernel_rfl) (by kernel_rfl) (by decide) (by decide) (by kernel_rfl) (by kernel_rfl)
  ·exact made0 h (x:=S "€€€€") (b:=[226,130,172,226,130,172,226,130,172,226,130,172]) k (by kernel_rfl) (by kernel_rfl) (by decide) (by decide) (by kernel_rfl) (by kernel_rfl)
 ·exact made1 h
 ·exact made2 h
 ·exact made3 h
noncomputable def boV:PySem.Expr→List PySem.Expr
 | .BoolOp _ vs _=>vs
 | _=>[]
noncomputable def nthE:List PySem.Expr→Nat→PySem.Expr
 | [],_=>.Constant .none 0 default
 | x::r,n=>match n with
  | 0=>x
  | n+1=>nthE r n
noncomputable def unX:PySem.Expr→PySem.Expr
 | .UnaryOp _ x _=>x
 | _=>.Constant .none 0 default
noncomputable def caA:PySem.Expr→List PySem.Expr
 | .Call _ as _ _=>as
 | _=>[]
noncomputable def lcE:PySem.Expr→PySem.Expr
 | .ListComp e _ _ _=>e
 | _=>.Constant .none 0 default
noncomputable def lcS:PySem.Expr→Scope
 | .ListComp _ _ s _=>s
 | _=>default
noncomputable def lcT:PySem.Expr→PySem.Expr
 | .ListComp _ gs _ _=>match gs with
  | ⟨t,_,_,_⟩::_=>t
  | []=>.Constant .none 0 default
 | _=>.Constant .none 0 default
noncomputable def T6:PySem.Expr:=ifT (nthS fb 6)
noncomputable def a61:PySem.Expr:=nthE (boV T6) 0
noncomputable def a62:PySem.Expr:=nthE (boV T6) 1
noncomputable def as6:List PySem.Expr:=caA (unX a62)
noncomputable def lc6:PySem.Expr:=nthE as6 0
theorem t61 (R:Type)(d:Nat)(s0 s3 s4 s5 s6 s7 s8 s9 s10 s11 s12 s13 s14 s15 s16 s17 s18 s19 s20:Option Slot)(b:List UInt8)(row:AV)(k:Bool→AEnv→Option R)(X:KX R):(tst 46 (cxF f1519 d) a61) k X [s0,pS (.bytes b),pS row,s3,s4,s5,s6,s7,s8,s9,s10,s11,s12,s13,s14,s15,s16,s17,s18,s19,s20]=(okE (cN d 1470 [(.bytes b)] []) (fun v0=>okE (cN d 1514 [v0,row] []) (fun v1=>obO (truthA v1) fun v2=>(k (Bool.not v2) [s0,(pS (.bytes b)),(pS row),s3,s4,s5,s6,s7,s8,s9,s10,s11,s12,s13,s14,s15,s16,s17,s18,s19,s20])) (fun u0=>(X u0 [s0,(pS (.bytes b)),(pS row),s3,s4,s5,s6,s7,s8,s9,s10,s11,s12,s13,s14,s15,s16,s17,s18,s19,s20]))) (fun u0=>(X u0 [s0,(pS (.bytes b)),(pS row),s3,s4,s5,s6,s7,s8,s9,s10,s11,s12,s13,s14,s15,s16,s17,s18,s19,s20]))):=by kernel_rfl
theorem t62 (R:Type)(d:Nat)(s0 s1 s3 s4 s5 s6 s7 s8 s9 s10 s11 s12 s13 s14 s15 s16 s17 s18 s19 s20:Option Slot)(row:AV)(k:List AV→AEnv→Option R)(X:KX R):(evs 41 (cxF f1519 d) (as6.drop 1)) k X [s0,s1,pS row,s3,s4,s5,s6,s7,s8,s9,s10,s11,s12,s13,s14,s15,s16,s17,s18,s19,s20]=((k [row] [s0,s1,(pS row),s3,s4,s5,s6,s7,s8,s9,s10,s11,s12,s13,s14,s15,s16,s17,s18,s19,s20])):=by kernel_rfl
theorem t63 (R:Type)(d:Nat)(s0 s1 s2 s3 s4 s5 s6 s7 s8 s9 s10 s11 s12 s13 s14 s15 s16 s17 s18 s19 s20 p0 p1:Option Slot)(v:AV)(KK:AV→M R (List AV))(KL:M R (List AV))(k:List AV→AEnv→Option R)(X:KX R):(bnd (asg (innerC (cxF f1519 d) (lcS lc6)) (lcT lc6) v) fun J=>bnd (ret true) fun c=>ifM c (bnd (ev 40 (innerC (cxF f1519 d) (lcS lc6)) (lcE lc6)) fun y=>KK y) KL) k X [s0,s1,s2,s3,s4,s5,s6,s7,s8,s9,s10,s11,s12,s13,s14,s15,s16,s17,s18,s19,s20,p0,p1]=((KK v k X [s0,s1,s2,s3,s4,s5,s6,s7,s8,s9,s10,s11,s12,s13,s14,s15,s16,s17,s18,s19,s20,p0,(pS v)])):=by kernel_rfl
theorem seqK_nil {R:Type}{n:Nat}{C:Ctx}{k:KF R}{X:KX R}:seqK (n+1) C [] k X=k:=by
 funext fl e
 cases fl <;> rfl
theorem q6 {R:Type}(d:Nat)(k:KF R)(X:KX R)(e:AEnv):exS 49 (cxF f1519 d) (nthS fb 6) k X e=tst 48 (cxF f1519 d) T6 (fun c e'=>ifM c (exs 48 (cxF f1519 d) (ifB (nthS fb 6))) (exs 48 (cxF f1519 d) []) k X e') X e:=by kernel_rfl
theorem q61 {R:Type}(d:Nat)(k:Bool→AEnv→Option R)(X:KX R)(e:AEnv):tst 48 (cxF f1519 d) T6 k X e=tst 46 (cxF f1519 d) a61 (fun b e'=>ifM b (ret true) (allT 46 (cxF f1519 d) .Or [a62]) k X e') X e:=by kernel_rfl
theorem q62 {R:Type}(d:Nat)(k:Bool→AEnv→Option R)(X:KX R)(e:AEnv):allT 46 (cxF f1519 d) .Or [a62] k X e=tst 45 (cxF f1519 d) a62 (fun b e'=>ifM b (ret true) (ret false) k X e') X e:=by kernel_rfl
theorem q63 {R:Type}(d:Nat)(k:Bool→AEnv→Option R)(X:KX R)(e:AEnv):tst 45 (cxF f1519 d) a62 k X e=(bnd (bnd (bnd (evs 42 (cxF f1519 d) (lc6::as6.drop 1)) fun vs=>bnd (kws 42 (cxF f1519 d) []) fun kw=>okO (cN d 1514 vs kw)) fun v=>liftO (truthA v)) fun b=>ret (!b)) k X e:=by kernel_rfl
theorem q64 {R:Type}(d:Nat)(k:List AV→AEnv→Option R)(X:KX R)(e:AEnv):evs 42 (cxF f1519 d) (lc6::as6.drop 1) k X e=ev 41 (cxF f1519 d) lc6 (fun v e'=>(bnd (evs 41 (cxF f1519 d) (as6.drop 1)) fun vs=>ret (v::vs)) k X e') X e:=by kernel_rfl
theorem q65 {R:Type}(d:Nat)(b:List UInt8)(s0 s2 s3 s4 s5 s6 s7 s8 s9 s10 s11 s12 s13 s14 s15 s16 s17 s18 s19 s20:Option Slot)(k:AV→AEnv→Option R)(X:KX R):ev 41 (cxF f1519 d) lc6 k X [s0,pS (.bytes b),s2,s3,s4,s5,s6,s7,s8,s9,s10,s11,s12,s13,s14,s15,s16,s17,s18,s19,s20] =
 obO (genD TT fnT d 1478 [.bytes b]) fun xs=>compL (asg (innerC (cxF f1519 d) (lcS lc6)) (lcT lc6)) (ret true) (ev 40 (innerC (cxF f1519 d) (lcS lc6)) (lcE lc6)) xs (fun l e'=>k (.list l) (cut [s0,pS (.bytes b),s2,s3,s4,s5,s6,s7,s8,s9,s10,s11,s12,s13,s14,s15,s16,s17,s18,s19,s20] e'))
  (fun a e'=>X a (cut [s0,pS (.bytes b),s2,s3,s4,s5,s6,s7,s8,s9,s10,s11,s12,s13,s14,s15,s16,s17,s18,s19,s20] e'))
  [s0,pS (.bytes b),s2,s3,s4,s5,s6,s7,s8,s9,s10,s11,s12,s13,s14,s15,s16,s17,s18,s19,s20,none,none]:=by kernel_rfl
theorem omap_id:∀xs:List AV,omap some xs=xs
 | []=>rfl
 | x::r=>by rw[omap,omap_id r]
theorem alk_avs {d:Nat}{ds:List Doc}(h:AllD ds)(hl:ds.length≤4):cN (d+15) 1514 [.list (avs ds),.list (avs ds)] []=some (.ok (.bool true)):=by
 have a:∀f∈ds,Alk (d+14) (dictF f):=fun f hf=>(h f hf).pay.al d
 rcases ds with _|⟨x,_|⟨y,_|⟨z,_|⟨w,_|⟨v,r⟩⟩⟩⟩⟩
 ·exact alk_l0
 ·exact alk_l1 (a x (by simp))
 ·exact alk_l2 (a x (by simp)) (a y (by simp))
 ·exact alk_l3 (a x (by simp)) (a y (by simp)) (a z (by simp))
 ·exact alk_l4 (a x (by simp)) (a y (by simp)) (a z (by simp)) (a w (by simp))
 ·simp at hl
theorem ev6 {R:Type}{d:Nat}{ds:List Doc}(h:AllD ds)(hl:ds.length≤4)(s0 s2 s3 s4 s5 s6 s7 s8 s9 s10 s11 s12 s13 s14 s15 s16 s17 s18 s19 s20:Option Slot)(k:AV→AEnv→Option R)(X:KX R):ev 41 (cxF f1519 (d+23)) lc6 k X [s0,pS (.bytes (flat ds)),s2,s3,s4,s5,s6,s7,s8,s9,s10,s11,s12,s13,s14,s15,s16,s17,s18,s19,s20] =
  k (.list (avs ds)) [s0,pS (.bytes (flat ds)),s2,s3,s4,s5,s6,s7,s8,s9,s10,s11,s12,s13,s14,s15,s16,s17,s18,s19,s20]:=by
 rw[q65,oS (s1478 h (by lia))]
 obtain ⟨s',e⟩:=compL_map (R:=R) (A:=asg (innerC (cxF f1519 (d+23)) (lcS lc6)) (lcT lc6)) (T:=ret true) (B:=ev 40 (innerC (cxF f1519 (d+23)) (lcS lc6)) (lcE lc6)) (g:=some)
  (mk:=fun p1=>[s0,pS (.bytes (flat ds)),s2,s3,s4,s5,s6,s7,s8,s9,s10,s11,s12,s13,s14,s15,s16,s17,s18,s19,s20,none,p1])
  (X:=fun a e'=>X a (cut [s0,pS (.bytes (flat ds)),s2,s3,s4,s5,s6,s7,s8,s9,s10,s11,s12,s13,s14,s15,s16,s17,s18,s19,s20] e')) (avs ds)
  (fun x J s=>⟨_,fun K K' k X=>t63 R (d+23) _ _ _ _ _ _ _ _ _ _ _ _ _ _ _ _ _ _ _ _ _ _ _ x K K' k X⟩) none
 rw[e,omap_id]
 rfl
theorem liftO_s {R α:Type}{a:α}{k:α→AEnv→Option R}{X:KX R}{e:AEnv}:liftO (some a) k X e=k a e:=rfl
theorem okO_s {R:Type}{a:AV}{k:AV→AEnv→Option R}{X:KX R}{e:AEnv}:okO (some (.ok a)) k X e=k a e:=rfl
theorem f6 {R:Type}{d:Nat}{ds:List Doc}(h:AllD ds)(hl:ds.length≤4)(s0 s3 s4 s5 s6 s7 s8 s9 s10 s11 s12 s13 s14 s15 s16 s17 s18 s19 s20:Option Slot)(k:KF R)(X:KX R) :
  exS 49 (cxF f1519 (d+24)) (nthS fb 6) k X [s0,pS (.bytes (flat ds)),pS (.list (avs ds)),s3,s4,s5,s6,s7,s8,s9,s10,s11,s12,s13,s14,s15,s16,s17,s18,s19,s20] =
  k .next [s0,pS (.bytes (flat ds)),pS (.list (avs ds)),s3,s4,s5,s6,s7,s8,s9,s10,s11,s12,s13,s14,s15,s16,s17,s18,s19,s20]:=by
 have al:=alk_avs (d:=d+9) h hl
 rw[q6,q61,t61,eO (s1470 (d:=d+2) h (by lia)),eO al,oS tr_t,nt_t,ifM_f,q62,q63,bnd_eq,bnd_eq,bnd_eq,q64,ev6 (d:=d+1) h hl,bnd_eq,t62,ret_eq,bnd_eq]
 show okO (cN (d+24) 1514 [.list (avs ds),.list (avs ds)] []) _ _ _=_
 rw[al,okO_s,tr_t,liftO_s,ret_eq,nt_t,ifM_f,ret_eq,ifM_f]
 rfl
noncomputable def off (ds:List Doc) (k:Nat):Nat:=(flat (ds.take k)).length
theorem flat_app:∀a b:List Doc,flat (a++b)=flat a++flat b
 | [],b=>rfl
 | x::a,b=>by rw[List.cons_append,flat,flat,flat_app a b,List.append_assoc]
theorem flat_cut (ds:List Doc)(k:Nat):flat ds=flat (ds.take k)++flat (ds.drop k):=by rw[←flat_app,List.take_append_drop]
theorem off_le (ds:List Doc)(k:Nat):off ds k≤(flat ds).length:=by
 unfold off; rw[flat_cut ds k,List.length_append]; lia
theorem off_mono (ds:List Doc){i j:Nat}(h:i≤j):off ds i≤off ds j:=by
 unfold off
 rw[show ds.take i=(ds.take j).take i by rw[List.take_take,Nat.min_eq_left h],flat_cut (ds.take j) i,List.length_append]
 simp
theorem bords_at:∀(ds:List Doc) (q k:Nat),k≤ds.length→(bords q ds)[k]?=some (q+off ds k)
 | [],q,k,h=>by
  have:k=0:=by simpa using h
  subst this; rfl
 | f::r,q,0,h=>rfl
 | f::r,q,k+1,h=>by
  show (bords (q+(ocD f).length) r)[k]?=_
  rw[bords_at r _ k (by simpa using h)]
  unfold off
  rw[List.take_succ_cons,flat,List.length_append]
  congr 1
  lia
theorem list_item {xs:List AV}{i:Int}{k:Nat}{v:AV}(hi:i=k)(h:xs[k]?=some v):itemA (.list xs) (.int i)=some v:=by
 have hk:k<xs.length:=by
  have:=List.getElem?_eq_some_iff.mp h
  exact this.1
 exact (obS (idx_pos hi hk)).trans h
theorem bord_item {ds:List Doc}{i:Int}{k:Nat}(hi:i=k)(h:k≤ds.length):itemA (.list (ivs (bords 0 ds))) (.int i)=some (.int (off ds k:Nat)):=by
 refine list_item hi ?_
 unfold ivs
 rw[List.getElem?_map,bords_at ds 0 k h,Nat.zero_add]
 rfl
theorem cut_lo {α:Type}{xs:List α}{i:Int}{k:Nat}(hi:i=k)(h:k≤xs.length):cutL xs none (some i)=xs.take k:=by
 unfold cutL
 show (xs.drop 0).take (clipAt xs.length i-0)=_
 rw[hi,clip_nat h]
 simp
theorem cut_hi {α:Type}{xs:List α}{i:Int}{k:Nat}(hi:i=k)(h:k≤xs.length):cutL xs (some i) none=xs.drop k:=by
 unfold cutL
 show (xs.drop (clipAt xs.length i)).take (xs.length-clipAt xs.length i)=_
 rw[hi,clip_nat h,List.take_of_length_le (by rw[List.length_drop]; lia)]
theorem cut_mid {α:Type}{xs:List α}{a b:Int}{i j:Nat}(ha:a=i)(hb:b=j)(h:i≤j)(hj:j≤xs.length):cutL xs (some a) (some b)=(xs.take j).drop i:=by
 unfold cutL
 show (xs.drop (clipAt xs.length a)).take (clipAt xs.length b-clipAt xs.length a)=_
 rw[ha,hb,clip_nat (p:=i) (by lia),clip_nat (p:=j) hj,List.drop_take]
theorem oct_lo {ds:List Doc}{i:Int}{k:Nat}(hi:i=(off ds k:Nat)):cutL (flat ds) none (some i)=flat (ds.take k):=by
 rw[cut_lo hi (off_le ds k)]
 unfold off
 rw[flat_cut ds k,List.take_left]
theorem oct_hi {ds:List Doc}{i:Int}{k:Nat}(hi:i=(off ds k:Nat)):cutL (flat ds) (some i) none=flat (ds.drop k):=by
 rw[cut_hi hi (off_le ds k)]
 unfold off
 rw[flat_cut ds k,List.drop_left]
theorem oct_mid {ds:List Doc}{a b:Int}{i j:Nat}(ha:a=(off ds i:Nat))(hb:b=(off ds j:Nat))(h:i≤j):cutL (flat ds) (some a) (some b)=flat ((ds.take j).drop i):=by
 rw[cut_mid ha hb (off_mono ds h) (off_le ds j)]
 have e1:(flat ds).take (off ds j)=flat (ds.take j):=by
  unfold off
  conv=>lhs; rw[flat_cut ds j]
  rw[List.take_left]
 rw[e1]
 unfold off
 rw[flat_cut (ds.take j) i,show (ds.take j).take i=ds.take i by rw[List.take_take,Nat.min_eq_left h],List.drop_left]
theorem one_mid {ds:List Doc}{k:Nat}{f:Doc}(h:ds[k]?=some f):(ds.take (k+1)).drop k=[f]:=by
 have hk:k<ds.length:=(List.getElem?_eq_some_iff.mp h).1
 rw[List.drop_take,show k+1-k=1 by lia,List.drop_eq_getElem_cons hk,List.take_succ_cons,List.take_zero]
 rw[List.getElem?_eq_getElem hk] at h
 obtain rfl:=sI h; rfl
theorem flat_one (f:Doc):flat [f]=ocD f:=by rw[flat,flat,List.append_nil]
theorem avs_lo {ds:List Doc}{i:Int}{k:Nat}(hi:i=k)(h:k≤ds.length):cutL (avs ds) none (some i)=avs (ds.take k):=by
 rw[cut_lo hi (by unfold avs; rw[List.length_map]; exact h)]
 unfold avs; rw[List.map_take]
theorem avs_hi {ds:List Doc}{i:Int}{k:Nat}(hi:i=k)(h:k≤ds.length):cutL (avs ds) (some i) none=avs (ds.drop k):=by
 rw[cut_hi hi (by unfold avs; rw[List.length_map]; exact h)]
 unfold avs; rw[List.map_drop]
theorem avs_app (a b:List Doc):avs (a++b)=avs a++avs b:=by unfold avs; rw[List.map_append]
theorem avs_len (a:List Doc):(avs a).length=a.length:=by unfold avs; rw[List.length_map]
theorem avs_item {ds:List Doc}{i:Int}{k:Nat}{f:Doc}(hi:i=k)(h:ds[k]?=some f):itemA (.list (avs ds)) (.int i)=some (dictF f):=by
 refine list_item hi ?_
 unfold avs; rw[List.getElem?_map,h]; rfl
theorem add_l {x y:List AV}(h:x.length+y.length≤16777216):binA .Add (.list x) (.list y)=some (.list (x++y)):=by
 exact gdT (decide_eq_true h)
theorem AllD.app {a b:List Doc}(ha:AllD a)(hb:AllD b):AllD (a++b):=fun f hf=>by
 rcases List.mem_append.mp hf with h|h
 ·exact ha f h
 ·exact hb f h
theorem AllD.take {a:List Doc}(h:AllD a)(k:Nat):AllD (a.take k):=fun f hf=>h f (List.mem_of_mem_take hf)
theorem AllD.drop {a:List Doc}(h:AllD a)(k:Nat):AllD (a.drop k):=fun f hf=>h f (List.mem_of_mem_drop hf)
theorem AllD.one {f:Doc}(h:DocOK f):AllD [f]:=fun g hg=>by rw[List.mem_singleton.mp hg]; exact h
noncomputable def itD (i:UInt8) (f:Doc):Fld:=⟨3,[i],S "",ocD f,dictF f⟩
noncomputable def rowF:UInt8→List Doc→List Fld
 | _,[]=>[]
 | i,f::r=>itD i f::rowF (i+1) r
noncomputable def flRow (ds:List Doc):Fld:=⟨4,[108],S "l",held (bodyF (rowF 48 ds)),.list (avs ds)⟩
theorem itD_ok {f:Doc}(h:DocOK f)(i:UInt8):ItmOK 18 14 i (itD i f):={ toPayOK:=h.pay,nm:=rfl }
theorem itD_oc {f:Doc}(h:DocOK f)(i:UInt8):(itD i f).oc.length≤98:=by
 rw[oc_len]
 show 1+(ocD f).length+2≤98
 rw[ocD_len]; have:=h.sm; lia
theorem row_v:∀(ds:List Doc) (i:UInt8),(rowF i ds).map Fld.v=avs ds
 | [],i=>rfl
 | f::r,i=>by rw[rowF,List.map_cons,row_v r]; rfl
theorem row_len:∀(ds:List Doc) (i:UInt8),(rowF i ds).length=ds.length
 | [],i=>rfl
 | f::r,i=>by rw[rowF,List.length_cons,row_len r,List.length_cons]
theorem row_body:∀(ds:List Doc) (i:UInt8),AllD ds→(bodyF (rowF i ds)).length≤ds.length*98
 | [],i,_=>Nat.zero_le _
 | f::r,i,h=>by
  rw[rowF,bodyF,List.length_append,List.length_cons]
  have:=row_body r (i+1) h.tail
  have:=itD_oc h.head i
  lia
theorem row_it:∀(ds:List Doc) (i:Nat),AllD ds→0<i→i+ds.length<256→∀g∈rowF i.toUInt8 ds,∃j,j≠0∧ItmOK 18 14 j g
 | [],i,_,_,_,g,hg=>nomatch hg
 | f::r,i,h,h0,hi,g,hg=>by
  rw[List.length_cons] at hi
  rcases List.mem_cons.mp hg with rfl|hg
  ·refine ⟨i.toUInt8,fun e=>?_,itD_ok h.head _⟩
   have:=congrArg UInt8.toNat e
   have e2:i.toUInt8.toNat=i:=by
    show i % 2 ^ 8=i
    lia
   rw[e2] at this
   simp at this
   lia
  ·have e3:i.toUInt8+1=(i+1).toUInt8:=by
    apply UInt8.toNat_inj.mp
    simp[UInt8.toNat_add]
   rw[e3] at hg
   exact row_it r (i+1) h.tail (by lia) (by lia) g hg
theorem flRow_ok {ds:List Doc}(h:AllD ds)(hl:ds.length≤4):FldOK 20 16 (flRow ds):=by
 have hb:=row_body ds 48 h
 have hlen:(flRow ds).pay.length=(bodyF (rowF 48 ds)).length+5:=held_len _
 refine .mk' nm_l ⟨by show (4:UInt8)≠0; decide,by lia,fun d=>?_,fun d=>?_,fun d=>?_⟩
 ·have:=rd_its (D:=16) (E:=14) (fs:=rowF 48 ds) (row_it ds 48 h (by decide) (by lia)) (by rw[row_len]; lia) (by lia) d
  rw[row_v] at this
  exact this
 ·show EnP (d+16) 4 (held (bodyF (rowF 48 ds))) (.list (avs ds))
  rcases ds with _|⟨x,_|⟨y,_|⟨z,_|⟨w,_|⟨v,r⟩⟩⟩⟩⟩
  ·exact enP_l0
  ·exact enP_l1 (d:=d) (E:=13) (itD_ok (h x (by simp)) 48)
  ·exact enP_l2 (d:=d) (E:=13) (itD_ok (h x (by simp)) 48) (itD_ok (h y (by simp)) 49)
  ·exact enP_l3 (d:=d) (E:=13) (itD_ok (h x (by simp)) 48) (itD_ok (h y (by simp)) 49) (itD_ok (h z (by simp)) 50)
  ·exact enP_l4 (d:=d) (E:=13) (itD_ok (h x (by simp)) 48) (itD_ok (h y (by simp)) 49) (itD_ok (h z (by simp)) 50) (itD_ok (h w (by simp)) 51)
  ·simp at hl
 ·have:=alk_avs (d:=d+1) h hl
  exact this
theorem s1447r {d:Nat} {ds:List Doc} (h:AllD ds) (hl:ds.length≤4):cN (d+19) 1447 [.dict [(S "l",.list (avs ds))]] []=some (.ok (.bytes (held (bodyF [flRow ds])))):=by
 have h0:=flRow_ok h hl
 rw[m1447,eO]
 rw[m1439_5,eO (show cN (d+17) 1431 [.str (S "l"),.list (avs ds),.bool false,.obj 262] []=some (.ok (.bytes (flRow ds).oc)) from h0.elem (E:=14) d),oS (join1 (by have:=h0.ocl; lia))]
 exact close_m (d:=d+16) (l:=(flRow ds).oc++[]) (by have:=h0.ocl; rw[List.append_nil]; lia)
theorem s1238g {D E d:Nat}{f:Doc}(fo:∀g∈f,FldOK (D+2) E g)(few:f.length<100)(hs:(bodyF f).length≤16000000):cN (d+D+5) 1238 [.bytes (ocD f),.obj 262] []=some (.ok (dictF f)):=by
 have hl:=ocD_len f
 have z:=zero_at (Has.self (ocD f))
 have g:=s1119 (d:=d+D+1) (b:=ocD f) (p:=0) (n:=(bodyF f).length+5) (e:=(ocD f).length) ⟨by lia,by lia⟩ (Has.self (ocD f)).left (by rwa [show 0+(bodyF f).length+4=0+((bodyF f).length+5)-1 by lia] at z) (by lia) (by lia) (fun J=>hl.symm)
 have h1:Has (ocD f) (0+4) (bodyF f++[0]):=by have:=(Has.self (ocD f)).right; rwa [lL] at this
 have c:=chain_of (d:=d+D) (oe:=0+(bodyF f).length+4) (b:=ocD f) (by lia) f (0+4) (fun g hg=>⟨(fo g hg).nz,(fo g hg).dec,(fo g hg).rd d⟩) (by lia) h1.left (by lia)
 have e:=s1231 c (by rw[List.length_map]; exact few)
 rw[m1238,eO s1084,onTL_t,decide_eq_true (by rfl),cnd_t,consL_c,consL_c,consL_n,oS len_b,
  eO (show cN (d+D+4) 1119 [.bytes (ocD f),.int 0,.int ((ocD f).length:Nat)] []=some (.ok (.tup [.int ((bodyF f).length+5:Nat),.int (0+((bodyF f).length+5)-1:Nat)])) from g),onTL_t,decide_eq_true (by rfl),cnd_t,consL_c,consL_c,consL_n,
  show 0+((bodyF f).length+5)-1=0+(bodyF f).length+4 by lia,
  eO (show cN (d+D+4) 1231 [.bytes (ocD f),.bytes (ocD f),.int 4,.int (0+(bodyF f).length+4:Nat),.obj 262] []=some (.ok (dictF f)) from e)]
theorem s1455r {d:Nat} {ds:List Doc} (h:AllD ds) (hl:ds.length≤4):cN (d+24) 1455 [.bytes (held (bodyF [flRow ds]))] []=some (.ok (.dict [(S "l",.list (avs ds))])):=by
 have h0:=flRow_ok h hl
 have:=s1238g (D:=18) (E:=16) (d:=d) (f:=[flRow ds]) (all1 h0) (od rfl) (by show ((flRow ds).oc++[]).length≤_; have:=h0.ocl; rw[List.append_nil]; lia)
 rw[m1455,eO (show cN (d+23) 1238 [.bytes (held (bodyF [flRow ds])),.obj 262] []=some (.ok (dictF [flRow ds])) from this)]
 rfl
inductive Sh (s0:Option Slot) (ds:List Doc) (s3 s4:Option Slot) (e:AEnv):Prop where
 | mk (r5 r6 r7 r8 r9 r10 r11 r12 r13 r14 r15 r16 r17 r18 r19 r20:Option Slot) (h:e=[s0,pS (.bytes (flat ds)),pS (.list (avs ds)),s3,s4,r5,r6,r7,r8,r9,r10,r11,r12,r13,r14,r15,r16,r17,r18,r19,r20])
set_option tactic.hygienic true in
theorem br0 {d:Nat}{ds:List Doc}(h:AllD ds)(hl:ds.length≤3){K:Nat}(hK:K≤ds.length){yy:Int}{mv:AV}{f:Doc}(m:Made yy mv f)(s0 s3 s4 s5 s7 s8 s11 s12 s13 s14 s15 s16 s17 s18 s19 s20:Option Slot) :
  ∃e',Sh s0 (ds.take K++[f]++ds.drop K) s3 s4 e'∧∀(R:Type) (k:KF R) (X:KX R),exs 49 (cxF f1519 (d+24)) (ifB cc0) k X [s0,pS (.bytes (flat ds)),pS (.list (avs ds)),s3,s4,s5,pS (.int yy),s7,s8,pS (.int (K:Nat)),pS (.int (off ds K:Nat)),s11,s12,s13,s14,s15,s16,s17,s18,s19,s20]=k .next e':=by
 have hfl:=flat_le h
 have hsm:=m.ok.sm
 have hof:=ocD_len f
 have e1:cutL (flat ds) none (some ((off ds K:Nat):Int))=flat (ds.take K):=oct_lo rfl
 have e2:cutL (flat ds) (some ((off ds K:Nat):Int)) none=flat (ds.drop K):=oct_hi rfl
 have e3:cutL (avs ds) none (some ((K:Nat):Int))=avs (ds.take K):=avs_lo rfl hK
 have e4:cutL (avs ds) (some ((K:Nat):Int)) none=avs (ds.drop K):=avs_hi rfl hK
 have l1:=flat_le (h.take K)
 have l2:=flat_le (h.drop K)
 have l3:(ds.take K).length≤3:=by rw[List.length_take]; lia
 have l4:(ds.drop K).length≤3:=by rw[List.length_drop]; lia
 refine ⟨[s0,pS (.bytes (flat (ds.take K++[f]++ds.drop K))),pS (.list (avs (ds.take K++[f]++ds.drop K))),s3,s4,s5,pS (.int yy),s7,s8,pS (.int (K:Nat)),pS (.int (off ds K:Nat)),s11,s12,pS mv,pS (dictF f),pS (.bytes (ocD f)),s16,s17,s18,s19,s20],⟨_,_,_,_,_,_,_,_,_,_,_,_,_,_,_,_,rfl⟩,fun R k X=>?_⟩
 rw[h0,eO (m.run (d+21)),onTL_t,decide_eq_true (by rfl),cnd_t,consL_c,consL_c,consL_c,consL_n,eO (m.enc (d+8)),oS (show cmpA .NotEq (.bytes (ocD f)) (.bytes (ocD f))=some (!decide (ocD f=ocD f)) from rfl),decide_eq_true rfl,nt_t,cnd_f,e1,e2,e3,e4,
  oS (add_b (by lia)),oS (add_b (by rw[List.length_append]; lia)),oS (add_l (by rw[avs_len]; simp; lia)),oS (add_l (by rw[List.length_append,avs_len,avs_len]; simp; lia))]
 rw[flat_app,flat_app,flat_one,avs_app,avs_app]
 rfl
set_option tactic.hygienic true in
theorem br1 {d:Nat}{ds:List Doc}(h:AllD ds)(hl:ds.length≤3){K:Nat}(hK:K≤ds.length)(hk:K<ds.length)(s0 s3 s4 s5 s6 s8 s11 s12 s13 s14 s15 s16 s17 s18 s19 s20:Option Slot) :
  ∃e',Sh s0 (ds.take K++ds.drop (K+1)) s3 s4 e'∧∀(R:Type) (k:KF R) (X:KX R),exs 47 (cxF f1519 (d+24)) (ifB cc1) k X [s0,pS (.bytes (flat ds)),pS (.list (avs ds)),s3,s4,s5,s6,pS (.list (ivs (bords 0 ds))),s8,pS (.int (K:Nat)),pS (.int (off ds K:Nat)),s11,s12,s13,s14,s15,s16,s17,s18,s19,s20]=k .next e':=by
 have e1:cutL (flat ds) none (some ((off ds K:Nat):Int))=flat (ds.take K):=oct_lo rfl
 have e2:cutL (flat ds) (some ((off ds (K+1):Nat):Int)) none=flat (ds.drop (K+1)):=oct_hi rfl
 have e3:cutL (avs ds) none (some ((K:Nat):Int))=avs (ds.take K):=avs_lo rfl hK
 have e4:cutL (avs ds) (some (((K:Nat):Int)+1)) none=avs (ds.drop (K+1)):=avs_hi rfl hk
 have l1:=flat_le (h.take K)
 have l2:=flat_le (h.drop (K+1))
 have l3:(ds.take K).length≤3:=by rw[List.length_take]; lia
 have l4:(ds.drop (K+1)).length≤3:=by rw[List.length_drop]; lia
 refine ⟨[s0,pS (.bytes (flat (ds.take K++ds.drop (K+1)))),pS (.list (avs (ds.take K++ds.drop (K+1)))),s3,s4,s5,s6,pS (.list (ivs (bords 0 ds))),s8,pS (.int (K:Nat)),pS (.int (off ds K:Nat)),s11,s12,s13,s14,s15,s16,s17,s18,s19,s20],⟨_,_,_,_,_,_,_,_,_,_,_,_,_,_,_,_,rfl⟩,fun R k X=>?_⟩
 rw[h1,oS (bord_item (i:=(K:Int)+1) (k:=K+1) rfl hk),oS part_i,e1,e2,e3,e4,oS (add_b (by lia)),oS (add_l (by rw[avs_len,avs_len]; lia))]
 rw[flat_app,avs_app]
set_option tactic.hygienic true in
theorem br3 {d:Nat}{ds:List Doc}(h:AllD ds)(hl:ds.length≤3){K:Nat}(hK:K≤ds.length)  (s0 s3 s4 s5 s6 s7 s8 s11 s12 s13 s14 s15 s16 s17 s18 s19 s20:Option Slot) :
  ∃e',Sh s0 (ds.drop K++ds.take K) s3 s4 e'∧∀(R:Type) (k:KF R) (X:KX R),exs 43 (cxF f1519 (d+24)) (ifB cc3) k X [s0,pS (.bytes (flat ds)),pS (.list (avs ds)),s3,s4,s5,s6,s7,s8,pS (.int (K:Nat)),pS (.int (off ds K:Nat)),s11,s12,s13,s14,s15,s16,s17,s18,s19,s20]=k .next e':=by
 have e1:cutL (flat ds) none (some ((off ds K:Nat):Int))=flat (ds.take K):=oct_lo rfl
 have e2:cutL (flat ds) (some ((off ds K:Nat):Int)) none=flat (ds.drop K):=oct_hi rfl
 have e3:cutL (avs ds) none (some ((K:Nat):Int))=avs (ds.take K):=avs_lo rfl hK
 have e4:cutL (avs ds) (some ((K:Nat):Int)) none=avs (ds.drop K):=avs_hi rfl hK
 have l1:=flat_le (h.take K)
 have l2:=flat_le (h.drop K)
 have l3:(ds.take K).length≤3:=by rw[List.length_take]; lia
 have l4:(ds.drop K).length≤3:=by rw[List.length_drop]; lia
 refine ⟨[s0,pS (.bytes (flat (ds.drop K++ds.take K))),pS (.list (avs (ds.drop K++ds.take K))),s3,s4,s5,s6,s7,s8,pS (.int (K:Nat)),pS (.int (off ds K:Nat)),s11,s12,s13,s14,s15,s16,s17,s18,s19,s20],⟨_,_,_,_,_,_,_,_,_,_,_,_,_,_,_,_,rfl⟩,fun R k X=>?_⟩
 rw[h3,e1,e2,e3,e4,oS (add_b (by lia)),oS (add_l (by rw[avs_len,avs_len]; lia))]
 rw[flat_app,avs_app]
set_option tactic.hygienic true in
theorem br4 {d:Nat}{ds:List Doc}(h:AllD ds)(hl:ds.length≤3){K:Nat}(hK:K≤ds.length){O:Nat}{f:Doc}(hf:DocOK f)(hO:ds[O]?=some f)(s0 s3 s4 s5 s6 s7 s8 s13 s14 s15 s16 s17 s18 s19 s20:Option Slot) :
  ∃e',Sh s0 (ds.take K++[f]++ds.drop K) s3 s4 e'∧∀(R:Type) (k:KF R) (X:KX R),exs 41 (cxF f1519 (d+24)) (ifB cc4) k X [s0,pS (.bytes (flat ds)),pS (.list (avs ds)),s3,s4,s5,s6,s7,s8,pS (.int (K:Nat)),pS (.int (off ds K:Nat)),pS (.int (O:Nat)),pS (.bytes (ocD f)),s13,s14,s15,s16,s17,s18,s19,s20]=k .next e':=by
 have e1:cutL (flat ds) none (some ((off ds K:Nat):Int))=flat (ds.take K):=oct_lo rfl
 have e2:cutL (flat ds) (some ((off ds K:Nat):Int)) none=flat (ds.drop K):=oct_hi rfl
 have e3:cutL (avs ds) none (some ((K:Nat):Int))=avs (ds.take K):=avs_lo rfl hK
 have e4:cutL (avs ds) (some ((K:Nat):Int)) none=avs (ds.drop K):=avs_hi rfl hK
 have hsm:=hf.sm
 have hof:=ocD_len f
 have l1:=flat_le (h.take K)
 have l2:=flat_le (h.drop K)
 have l3:(ds.take K).length≤3:=by rw[List.length_take]; lia
 have l4:(ds.drop K).length≤3:=by rw[List.length_drop]; lia
 refine ⟨[s0,pS (.bytes (flat (ds.take K++[f]++ds.drop K))),pS (.list (avs (ds.take K++[f]++ds.drop K))),s3,s4,s5,s6,s7,s8,pS (.int (K:Nat)),pS (.int (off ds K:Nat)),pS (.int (O:Nat)),pS (.bytes (ocD f)),s13,s14,s15,s16,s17,s18,s19,s20],⟨_,_,_,_,_,_,_,_,_,_,_,_,_,_,_,_,rfl⟩,fun R k X=>?_⟩
 rw[h4,e1,e2,e3,e4,oS (add_b (by lia)),oS (add_b (by rw[List.length_append]; lia)),oS (avs_item rfl hO),oS (add_l (by rw[avs_len]; simp; lia)),oS (add_l (by rw[List.length_append,avs_len,avs_len]; simp; lia))]
 rw[flat_app,flat_app,flat_one,avs_app,avs_app]
 rfl
set_option tactic.hygienic true in
theorem br5 {d:Nat}{ds:List Doc}(h:AllD ds)(hl:ds.length≤3){K:Nat}(hK:K≤ds.length)(hk:K<ds.length){O:Nat}{f:Doc}(hf:DocOK f)(hO:ds[O]?=some f)(s0 s3 s4 s5 s6 s8 s13 s14 s15 s16 s17 s18 s19 s20:Option Slot) :
  ∃e',Sh s0 (ds.take K++[f]++ds.drop (K+1)) s3 s4 e'∧∀(R:Type) (k:KF R) (X:KX R),exs 39 (cxF f1519 (d+24)) (ifB cc5) k X [s0,pS (.bytes (flat ds)),pS (.list (avs ds)),s3,s4,s5,s6,pS (.list (ivs (bords 0 ds))),s8,pS (.int (K:Nat)),pS (.int (off ds K:Nat)),pS (.int (O:Nat)),pS (.bytes (ocD f)),s13,s14,s15,s16,s17,s18,s19,s20]=k .next e':=by
 have e1:cutL (flat ds) none (some ((off ds K:Nat):Int))=flat (ds.take K):=oct_lo rfl
 have e2:cutL (flat ds) (some ((off ds (K+1):Nat):Int)) none=flat (ds.drop (K+1)):=oct_hi rfl
 have e3:cutL (avs ds) none (some ((K:Nat):Int))=avs (ds.take K):=avs_lo rfl hK
 have e4:cutL (avs ds) (some (((K:Nat):Int)+1)) none=avs (ds.drop (K+1)):=avs_hi rfl hk
 have hsm:=hf.sm
 have hof:=ocD_len f
 have l1:=flat_le (h.take K)
 have l2:=flat_le (h.drop (K+1))
 have l3:(ds.take K).length≤3:=by rw[List.length_take]; lia
 have l4:(ds.drop (K+1)).length≤3:=by rw[List.length_drop]; lia
 refine ⟨[s0,pS (.bytes (flat (ds.take K++[f]++ds.drop (K+1)))),pS (.list (avs (ds.take K++[f]++ds.drop (K+1)))),s3,s4,s5,s6,pS (.list (ivs (bords 0 ds))),s8,pS (.int (K:Nat)),pS (.int (off ds K:Nat)),pS (.int (O:Nat)),pS (.bytes (ocD f)),s13,s14,s15,s16,s17,s18,s19,s20],⟨_,_,_,_,_,_,_,_,_,_,_,_,_,_,_,_,rfl⟩,fun R k X=>?_⟩
 rw[h5,oS (add_b (by rw[e1]; lia)),oS (bord_item (i:=(K:Int)+1) (k:=K+1) rfl hk),oS part_i,e1,e2,e3,e4,oS (add_b (by rw[List.length_append]; lia)),oS (avs_item rfl hO),oS (add_l (by rw[avs_len]; simp; lia)),oS (add_l (by rw[List.length_append,avs_len,avs_len]; simp; lia))]
 rw[flat_app,flat_app,flat_one,avs_app,avs_app]
 rfl
inductive ResB (d n:Nat) (B:List Stmt) (s0 s3 s4:Option Slot) (m:Nat) (E:AEnv):Prop where
 | mk (ds':List Doc) (e':AEnv) (h1:AllD ds') (h2:ds'.length≤m+1) (h3:Sh s0 ds' s3 s4 e') (h4:∀(R:Type) (k:KF R) (X:KX R),exs n (cxF f1519 (d+24)) B k X E=k .next e')
theorem AllD.cons {f:Doc}{r:List Doc}(h:DocOK f)(hr:AllD r):AllD (f::r):=fun g hg=>by
 rcases List.mem_cons.mp hg with rfl|hg
 ·exact h
 ·exact hr g hg
theorem le_left {a b:List UInt8}{n:Nat}(h:(a++b).length≤n):a.length≤n:=Nat.le_trans (by rw[List.length_append]; exact Nat.le_add_right _ _) h
theorem le_sum {a b:List UInt8}{n:Nat}(h:(a++b).length≤n):a.length+b.length≤n:=by rwa [List.length_append] at h
theorem AllD.nil:AllD []:=fun g hg=>nomatch hg
theorem q2b {R:Type}(d:Nat)(k:KF R)(X:KX R)(e:AEnv):exs 45 (cxF f1519 d) (ifB cc2) k X e=exs 45 (cxF f1519 d) (nthS (ifB cc2) 0::(ifB cc2).drop 1) k X e:=by kernel_rfl
theorem sw_2_0_1 {d:Nat}{a b:Doc}(ha:DocOK a)(hb:DocOK b){K O:Nat}(hlo:(if (O:Int)<(K:Int) then (O:Int) else (K:Int))=0)(hhi:(if (O:Int) > (K:Int) then (O:Int) else (K:Int))=1)(s0 s3 s4 s5 s6 s8 s10 s12 s13 s14 s15 s16 s17 s18 s19 s20:Option Slot):ResB d 45 (ifB cc2) s0 s3 s4 2 [s0,pS (.bytes (flat [a,b])),pS (.list (avs [a,b])),s3,s4,s5,s6,pS (.list (ivs (bords 0 [a,b]))),s8,pS (.int (K:Nat)),s10,pS (.int (O:Nat)),s12,s13,s14,s15,s16,s17,s18,s19,s20]:=by
 have hbo:ivs (bords 0 [a,b])=[.int (off [a,b] 0:Nat),.int (off [a,b] 1:Nat),.int (off [a,b] 2:Nat)]:=by simp[ivs,bords,off,flat]
 have eA:cutL (flat [a,b]) none (some ((off [a,b] 0:Nat):Int))=flat []:=oct_lo rfl
 have eB:cutL (flat [a,b]) (some ((off [a,b] 1:Nat):Int)) (some ((off [a,b] 2:Nat):Int))=flat [b]:=oct_mid rfl rfl (by decide)
 have eC:cutL (flat [a,b]) (some ((off [a,b] 1:Nat):Int)) (some ((off [a,b] 1:Nat):Int))=flat []:=oct_mid rfl rfl (by decide)
 have eD:cutL (flat [a,b]) (some ((off [a,b] 0:Nat):Int)) (some ((off [a,b] 1:Nat):Int))=flat [a]:=oct_mid rfl rfl (by decide)
 have eE:cutL (flat [a,b]) (some ((off [a,b] 2:Nat):Int)) none=flat []:=oct_hi rfl
 have la:=ocD_len a
 have ma:=ha.sm
 have lb:=ocD_len b
 have mb:=hb.sm
 have ef:cutL (flat [a,b]) none (some ((off [a,b] 0:Nat):Int))++cutL (flat [a,b]) (some ((off [a,b] 1:Nat):Int)) (some ((off [a,b] 2:Nat):Int))++cutL (flat [a,b]) (some ((off [a,b] 1:Nat):Int)) (some ((off [a,b] 1:Nat):Int))++cutL (flat [a,b]) (some ((off [a,b] 0:Nat):Int)) (some ((off [a,b] 1:Nat):Int))++cutL (flat [a,b]) (some ((off [a,b] 2:Nat):Int)) none=flat [b,a]:=by
  rw[eA,eB,eC,eD,eE]; simp[flat]
 have hs:AllD [b,a]:=.cons hb ( .cons ha (.nil))
 have hfl:(flat [b,a]).length≤16777216:=Nat.le_trans (flat_le hs) (od rfl)
 have hq:=ef▸hfl
 rw[hbo]
 refine ⟨[b,a],[s0,pS (.bytes (flat [b,a])),pS (.list (avs [b,a])),s3,s4,s5,s6,pS (.list [.int (off [a,b] 0:Nat),.int (off [a,b] 1:Nat),.int (off [a,b] 2:Nat)]),s8,pS (.int (K:Nat)),s10,pS (.int (O:Nat)),s12,s13,s14,s15,pS (.int 0),pS (.int 1),pS (.list [.bytes (cutL (flat [a,b]) (some ((off [a,b] 0:Nat):Int)) (some ((off [a,b] 1:Nat):Int))),.bytes (cutL (flat [a,b]) (some ((off [a,b] 1:Nat):Int)) (some ((off [a,b] 2:Nat):Int)))]),s19,s20],hs,by simp,⟨_,_,_,_,_,_,_,_,_,_,_,_,_,_,_,_,rfl⟩,fun R k X=>?_⟩
 rw[q2b,xS,h2p,hlo,hhi,sN]
 refine Eq.trans (h2_2_0_1 R (d+24) _ _ _ _ _ _ _ _ _ _ _ _ _ _ _ _ (flat [a,b]) _ _ _ _ _ k X) ?_
 have q4:=le_left hq
 have q3:=le_left q4
 have q2:=le_left q3
 refine (oS (add_b (le_sum q2))).trans ((oS (add_b (le_sum q3))).trans ((oS (add_b (le_sum q4))).trans ((oS (add_b (le_sum hq))).trans ?_))); rw[ef]
 rfl
theorem sw_3_0_1 {d:Nat}{a b c:Doc}(ha:DocOK a)(hb:DocOK b)(hc:DocOK c){K O:Nat}(hlo:(if (O:Int)<(K:Int) then (O:Int) else (K:Int))=0)(hhi:(if (O:Int) > (K:Int) then (O:Int) else (K:Int))=1)(s0 s3 s4 s5 s6 s8 s10 s12 s13 s14 s15 s16 s17 s18 s19 s20:Option Slot):ResB d 45 (ifB cc2) s0 s3 s4 3 [s0,pS (.bytes (flat [a,b,c])),pS (.list (avs [a,b,c])),s3,s4,s5,s6,pS (.list (ivs (bords 0 [a,b,c]))),s8,pS (.int (K:Nat)),s10,pS (.int (O:Nat)),s12,s13,s14,s15,s16,s17,s18,s19,s20]:=by
 have hbo:ivs (bords 0 [a,b,c])=[.int (off [a,b,c] 0:Nat),.int (off [a,b,c] 1:Nat),.int (off [a,b,c] 2:Nat),.int (off [a,b,c] 3:Nat)]:=by simp[ivs,bords,off,flat,Nat.add_assoc]
 have eA:cutL (flat [a,b,c]) none (some ((off [a,b,c] 0:Nat):Int))=flat []:=oct_lo rfl
 have eB:cutL (flat [a,b,c]) (some ((off [a,b,c] 1:Nat):Int)) (some ((off [a,b,c] 2:Nat):Int))=flat [b]:=oct_mid rfl rfl (by decide)
 have eC:cutL (flat [a,b,c]) (some ((off [a,b,c] 1:Nat):Int)) (some ((off [a,b,c] 1:Nat):Int))=flat []:=oct_mid rfl rfl (by decide)
 have eD:cutL (flat [a,b,c]) (some ((off [a,b,c] 0:Nat):Int)) (some ((off [a,b,c] 1:Nat):Int))=flat [a]:=oct_mid rfl rfl (by decide)
 have eE:cutL (flat [a,b,c]) (some ((off [a,b,c] 2:Nat):Int)) none=flat [c]:=oct_hi rfl
 have la:=ocD_len a
 have ma:=ha.sm
 have lb:=ocD_len b
 have mb:=hb.sm
 have lc:=ocD_len c
 have mc:=hc.sm
 have ef:cutL (flat [a,b,c]) none (some ((off [a,b,c] 0:Nat):Int))++cutL (flat [a,b,c]) (some ((off [a,b,c] 1:Nat):Int)) (some ((off [a,b,c] 2:Nat):Int))++cutL (flat [a,b,c]) (some ((off [a,b,c] 1:Nat):Int)) (some ((off [a,b,c] 1:Nat):Int))++cutL (flat [a,b,c]) (some ((off [a,b,c] 0:Nat):Int)) (some ((off [a,b,c] 1:Nat):Int))++cutL (flat [a,b,c]) (some ((off [a,b,c] 2:Nat):Int)) none=flat [b,a,c]:=by
  rw[eA,eB,eC,eD,eE]; simp[flat]
 have hs:AllD [b,a,c]:=.cons hb ( .cons ha ( .cons hc (.nil)))
 have hfl:(flat [b,a,c]).length≤16777216:=Nat.le_trans (flat_le hs) (od rfl)
 have hq:=ef▸hfl
 rw[hbo]
 refine ⟨[b,a,c],[s0,pS (.bytes (flat [b,a,c])),pS (.list (avs [b,a,c])),s3,s4,s5,s6,pS (.list [.int (off [a,b,c] 0:Nat),.int (off [a,b,c] 1:Nat),.int (off [a,b,c] 2:Nat),.int (off [a,b,c] 3:Nat)]),s8,pS (.int (K:Nat)),s10,pS (.int (O:Nat)),s12,s13,s14,s15,pS (.int 0),pS (.int 1),pS (.list [.bytes (cutL (flat [a,b,c]) (some ((off [a,b,c] 0:Nat):Int)) (some ((off [a,b,c] 1:Nat):Int))),.bytes (cutL (flat [a,b,c]) (some ((off [a,b,c] 1:Nat):Int)) (some ((off [a,b,c] 2:Nat):Int))),.bytes (cutL (flat [a,b,c]) (some ((off [a,b,c] 2:Nat):Int)) (some ((off [a,b,c] 3:Nat):Int)))]),s19,s20],hs,by simp,⟨_,_,_,_,_,_,_,_,_,_,_,_,_,_,_,_,rfl⟩,fun R k X=>?_⟩
 rw[q2b,xS,h2p,hlo,hhi,sN]
 refine Eq.trans (h2_3_0_1 R (d+24) _ _ _ _ _ _ _ _ _ _ _ _ _ _ _ _ (flat [a,b,c]) _ _ _ _ _ _ _ k X) ?_
 have q4:=le_left hq
 have q3:=le_left q4
 have q2:=le_left q3
 refine (oS (add_b (le_sum q2))).trans ((oS (add_b (le_sum q3))).trans ((oS (add_b (le_sum q4))).trans ((oS (add_b (le_sum hq))).trans ?_))); rw[ef]
 rfl
theorem sw_3_0_2 {d:Nat}{a b c:Doc}(ha:DocOK a)(hb:DocOK b)(hc:DocOK c){K O:Nat}(hlo:(if (O:Int)<(K:Int) then (O:Int) else (K:Int))=0)(hhi:(if (O:Int) > (K:Int) then (O:Int) else (K:Int))=2)(s0 s3 s4 s5 s6 s8 s10 s12 s13 s14 s15 s16 s17 s18 s19 s20:Option Slot):ResB d 45 (ifB cc2) s0 s3 s4 3 [s0,pS (.bytes (flat [a,b,c])),pS (.list (avs [a,b,c])),s3,s4,s5,s6,pS (.list (ivs (bords 0 [a,b,c]))),s8,pS (.int (K:Nat)),s10,pS (.int (O:Nat)),s12,s13,s14,s15,s16,s17,s18,s19,s20]:=by
 have hbo:ivs (bords 0 [a,b,c])=[.int (off [a,b,c] 0:Nat),.int (off [a,b,c] 1:Nat),.int (off [a,b,c] 2:Nat),.int (off [a,b,c] 3:Nat)]:=by simp[ivs,bords,off,flat,Nat.add_assoc]
 have eA:cutL (flat [a,b,c]) none (some ((off [a,b,c] 0:Nat):Int))=flat []:=oct_lo rfl
 have eB:cutL (flat [a,b,c]) (some ((off [a,b,c] 2:Nat):Int)) (some ((off [a,b,c] 3:Nat):Int))=flat [c]:=oct_mid rfl rfl (by decide)
 have eC:cutL (flat [a,b,c]) (some ((off [a,b,c] 1:Nat):Int)) (some ((off [a,b,c] 2:Nat):Int))=flat [b]:=oct_mid rfl rfl (by decide)
 have eD:cutL (flat [a,b,c]) (some ((off [a,b,c] 0:Nat):Int)) (some ((off [a,b,c] 1:Nat):Int))=flat [a]:=oct_mid rfl rfl (by decide)
 have eE:cutL (flat [a,b,c]) (some ((off [a,b,c] 3:Nat):Int)) none=flat []:=oct_hi rfl
 have la:=ocD_len a
 have ma:=ha.sm
 have lb:=ocD_len b
 have mb:=hb.sm
 have lc:=ocD_len c
 have mc:=hc.sm
 have ef:cutL (flat [a,b,c]) none (some ((off [a,b,c] 0:Nat):Int))++cutL (flat [a,b,c]) (some ((off [a,b,c] 2:Nat):Int)) (some ((off [a,b,c] 3:Nat):Int))++cutL (flat [a,b,c]) (some ((off [a,b,c] 1:Nat):Int)) (some ((off [a,b,c] 2:Nat):Int))++cutL (flat [a,b,c]) (some ((off [a,b,c] 0:Nat):Int)) (some ((off [a,b,c] 1:Nat):Int))++cutL (flat [a,b,c]) (some ((off [a,b,c] 3:Nat):Int)) none=flat [c,b,a]:=by
  rw[eA,eB,eC,eD,eE]; simp[flat]
 have hs:AllD [c,b,a]:=.cons hc ( .cons hb ( .cons ha (.nil)))
 have hfl:(flat [c,b,a]).length≤16777216:=Nat.le_trans (flat_le hs) (od rfl)
 have hq:=ef▸hfl
 rw[hbo]
 refine ⟨[c,b,a],[s0,pS (.bytes (flat [c,b,a])),pS (.list (avs [c,b,a])),s3,s4,s5,s6,pS (.list [.int (off [a,b,c] 0:Nat),.int (off [a,b,c] 1:Nat),.int (off [a,b,c] 2:Nat),.int (off [a,b,c] 3:Nat)]),s8,pS (.int (K:Nat)),s10,pS (.int (O:Nat)),s12,s13,s14,s15,pS (.int 0),pS (.int 2),pS (.list [.bytes (cutL (flat [a,b,c]) (some ((off [a,b,c] 0:Nat):Int)) (some ((off [a,b,c] 1:Nat):Int))),.bytes (cutL (flat [a,b,c]) (some ((off [a,b,c] 1:Nat):Int)) (some ((off [a,b,c] 2:Nat):Int))),.bytes (cutL (flat [a,b,c]) (some ((off [a,b,c] 2:Nat):Int)) (some ((off [a,b,c] 3:Nat):Int)))]),s19,s20],hs,by simp,⟨_,_,_,_,_,_,_,_,_,_,_,_,_,_,_,_,rfl⟩,fun R k X=>?_⟩
 rw[q2b,xS,h2p,hlo,hhi,sN]
 refine Eq.trans (h2_3_0_2 R (d+24) _ _ _ _ _ _ _ _ _ _ _ _ _ _ _ _ (flat [a,b,c]) _ _ _ _ _ _ _ k X) ?_
 have q4:=le_left hq
 have q3:=le_left q4
 have q2:=le_left q3
 refine (oS (add_b (le_sum q2))).trans ((oS (add_b (le_sum q3))).trans ((oS (add_b (le_sum q4))).trans ((oS (add_b (le_sum hq))).trans ?_))); rw[ef]
 rfl
theorem sw_3_1_2 {d:Nat}{a b c:Doc}(ha:DocOK a)(hb:DocOK b)(hc:DocOK c){K O:Nat}(hlo:(if (O:Int)<(K:Int) then (O:Int) else (K:Int))=1)(hhi:(if (O:Int) > (K:Int) then (O:Int) else (K:Int))=2)(s0 s3 s4 s5 s6 s8 s10 s12 s13 s14 s15 s16 s17 s18 s19 s20:Option Slot):ResB d 45 (ifB cc2) s0 s3 s4 3 [s0,pS (.bytes (flat [a,b,c])),pS (.list (avs [a,b,c])),s3,s4,s5,s6,pS (.list (ivs (bords 0 [a,b,c]))),s8,pS (.int (K:Nat)),s10,pS (.int (O:Nat)),s12,s13,s14,s15,s16,s17,s18,s19,s20]:=by
 have hbo:ivs (bords 0 [a,b,c])=[.int (off [a,b,c] 0:Nat),.int (off [a,b,c] 1:Nat),.int (off [a,b,c] 2:Nat),.int (off [a,b,c] 3:Nat)]:=by simp[ivs,bords,off,flat,Nat.add_assoc]
 have eA:cutL (flat [a,b,c]) none (some ((off [a,b,c] 1:Nat):Int))=flat [a]:=oct_lo rfl
 have eB:cutL (flat [a,b,c]) (some ((off [a,b,c] 2:Nat):Int)) (some ((off [a,b,c] 3:Nat):Int))=flat [c]:=oct_mid rfl rfl (by decide)
 have eC:cutL (flat [a,b,c]) (some ((off [a,b,c] 2:Nat):Int)) (some ((off [a,b,c] 2:Nat):Int))=flat []:=oct_mid rfl rfl (by decide)
 have eD:cutL (flat [a,b,c]) (some ((off [a,b,c] 1:Nat):Int)) (some ((off [a,b,c] 2:Nat):Int))=flat [b]:=oct_mid rfl rfl (by decide)
 have eE:cutL (flat [a,b,c]) (some ((off [a,b,c] 3:Nat):Int)) none=flat []:=oct_hi rfl
 have la:=ocD_len a
 have ma:=ha.sm
 have lb:=ocD_len b
 have mb:=hb.sm
 have lc:=ocD_len c
 have mc:=hc.sm
 have ef:cutL (flat [a,b,c]) none (some ((off [a,b,c] 1:Nat):Int))++cutL (flat [a,b,c]) (some ((off [a,b,c] 2:Nat):Int)) (some ((off [a,b,c] 3:Nat):Int))++cutL (flat [a,b,c]) (some ((off [a,b,c] 2:Nat):Int)) (some ((off [a,b,c] 2:Nat):Int))++cutL (flat [a,b,c]) (some ((off [a,b,c] 1:Nat):Int)) (some ((off [a,b,c] 2:Nat):Int))++cutL (flat [a,b,c]) (some ((off [a,b,c] 3:Nat):Int)) none=flat [a,c,b]:=by
  rw[eA,eB,eC,eD,eE]; simp[flat]
 have hs:AllD [a,c,b]:=.cons ha ( .cons hc ( .cons hb (.nil)))
 have hfl:(flat [a,c,b]).length≤16777216:=Nat.le_trans (flat_le hs) (od rfl)
 have hq:=ef▸hfl
 rw[hbo]
 refine ⟨[a,c,b],[s0,pS (.bytes (flat [a,c,b])),pS (.list (avs [a,c,b])),s3,s4,s5,s6,pS (.list [.int (off [a,b,c] 0:Nat),.int (off [a,b,c] 1:Nat),.int (off [a,b,c] 2:Nat),.int (off [a,b,c] 3:Nat)]),s8,pS (.int (K:Nat)),s10,pS (.int (O:Nat)),s12,s13,s14,s15,pS (.int 1),pS (.int 2),pS (.list [.bytes (cutL (flat [a,b,c]) (some ((off [a,b,c] 0:Nat):Int)) (some ((off [a,b,c] 1:Nat):Int))),.bytes (cutL (flat [a,b,c]) (some ((off [a,b,c] 1:Nat):Int)) (some ((off [a,b,c] 2:Nat):Int))),.bytes (cutL (flat [a,b,c]) (some ((off [a,b,c] 2:Nat):Int)) (some ((off [a,b,c] 3:Nat):Int)))]),s19,s20],hs,by simp,⟨_,_,_,_,_,_,_,_,_,_,_,_,_,_,_,_,rfl⟩,fun R k X=>?_⟩
 rw[q2b,xS,h2p,hlo,hhi,sN]
 refine Eq.trans (h2_3_1_2 R (d+24) _ _ _ _ _ _ _ _ _ _ _ _ _ _ _ _ (flat [a,b,c]) _ _ _ _ _ _ _ k X) ?_
 have q4:=le_left hq
 have q3:=le_left q4
 have q2:=le_left q3
 refine (oS (add_b (le_sum q2))).trans ((oS (add_b (le_sum q3))).trans ((oS (add_b (le_sum q4))).trans ((oS (add_b (le_sum hq))).trans ?_))); rw[ef]
 rfl
theorem q6b {R:Type}(d:Nat)(k:KF R)(X:KX R)(e:AEnv):exs 37 (cxF f1519 d) (ifB cc6) k X e=exs 37 (cxF f1519 d) (nthS (ifB cc6) 0::(ifB cc6).drop 1) k X e:=by kernel_rfl
theorem br6_1 {d:Nat}{a:Doc}(ha:DocOK a)(s0 s3 s4 s5 s6 s7 s8 s9 s10 s11 s12 s13 s14 s15 s16 s17 s18 s19 s20:Option Slot):ResB d 37 (ifB cc6) s0 s3 s4 1 [s0,pS (.bytes (flat [a])),pS (.list (avs [a])),s3,s4,s5,s6,s7,s8,s9,s10,s11,s12,s13,s14,s15,s16,s17,s18,s19,s20]:=by
 have h:AllD [a]:=.cons ha (.nil)
 have la:=held_len (bodyF a)
 have ma:=ha.sm
 refine ⟨[a],[s0,pS (.bytes (flat [a])),pS (.list (avs [a])),s3,s4,s5,s6,s7,s8,s9,s10,s11,s12,s13,s14,s15,s16,s17,s18,pS (.list (avs [a])),s20],h,by simp,⟨_,_,_,_,_,_,_,_,_,_,_,_,_,_,_,_,rfl⟩,fun R k X=>?_⟩
 rw[q6b,xS,h6a,eO (s1447r (d:=d+5) h (od rfl)),eO (s1455r (d:=d) h (od rfl)),oS (show itemA (.dict [(S "l",.list (avs [a]))]) (.str (S "l"))=some (.list (avs [a])) from by kernel_rfl),sN]
 refine Eq.trans (h6b_1 R (d+24) _ _ _ _ _ _ _ _ _ _ _ _ _ _ _ _ _ _ (flat [a]) (dictF a) k X) ?_
 have al:=alk_avs (d:=d+9) h (od rfl)
 rw[eO (show cN (d+24) 1514 [.list [dictF a],.list [dictF a]] []=some (.ok (.bool true)) from al),oS tr_t,nt_t,cnd_f,eO (ha.enc (d+8)),oS (join1 (by omega)),
  oS (show cmpA .NotEq (.bytes (held (bodyF a)++[])) (.bytes (flat [a]))=some (!decide (held (bodyF a)++[]=flat [a])) from rfl),decide_eq_true (show held (bodyF a)++[]=flat [a] from rfl),nt_t,cnd_f]
 rfl
theorem br6_2 {d:Nat}{a b:Doc}(ha:DocOK a)(hb:DocOK b)(s0 s3 s4 s5 s6 s7 s8 s9 s10 s11 s12 s13 s14 s15 s16 s17 s18 s19 s20:Option Slot):ResB d 37 (ifB cc6) s0 s3 s4 2 [s0,pS (.bytes (flat [a,b])),pS (.list (avs [a,b])),s3,s4,s5,s6,s7,s8,s9,s10,s11,s12,s13,s14,s15,s16,s17,s18,s19,s20]:=by
 have h:AllD [a,b]:=.cons ha ( .cons hb (.nil))
 have la:=held_len (bodyF a)
 have ma:=ha.sm
 have lb:=held_len (bodyF b)
 have mb:=hb.sm
 refine ⟨[a,b],[s0,pS (.bytes (flat [a,b])),pS (.list (avs [a,b])),s3,s4,s5,s6,s7,s8,s9,s10,s11,s12,s13,s14,s15,s16,s17,s18,pS (.list (avs [a,b])),s20],h,by simp,⟨_,_,_,_,_,_,_,_,_,_,_,_,_,_,_,_,rfl⟩,fun R k X=>?_⟩
 rw[q6b,xS,h6a,eO (s1447r (d:=d+5) h (od rfl)),eO (s1455r (d:=d) h (od rfl)),oS (show itemA (.dict [(S "l",.list (avs [a,b]))]) (.str (S "l"))=some (.list (avs [a,b])) from by kernel_rfl),sN]
 refine Eq.trans (h6b_2 R (d+24) _ _ _ _ _ _ _ _ _ _ _ _ _ _ _ _ _ _ (flat [a,b]) (dictF a) (dictF b) k X) ?_
 have al:=alk_avs (d:=d+9) h (od rfl)
 rw[eO (show cN (d+24) 1514 [.list [dictF a,dictF b],.list [dictF a,dictF b]] []=some (.ok (.bool true)) from al),oS tr_t,nt_t,cnd_f,eO (ha.enc (d+8)),eO (hb.enc (d+8)),oS (join2 (by omega)),
  oS (show cmpA .NotEq (.bytes (held (bodyF a)++(held (bodyF b)++[]))) (.bytes (flat [a,b]))=some (!decide (held (bodyF a)++(held (bodyF b)++[])=flat [a,b])) from rfl),decide_eq_true (show held (bodyF a)++(held (bodyF b)++[])=flat [a,b] from rfl),nt_t,cnd_f]
 rfl
theorem br6_3 {d:Nat}{a b c:Doc}(ha:DocOK a)(hb:DocOK b)(hc:DocOK c)(s0 s3 s4 s5 s6 s7 s8 s9 s10 s11 s12 s13 s14 s15 s16 s17 s18 s19 s20:Option Slot):ResB d 37 (ifB cc6) s0 s3 s4 3 [s0,pS (.bytes (flat [a,b,c])),pS (.list (avs [a,b,c])),s3,s4,s5,s6,s7,s8,s9,s10,s11,s12,s13,s14,s15,s16,s17,s18,s19,s20]:=by
 have h:AllD [a,b,c]:=.cons ha ( .cons hb ( .cons hc (.nil)))
 have la:=held_len (bodyF a)
 have ma:=ha.sm
 have lb:=held_len (bodyF b)
 have mb:=hb.sm
 have lc:=held_len (bodyF c)
 have mc:=hc.sm
 refine ⟨[a,b,c],[s0,pS (.bytes (flat [a,b,c])),pS (.list (avs [a,b,c])),s3,s4,s5,s6,s7,s8,s9,s10,s11,s12,s13,s14,s15,s16,s17,s18,pS (.list (avs [a,b,c])),s20],h,by simp,⟨_,_,_,_,_,_,_,_,_,_,_,_,_,_,_,_,rfl⟩,fun R k X=>?_⟩
 rw[q6b,xS,h6a,eO (s1447r (d:=d+5) h (od rfl)),eO (s1455r (d:=d) h (od rfl)),oS (show itemA (.dict [(S "l",.list (avs [a,b,c]))]) (.str (S "l"))=some (.list (avs [a,b,c])) from by kernel_rfl),sN]
 refine Eq.trans (h6b_3 R (d+24) _ _ _ _ _ _ _ _ _ _ _ _ _ _ _ _ _ _ (flat [a,b,c]) (dictF a) (dictF b) (dictF c) k X) ?_
 have al:=alk_avs (d:=d+9) h (od rfl)
 rw[eO (show cN (d+24) 1514 [.list [dictF a,dictF b,dictF c],.list [dictF a,dictF b,dictF c]] []=some (.ok (.bool true)) from al),oS tr_t,nt_t,cnd_f,eO (ha.enc (d+8)),eO (hb.enc (d+8)),eO (hc.enc (d+8)),oS (join3 (by omega)),
  oS (show cmpA .NotEq (.bytes (held (bodyF a)++(held (bodyF b)++(held (bodyF c)++[])))) (.bytes (flat [a,b,c]))=some (!decide (held (bodyF a)++(held (bodyF b)++(held (bodyF c)++[]))=flat [a,b,c])) from rfl),decide_eq_true (show held (bodyF a)++(held (bodyF b)++(held (bodyF c)++[]))=flat [a,b,c] from rfl),nt_t,cnd_f]
 rfl
theorem g2b (R:Type)(d:Nat)(s0 s1 s2 s3 s4 s5 s6 s7 s9 s10 s11 s12 s13 s14 s15 s16 s17 s18 s19 s20:Option Slot)(k:Bool→AEnv→Option R)(X:KX R):(tst 45 (cxF f1519 d) (ifT cc2)) k X [s0,s1,s2,s3,s4,s5,s6,s7,pS (.int 3),s9,s10,s11,s12,s13,s14,s15,s16,s17,s18,s19,s20]=((k false [s0,s1,s2,s3,s4,s5,s6,s7,(pS (.int 3)),s9,s10,s11,s12,s13,s14,s15,s16,s17,s18,s19,s20])):=by kernel_rfl
noncomputable def ifP:Stmt→Pos
 | .If _ _ _ p=>p
 | _=>default
theorem exS_if {R:Type}{n:Nat}{C:Ctx}{t:PySem.Expr}{b s:List Stmt}{p:Pos}{k:KF R}{X:KX R}{e:AEnv}:exS (n+1) C (.If t b s p) k X e=tst n C t (fun c e'=>ifM c (exs n C b) (exs n C s) k X e') X e:=rfl
theorem qc0 {R:Type}(d:Nat)(k:KF R)(X:KX R)(e:AEnv):exS 50 (cxF f1519 d) cc0 k X e=tst 49 (cxF f1519 d) (ifT cc0) (fun b e'=>ifM b (exs 49 (cxF f1519 d) (ifB cc0)) (exs 49 (cxF f1519 d) (ifE cc0)) k X e') X e :=
 (congrArg (fun s=>exS (49+1) (cxF f1519 d) s k X e) (show cc0=.If (ifT cc0) (ifB cc0) (ifE cc0) (ifP cc0) from by kernel_rfl)).trans exS_if
theorem qd0 {R:Type}(d:Nat)(k:KF R)(X:KX R)(e:AEnv):exs 49 (cxF f1519 d) (ifE cc0) k X e=exS 48 (cxF f1519 d) cc1 (seqK 48 (cxF f1519 d) [] k X) X e:=by kernel_rfl
theorem qe0 {R:Type}(d:Nat)(k:KF R)(X:KX R)(e:AEnv):exs 49 (cxF f1519 d) (ifE cc0) k X e=exS 48 (cxF f1519 d) cc1 k X e:=by
 rw[qd0,seqK_nil]
theorem qc1 {R:Type}(d:Nat)(k:KF R)(X:KX R)(e:AEnv):exS 48 (cxF f1519 d) cc1 k X e=tst 47 (cxF f1519 d) (ifT cc1) (fun b e'=>ifM b (exs 47 (cxF f1519 d) (ifB cc1)) (exs 47 (cxF f1519 d) (ifE cc1)) k X e') X e :=
 (congrArg (fun s=>exS (47+1) (cxF f1519 d) s k X e) (show cc1=.If (ifT cc1) (ifB cc1) (ifE cc1) (ifP cc1) from by kernel_rfl)).trans exS_if
theorem qd1 {R:Type}(d:Nat)(k:KF R)(X:KX R)(e:AEnv):exs 47 (cxF f1519 d) (ifE cc1) k X e=exS 46 (cxF f1519 d) cc2 (seqK 46 (cxF f1519 d) [] k X) X e:=by kernel_rfl
theorem qe1 {R:Type}(d:Nat)(k:KF R)(X:KX R)(e:AEnv):exs 47 (cxF f1519 d) (ifE cc1) k X e=exS 46 (cxF f1519 d) cc2 k X e:=by
 rw[qd1,seqK_nil]
theorem qc2 {R:Type}(d:Nat)(k:KF R)(X:KX R)(e:AEnv):exS 46 (cxF f1519 d) cc2 k X e=tst 45 (cxF f1519 d) (ifT cc2) (fun b e'=>ifM b (exs 45 (cxF f1519 d) (ifB cc2)) (exs 45 (cxF f1519 d) (ifE cc2)) k X e') X e :=
 (congrArg (fun s=>exS (45+1) (cxF f1519 d) s k X e) (show cc2=.If (ifT cc2) (ifB cc2) (ifE cc2) (ifP cc2) from by kernel_rfl)).trans exS_if
theorem qd2 {R:Type}(d:Nat)(k:KF R)(X:KX R)(e:AEnv):exs 45 (cxF f1519 d) (ifE cc2) k X e=exS 44 (cxF f1519 d) cc3 (seqK 44 (cxF f1519 d) [] k X) X e:=by kernel_rfl
theorem qe2 {R:Type}(d:Nat)(k:KF R)(X:KX R)(e:AEnv):exs 45 (cxF f1519 d) (ifE cc2) k X e=exS 44 (cxF f1519 d) cc3 k X e:=by
 rw[qd2,seqK_nil]
theorem qc3 {R:Type}(d:Nat)(k:KF R)(X:KX R)(e:AEnv):exS 44 (cxF f1519 d) cc3 k X e=tst 43 (cxF f1519 d) (ifT cc3) (fun b e'=>ifM b (exs 43 (cxF f1519 d) (ifB cc3)) (exs 43 (cxF f1519 d) (ifE cc3)) k X e') X e :=
 (congrArg (fun s=>exS (43+1) (cxF f1519 d) s k X e) (show cc3=.If (ifT cc3) (ifB cc3) (ifE cc3) (ifP cc3) from by kernel_rfl)).trans exS_if
theorem qd3 {R:Type}(d:Nat)(k:KF R)(X:KX R)(e:AEnv):exs 43 (cxF f1519 d) (ifE cc3) k X e=exS 42 (cxF f1519 d) cc4 (seqK 42 (cxF f1519 d) [] k X) X e:=by kernel_rfl
theorem qe3 {R:Type}(d:Nat)(k:KF R)(X:KX R)(e:AEnv):exs 43 (cxF f1519 d) (ifE cc3) k X e=exS 42 (cxF f1519 d) cc4 k X e:=by
 rw[qd3,seqK_nil]
theorem qc4 {R:Type}(d:Nat)(k:KF R)(X:KX R)(e:AEnv):exS 42 (cxF f1519 d) cc4 k X e=tst 41 (cxF f1519 d) (ifT cc4) (fun b e'=>ifM b (exs 41 (cxF f1519 d) (ifB cc4)) (exs 41 (cxF f1519 d) (ifE cc4)) k X e') X e :=
 (congrArg (fun s=>exS (41+1) (cxF f1519 d) s k X e) (show cc4=.If (ifT cc4) (ifB cc4) (ifE cc4) (ifP cc4) from by kernel_rfl)).trans exS_if
theorem qd4 {R:Type}(d:Nat)(k:KF R)(X:KX R)(e:AEnv):exs 41 (cxF f1519 d) (ifE cc4) k X e=exS 40 (cxF f1519 d) cc5 (seqK 40 (cxF f1519 d) [] k X) X e:=by kernel_rfl
theorem qe4 {R:Type}(d:Nat)(k:KF R)(X:KX R)(e:AEnv):exs 41 (cxF f1519 d) (ifE cc4) k X e=exS 40 (cxF f1519 d) cc5 k X e:=by
 rw[qd4,seqK_nil]
theorem qc5 {R:Type}(d:Nat)(k:KF R)(X:KX R)(e:AEnv):exS 40 (cxF f1519 d) cc5 k X e=tst 39 (cxF f1519 d) (ifT cc5) (fun b e'=>ifM b (exs 39 (cxF f1519 d) (ifB cc5)) (exs 39 (cxF f1519 d) (ifE cc5)) k X e') X e :=
 (congrArg (fun s=>exS (39+1) (cxF f1519 d) s k X e) (show cc5=.If (ifT cc5) (ifB cc5) (ifE cc5) (ifP cc5) from by kernel_rfl)).trans exS_if
theorem qd5 {R:Type}(d:Nat)(k:KF R)(X:KX R)(e:AEnv):exs 39 (cxF f1519 d) (ifE cc5) k X e=exS 38 (cxF f1519 d) cc6 (seqK 38 (cxF f1519 d) [] k X) X e:=by kernel_rfl
theorem qe5 {R:Type}(d:Nat)(k:KF R)(X:KX R)(e:AEnv):exs 39 (cxF f1519 d) (ifE cc5) k X e=exS 38 (cxF f1519 d) cc6 k X e:=by
 rw[qd5,seqK_nil]
theorem qc6 {R:Type}(d:Nat)(k:KF R)(X:KX R)(e:AEnv):exS 38 (cxF f1519 d) cc6 k X e=tst 37 (cxF f1519 d) (ifT cc6) (fun b e'=>ifM b (exs 37 (cxF f1519 d) (ifB cc6)) (exs 37 (cxF f1519 d) (ifE cc6)) k X e') X e :=
 (congrArg (fun s=>exS (37+1) (cxF f1519 d) s k X e) (show cc6=.If (ifT cc6) (ifB cc6) (ifE cc6) (ifP cc6) from by kernel_rfl)).trans exS_if
theorem qe6 {R:Type}(d:Nat)(k:KF R)(X:KX R)(e:AEnv):exs 37 (cxF f1519 d) (ifE cc6) k X e=k .next e:=by kernel_rfl
inductive ResS (d:Nat) (s0 s3 s4:Option Slot) (m:Nat) (E:AEnv):Prop where
 | mk (ds':List Doc) (e':AEnv) (h1:AllD ds') (h2:ds'.length≤m+1) (h3:Sh s0 ds' s3 s4 e') (h4:∀(R:Type) (k:KF R) (X:KX R),exS 50 (cxF f1519 (d+24)) cc0 k X E=k .next e')
theorem ResS.of {d n m:Nat}{B:List Stmt}{s0 s3 s4:Option Slot}{E E0:AEnv}(r:ResB d n B s0 s3 s4 m E)(h:∀(R:Type) (k:KF R) (X:KX R),exS 50 (cxF f1519 (d+24)) cc0 k X E0=exs n (cxF f1519 (d+24)) B k X E):ResS d s0 s3 s4 m E0:=by
 obtain ⟨ds',e',h1,h2,h3,h4⟩:=r
 exact ⟨ds',e',h1,h2,h3,fun R k X=>(h R k X).trans (h4 R k X)⟩
theorem ResB.of {d n m:Nat}{B:List Stmt}{s0 s3 s4:Option Slot}{E:AEnv}{ds':List Doc}(h1:AllD ds')(h2:ds'.length≤m+1)(r:∃e',Sh s0 ds' s3 s4 e'∧∀(R:Type) (k:KF R) (X:KX R),exs n (cxF f1519 (d+24)) B k X E=k .next e'):ResB d n B s0 s3 s4 m E:=by
 obtain ⟨e',h3,h4⟩:=r
 exact ⟨ds',e',h1,h2,h3,h4⟩
theorem lt_of {a b c:Nat}(h:a≤b)(h':a≠b):a<b:=by omega
theorem st5_0 {d:Nat}{ds:List Doc}(h:AllD ds)(hl:ds.length≤3){K:Nat}{yy:Int}(hK:K≤ds.length)(s0 s3 s4 s5 s11 s12 s13 s14 s15 s16 s17 s18 s19 s20:Option Slot):ResS d s0 s3 s4 ds.length [s0,pS (.bytes (flat ds)),pS (.list (avs ds)),s3,s4,s5,pS (.int yy),pS (.list (ivs (bords 0 ds))),pS (.int 0),pS (.int (K:Nat)),pS (.int (off ds K:Nat)),s11,s12,s13,s14,s15,s16,s17,s18,s19,s20]:=by
 obtain ⟨mv,f,m⟩:=made yy
 refine ResS.of (ResB.of ((AllD.app (AllD.app (h.take K) (AllD.one m.ok)) (h.drop K))) (by simp; omega) (br0 h hl hK m s0 s3 s4 s5 (pS (.list (ivs (bords 0 ds)))) (pS (.int 0)) s11 s12 s13 s14 s15 s16 s17 s18 s19 s20)) (fun R k X=>?_)
 rw[qc0,g0,decide_eq_true (by rfl),cnd_t,ifM_t]
theorem st5_e {d:Nat}{ds:List Doc}(h:AllD ds)(hl:ds.length≤3){K:Nat}{yy:Int}{dd:Int}(hK:K=ds.length)(h0:dd≠0)(h3:dd≠3)(s0 s3 s4 s5 s11 s12 s13 s14 s15 s16 s17 s18 s19 s20:Option Slot):ResS d s0 s3 s4 ds.length [s0,pS (.bytes (flat ds)),pS (.list (avs ds)),s3,s4,s5,pS (.int yy),pS (.list (ivs (bords 0 ds))),pS (.int dd),pS (.int (K:Nat)),pS (.int (off ds K:Nat)),s11,s12,s13,s14,s15,s16,s17,s18,s19,s20]:=by
 obtain ⟨mv,f,m⟩:=made yy
 refine ResS.of (ResB.of ((AllD.app (AllD.app (h.take K) (AllD.one m.ok)) (h.drop K))) (by simp; omega) (br0 h hl (Nat.le_of_eq hK) m s0 s3 s4 s5 (pS (.list (ivs (bords 0 ds)))) (pS (.int dd)) s11 s12 s13 s14 s15 s16 s17 s18 s19 s20)) (fun R k X=>?_)
 rw[qc0,g0,decide_eq_false h0,cnd_f,decide_eq_true (by rw[avs_len,hK]),cnd_t,decide_eq_false h3,show Bool.not false=true from rfl,cnd_t,ifM_t]
theorem st5_3 {d:Nat}{ds:List Doc}(h:AllD ds)(hl:ds.length≤3){K:Nat}{yy:Int}(hK:K≤ds.length)(s0 s3 s4 s5 s11 s12 s13 s14 s15 s16 s17 s18 s19 s20:Option Slot):ResS d s0 s3 s4 ds.length [s0,pS (.bytes (flat ds)),pS (.list (avs ds)),s3,s4,s5,pS (.int yy),pS (.list (ivs (bords 0 ds))),pS (.int 3),pS (.int (K:Nat)),pS (.int (off ds K:Nat)),s11,s12,s13,s14,s15,s16,s17,s18,s19,s20]:=by
 refine ResS.of (ResB.of ((AllD.app (h.drop K) (h.take K))) (by simp; omega) (br3 h hl hK s0 s3 s4 s5 (pS (.int yy)) (pS (.list (ivs (bords 0 ds)))) (pS (.int 3)) s11 s12 s13 s14 s15 s16 s17 s18 s19 s20)) (fun R k X=>?_)
 have hz:∀{α:Type} (x y:Option α),cnd (decide (((K:Nat):Int)=(((avs ds).length:Nat):Int))) (cnd (Bool.not (decide ((3:Int)=3))) x y) y=y:=fun x y=>by
  rw[decide_eq_true (by rfl:(3:Int)=3),nt_t,cnd_f]
  cases decide (((K:Nat):Int)=(((avs ds).length:Nat):Int)) <;> rfl
 rw[qc0,g0,decide_eq_false (by decide:¬(3:Int)=0),cnd_f,hz,ifM_f,qe0,qc1,g1,decide_eq_false (by decide:¬(3:Int)=1),ifM_f,qe1,qc2,g2b,ifM_f,qe2,qc3,g3,decide_eq_true (by rfl),ifM_t]
theorem st5_1 {d:Nat}{ds:List Doc}(h:AllD ds)(hl:ds.length≤3){K:Nat}{yy:Int}{O:Nat}{f:Doc}(hk:K<ds.length)(hf:DocOK f)(hO:ds[O]?=some f)(s0 s3 s4 s5 s13 s14 s15 s16 s17 s18 s19 s20:Option Slot):ResS d s0 s3 s4 ds.length [s0,pS (.bytes (flat ds)),pS (.list (avs ds)),s3,s4,s5,pS (.int yy),pS (.list (ivs (bords 0 ds))),pS (.int 1),pS (.int (K:Nat)),pS (.int (off ds K:Nat)),pS (.int (O:Nat)),pS (.bytes (ocD f)),s13,s14,s15,s16,s17,s18,s19,s20]:=by
 have hz:∀{α:Type} (x y:Option α),cnd (decide (((K:Nat):Int)=(((avs ds).length:Nat):Int))) x y=y:=fun x y=>by
  rw[avs_len,decide_eq_false (by omega),cnd_f]
 refine ResS.of (ResB.of ((AllD.app (h.take K) (h.drop (K+1)))) (by simp; omega) (br1 h hl (Nat.le_of_lt hk) hk s0 s3 s4 s5 (pS (.int yy)) (pS (.int 1)) (pS (.int (O:Nat))) (pS (.bytes (ocD f))) s13 s14 s15 s16 s17 s18 s19 s20)) (fun R k X=>?_)
 rw[qc0,g0,decide_eq_false (by decide:¬(1:Int)=0),cnd_f,hz,ifM_f,qe0,qc1,g1,decide_eq_true (by rfl),ifM_t]
theorem st5_4 {d:Nat}{ds:List Doc}(h:AllD ds)(hl:ds.length≤3){K:Nat}{yy:Int}{O:Nat}{f:Doc}(hk:K<ds.length)(hf:DocOK f)(hO:ds[O]?=some f)(s0 s3 s4 s5 s13 s14 s15 s16 s17 s18 s19 s20:Option Slot):ResS d s0 s3 s4 ds.length [s0,pS (.bytes (flat ds)),pS (.list (avs ds)),s3,s4,s5,pS (.int yy),pS (.list (ivs (bords 0 ds))),pS (.int 4),pS (.int (K:Nat)),pS (.int (off ds K:Nat)),pS (.int (O:Nat)),pS (.bytes (ocD f)),s13,s14,s15,s16,s17,s18,s19,s20]:=by
 have hz:∀{α:Type} (x y:Option α),cnd (decide (((K:Nat):Int)=(((avs ds).length:Nat):Int))) x y=y:=fun x y=>by
  rw[avs_len,decide_eq_false (by omega),cnd_f]
 refine ResS.of (ResB.of ((AllD.app (AllD.app (h.take K) (AllD.one hf)) (h.drop K))) (by simp; omega) (br4 h hl (Nat.le_of_lt hk) hf hO s0 s3 s4 s5 (pS (.int yy)) (pS (.list (ivs (bords 0 ds)))) (pS (.int 4)) s13 s14 s15 s16 s17 s18 s19 s20)) (fun R k X=>?_)
 rw[qc0,g0,decide_eq_false (by decide:¬(4:Int)=0),cnd_f,hz,ifM_f,qe0,qc1,g1,decide_eq_false (by decide:¬(4:Int)=1),ifM_f,qe1,qc2,g2,decide_eq_false (by decide:¬(4:Int)=2),cnd_f,ifM_f,qe2,qc3,g3,decide_eq_false (by decide:¬(4:Int)=3),ifM_f,qe3,qc4,g4,decide_eq_true (by rfl),ifM_t]
theorem st5_5 {d:Nat}{ds:List Doc}(h:AllD ds)(hl:ds.length≤3){K:Nat}{yy:Int}{O:Nat}{f:Doc}(hk:K<ds.length)(hf:DocOK f)(hO:ds[O]?=some f)(s0 s3 s4 s5 s13 s14 s15 s16 s17 s18 s19 s20:Option Slot):ResS d s0 s3 s4 ds.length [s0,pS (.bytes (flat ds)),pS (.list (avs ds)),s3,s4,s5,pS (.int yy),pS (.list (ivs (bords 0 ds))),pS (.int 5),pS (.int (K:Nat)),pS (.int (off ds K:Nat)),pS (.int (O:Nat)),pS (.bytes (ocD f)),s13,s14,s15,s16,s17,s18,s19,s20]:=by
 have hz:∀{α:Type} (x y:Option α),cnd (decide (((K:Nat):Int)=(((avs ds).length:Nat):Int))) x y=y:=fun x y=>by
  rw[avs_len,decide_eq_false (by omega),cnd_f]
 refine ResS.of (ResB.of ((AllD.app (AllD.app (h.take K) (AllD.one hf)) (h.drop (K+1)))) (by simp; omega) (br5 h hl (Nat.le_of_lt hk) hk hf hO s0 s3 s4 s5 (pS (.int yy)) (pS (.int 5)) s13 s14 s15 s16 s17 s18 s19 s20)) (fun R k X=>?_)
 rw[qc0,g0,decide_eq_false (by decide:¬(5:Int)=0),cnd_f,hz,ifM_f,qe0,qc1,g1,decide_eq_false (by decide:¬(5:Int)=1),ifM_f,qe1,qc2,g2,decide_eq_false (by decide:¬(5:Int)=2),cnd_f,ifM_f,qe2,qc3,g3,decide_eq_false (by decide:¬(5:Int)=3),ifM_f,qe3,qc4,g4,decide_eq_false (by decide:¬(5:Int)=4),ifM_f,qe4,qc5,g5,decide_eq_true (by rfl),ifM_t]
theorem br6_all {d:Nat}{ds:List Doc}(h:AllD ds)(hl:ds.length≤3)(h0:0<ds.length)(s0 s3 s4 s5 s6 s7 s8 s9 s10 s11 s12 s13 s14 s15 s16 s17 s18 s19 s20:Option Slot):ResB d 37 (ifB cc6) s0 s3 s4 ds.length [s0,pS (.bytes (flat ds)),pS (.list (avs ds)),s3,s4,s5,s6,s7,s8,s9,s10,s11,s12,s13,s14,s15,s16,s17,s18,s19,s20]:=by
 rcases ds with _|⟨x,_|⟨y,_|⟨z,_|⟨w,r⟩⟩⟩⟩
 ·simp at h0
 ·exact br6_1 (h x (by simp)) _ _ _ _ _ _ _ _ _ _ _ _ _ _ _ _ _ _ _
 ·exact br6_2 (h x (by simp)) (h y (by simp)) _ _ _ _ _ _ _ _ _ _ _ _ _ _ _ _ _ _ _
 ·exact br6_3 (h x (by simp)) (h y (by simp)) (h z (by simp)) _ _ _ _ _ _ _ _ _ _ _ _ _ _ _ _ _ _ _
 ·simp at hl
theorem st5_6 {d:Nat}{ds:List Doc}(h:AllD ds)(hl:ds.length≤3){K:Nat}{yy:Int}{O:Nat}{f:Doc}(hk:K<ds.length)(hf:DocOK f)(hO:ds[O]?=some f)(s0 s3 s4 s5 s13 s14 s15 s16 s17 s18 s19 s20:Option Slot):ResS d s0 s3 s4 ds.length [s0,pS (.bytes (flat ds)),pS (.list (avs ds)),s3,s4,s5,pS (.int yy),pS (.list (ivs (bords 0 ds))),pS (.int 6),pS (.int (K:Nat)),pS (.int (off ds K:Nat)),pS (.int (O:Nat)),pS (.bytes (ocD f)),s13,s14,s15,s16,s17,s18,s19,s20]:=by
 have hz:∀{α:Type} (x y:Option α),cnd (decide (((K:Nat):Int)=(((avs ds).length:Nat):Int))) x y=y:=fun x y=>by
  rw[avs_len,decide_eq_false (by omega),cnd_f]
 refine ResS.of (br6_all h hl (by omega) s0 s3 s4 s5 (pS (.int yy)) (pS (.list (ivs (bords 0 ds)))) (pS (.int 6)) (pS (.int (K:Nat))) (pS (.int (off ds K:Nat))) (pS (.int (O:Nat))) (pS (.bytes (ocD f))) s13 s14 s15 s16 s17 s18 s19 s20) (fun R k X=>?_)
 rw[qc0,g0,decide_eq_false (by decide:¬(6:Int)=0),cnd_f,hz,ifM_f,qe0,qc1,g1,decide_eq_false (by decide:¬(6:Int)=1),ifM_f,qe1,qc2,g2,decide_eq_false (by decide:¬(6:Int)=2),cnd_f,ifM_f,qe2,qc3,g3,decide_eq_false (by decide:¬(6:Int)=3),ifM_f,qe3,qc4,g4,decide_eq_false (by decide:¬(6:Int)=4),ifM_f,qe4,qc5,g5,decide_eq_false (by decide:¬(6:Int)=5),ifM_f,qe5,qc6,g6,decide_eq_true (by rfl),ifM_t]
theorem sw_all {d:Nat}{ds:List Doc}(h:AllD ds)(hl:ds.length≤3){K O:Nat}(hk:K<ds.length)(ho:O<ds.length)(hne:K≠O)(s0 s3 s4 s5 s6 s8 s10 s12 s13 s14 s15 s16 s17 s18 s19 s20:Option Slot):ResB d 45 (ifB cc2) s0 s3 s4 ds.length [s0,pS (.bytes (flat ds)),pS (.list (avs ds)),s3,s4,s5,s6,pS (.list (ivs (bords 0 ds))),s8,pS (.int (K:Nat)),s10,pS (.int (O:Nat)),s12,s13,s14,s15,s16,s17,s18,s19,s20]:=by
 rcases ds with _|⟨x,_|⟨y,_|⟨z,_|⟨w,r⟩⟩⟩⟩
 ·exact absurd hk (Nat.not_lt_zero _)
 ·exact absurd ((Nat.lt_one_iff.mp hk).trans (Nat.lt_one_iff.mp ho).symm) hne
 ·rcases (by decide:∀K,K<2→∀O,O<2→K≠O→(K=0∧O=1)∨(K=1∧O=0)) K hk O ho hne with ⟨rfl,rfl⟩|⟨rfl,rfl⟩
  ·exact sw_2_0_1 (h _ (.head _)) (h _ (.tail _ (.head _))) (by decide) (by decide) _ _ _ _ _ _ _ _ _ _ _ _ _ _ _ _
  ·exact sw_2_0_1 (h _ (.head _)) (h _ (.tail _ (.head _))) (by decide) (by decide) _ _ _ _ _ _ _ _ _ _ _ _ _ _ _ _
 ·have k3:∀K,K<3→K=0∨K=1∨K=2:=by decide
  rcases k3 K hk with rfl|rfl|rfl <;> rcases k3 O ho with rfl|rfl|rfl
  ·exact absurd rfl hne
  ·exact sw_3_0_1 (h _ (.head _)) (h _ (.tail _ (.head _))) (h _ (.tail _ (.tail _ (.head _)))) (by decide) (by decide) _ _ _ _ _ _ _ _ _ _ _ _ _ _ _ _
  ·exact sw_3_0_2 (h _ (.head _)) (h _ (.tail _ (.head _))) (h _ (.tail _ (.tail _ (.head _)))) (by decide) (by decide) _ _ _ _ _ _ _ _ _ _ _ _ _ _ _ _
  ·exact sw_3_0_1 (h _ (.head _)) (h _ (.tail _ (.head _))) (h _ (.tail _ (.tail _ (.head _)))) (by decide) (by decide) _ _ _ _ _ _ _ _ _ _ _ _ _ _ _ _
  ·exact absurd rfl hne
  ·exact sw_3_1_2 (h _ (.head _)) (h _ (.tail _ (.head _))) (h _ (.tail _ (.tail _ (.head _)))) (by decide) (by decide) _ _ _ _ _ _ _ _ _ _ _ _ _ _ _ _
  ·exact sw_3_0_2 (h _ (.head _)) (h _ (.tail _ (.head _))) (h _ (.tail _ (.tail _ (.head _)))) (by decide) (by decide) _ _ _ _ _ _ _ _ _ _ _ _ _ _ _ _
  ·exact sw_3_1_2 (h _ (.head _)) (h _ (.tail _ (.head _))) (h _ (.tail _ (.tail _ (.head _)))) (by decide) (by decide) _ _ _ _ _ _ _ _ _ _ _ _ _ _ _ _
  ·exact absurd rfl hne
 ·exact absurd hl (by show ¬r.length+4≤3; lia)
theorem st5_n {d:Nat}{ds:List Doc}(h:AllD ds)(hl:ds.length≤3){K:Nat}{yy:Int}{O:Nat}{f:Doc}(hk:K<ds.length)(hf:DocOK f)(hO:ds[O]?=some f){dd:Int}(h0:dd≠0)(h1:dd≠1)(h2:dd≠2∨K=O)(h3:dd≠3)(h4:dd≠4)(h5:dd≠5)(h6:dd≠6)(s0 s3 s4 s5 s13 s14 s15 s16 s17 s18 s19 s20:Option Slot):ResS d s0 s3 s4 ds.length [s0,pS (.bytes (flat ds)),pS (.list (avs ds)),s3,s4,s5,pS (.int yy),pS (.list (ivs (bords 0 ds))),pS (.int dd),pS (.int (K:Nat)),pS (.int (off ds K:Nat)),pS (.int (O:Nat)),pS (.bytes (ocD f)),s13,s14,s15,s16,s17,s18,s19,s20]:=by
 have hz:∀{α:Type} (x y:Option α),cnd (decide (((K:Nat):Int)=(((avs ds).length:Nat):Int))) x y=y:=fun x y=>by
  rw[avs_len,decide_eq_false (by omega),cnd_f]
 have hz2:∀{α:Type} (x y:Option α),cnd (decide (dd=2)) (cnd (Bool.not (decide (((K:Nat):Int)=((O:Nat):Int)))) x y) y=y:=fun x y=>by
  rcases h2 with h2|h2
  ·rw[decide_eq_false h2,cnd_f]
  ·rw[h2,decide_eq_true (rfl:((O:Nat):Int)=O),nt_t,cnd_f]
   cases decide (dd=2) <;> rfl
 refine ⟨ds,[s0,pS (.bytes (flat ds)),pS (.list (avs ds)),s3,s4,s5,pS (.int yy),pS (.list (ivs (bords 0 ds))),pS (.int dd),pS (.int (K:Nat)),pS (.int (off ds K:Nat)),pS (.int (O:Nat)),pS (.bytes (ocD f)),s13,s14,s15,s16,s17,s18,s19,s20],h,by omega,⟨_,_,_,_,_,_,_,_,_,_,_,_,_,_,_,_,rfl⟩,fun R k X=>?_⟩
 rw[qc0,g0,decide_eq_false h0,cnd_f,hz,ifM_f,qe0,qc1,g1,decide_eq_false h1,ifM_f,qe1,qc2,g2,hz2,ifM_f,qe2,qc3,g3,decide_eq_false h3,ifM_f,qe3,qc4,g4,decide_eq_false h4,ifM_f,qe4,qc5,g5,decide_eq_false h5,ifM_f,qe5,qc6,g6,decide_eq_false h6,ifM_f,qe6]
theorem st5_2 {d:Nat}{ds:List Doc}(h:AllD ds)(hl:ds.length≤3){K:Nat}{yy:Int}{O:Nat}{f:Doc}(hk:K<ds.length)(hf:DocOK f)(hO:ds[O]?=some f)(hOl:O<ds.length)(s0 s3 s4 s5 s13 s14 s15 s16 s17 s18 s19 s20:Option Slot):ResS d s0 s3 s4 ds.length [s0,pS (.bytes (flat ds)),pS (.list (avs ds)),s3,s4,s5,pS (.int yy),pS (.list (ivs (bords 0 ds))),pS (.int 2),pS (.int (K:Nat)),pS (.int (off ds K:Nat)),pS (.int (O:Nat)),pS (.bytes (ocD f)),s13,s14,s15,s16,s17,s18,s19,s20]:=by
 by_cases hne:K=O
 ·exact st5_n h hl hk hf hO (by decide) (by decide) (.inr hne) (by decide) (by decide) (by decide) (by decide) _ _ _ _ _ _ _ _ _ _ _ _
 have hz:∀{α:Type} (x y:Option α),cnd (decide (((K:Nat):Int)=(((avs ds).length:Nat):Int))) x y=y:=fun x y=>by
  rw[avs_len,decide_eq_false (by omega),cnd_f]
 refine ResS.of (sw_all h hl hk hOl hne s0 s3 s4 s5 (pS (.int yy)) (pS (.int 2)) (pS (.int (off ds K:Nat))) (pS (.bytes (ocD f))) s13 s14 s15 s16 s17 s18 s19 s20) (fun R k X=>?_)
 rw[qc0,g0,decide_eq_false (by decide:¬(2:Int)=0),cnd_f,hz,ifM_f,qe0,qc1,g1,decide_eq_false (by decide:¬(2:Int)=1),ifM_f,qe1,qc2,g2,decide_eq_true (by rfl),cnd_t,decide_eq_false (by omega),show Bool.not false=true from rfl,cnd_t,ifM_t]
theorem st5 {d:Nat}{ds:List Doc}(h:AllD ds)(hl:ds.length≤3){K:Nat}{yy:Int}{dd:Int}(hK:K≤ds.length){o11 o12:Option Slot}(ho:K<ds.length→∃(O:Nat) (f:Doc),o11=pS (.int (O:Nat))∧o12=pS (.bytes (ocD f))∧DocOK f∧ds[O]?=some f)(s0 s3 s4 s5 s13 s14 s15 s16 s17 s18 s19 s20:Option Slot):ResS d s0 s3 s4 ds.length [s0,pS (.bytes (flat ds)),pS (.list (avs ds)),s3,s4,s5,pS (.int yy),pS (.list (ivs (bords 0 ds))),pS (.int dd),pS (.int (K:Nat)),pS (.int (off ds K:Nat)),o11,o12,s13,s14,s15,s16,s17,s18,s19,s20]:=by
 by_cases h0:dd=0
 ·subst h0; exact st5_0 h hl hK _ _ _ _ _ _ _ _ _ _ _ _ _ _
 by_cases h3:dd=3
 ·subst h3; exact st5_3 h hl hK _ _ _ _ _ _ _ _ _ _ _ _ _ _
 by_cases hk:K=ds.length
 ·exact st5_e h hl hk h0 h3 _ _ _ _ _ _ _ _ _ _ _ _ _ _
 have hk:K<ds.length:=lt_of (c:=0) hK hk
 obtain ⟨O,f,rfl,rfl,hf,hO⟩:=ho hk
 have hOl:O<ds.length:=(List.getElem?_eq_some_iff.mp hO).1
 by_cases h1:dd=1
 ·subst h1; exact st5_1 h hl hk hf hO _ _ _ _ _ _ _ _ _ _ _ _
 by_cases h2:dd=2
 ·subst h2; exact st5_2 h hl hk hf hO hOl _ _ _ _ _ _ _ _ _ _ _ _
 by_cases h4:dd=4
 ·subst h4; exact st5_4 h hl hk hf hO _ _ _ _ _ _ _ _ _ _ _ _
 by_cases h5:dd=5
 ·subst h5; exact st5_5 h hl hk hf hO _ _ _ _ _ _ _ _ _ _ _ _
 by_cases h6:dd=6
 ·subst h6; exact st5_6 h hl hk hf hO _ _ _ _ _ _ _ _ _ _ _ _
 exact st5_n h hl hk hf hO h0 h1 (.inl h2) h3 h4 h5 h6 _ _ _ _ _ _ _ _ _ _ _ _
theorem fb_eq:fb=[nthS fb 0,nthS fb 1,nthS fb 2,nthS fb 3,nthS fb 4,cc0,nthS fb 6]:=by kernel_rfl
theorem clip_big {n:Nat}{i:Int}(h:(n:Int)≤i):clipAt n i=n:=by
 unfold clipAt
 rw[if_neg (Int.not_lt.mpr (Int.le_trans (Int.natCast_nonneg n) h)),Int.min_eq_right h,Int.max_eq_right (Int.natCast_nonneg n),Int.toNat_natCast]
theorem cut_two {α:Type}{xs:List α}{t:Nat}(h:t≤xs.length):cutL xs (some (t:Int)) (some ((t:Int)+2))=(xs.drop t).take 2:=by
 unfold cutL
 show (xs.drop (clipAt xs.length (t:Int))).take (clipAt xs.length ((t+2:Nat):Int)-clipAt xs.length (t:Int))=_
 rw[clip_nat h]
 rcases Nat.lt_or_ge xs.length (t+2) with q|q
 ·rw[clip_big (Int.ofNat_le.mpr (Nat.le_of_lt q)),List.take_of_length_le (by rw[List.length_drop]; exact Nat.le_refl _),List.take_of_length_le (by rw[List.length_drop]; omega)]
 ·rw[clip_nat q,Nat.add_sub_cancel_left]
theorem cut_eight {α:Type}(xs:List α):cutL xs none (some 8)=xs.take 8:=by
 unfold cutL
 show (xs.drop 0).take (clipAt xs.length ((8:Nat):Int)-0)=_
 rw[List.drop_zero,Nat.sub_zero]
 rcases Nat.lt_or_ge xs.length 8 with q|q
 ·rw[clip_big (Int.ofNat_le.mpr (Nat.le_of_lt q)),List.take_of_length_le (Nat.le_refl _),List.take_of_length_le (Nat.le_of_lt q)]
 ·rw[clip_nat q]
theorem mod_i {x y:Int}(h:y≠0):binA .Mod (.int x) (.int y)=some (.int (x.fmod y)):=by
 exact gdT (by rw[decide_eq_false h]; rfl)
theorem two_nums {l:List Int}{t:Nat}(ht:t<l.length):∃x y:Int,∀{β:Type} (f:AV→AV→Option β),(obO (binA PySem.Operator.Add (AV.list (cutL (l.map AV.int) (some (t:Int)) (some ((t:Int)+2)))) (AV.list [(AV.int 0)])) fun v_0 =>
 obO (sliceA v_0 none (some 2)) fun v_1 =>
 onTL v_1 fun t_0 =>
 cnd (decide (2=(List.length t_0))) (consL t_0 (none) (fun x_0 r_0 =>
  consL r_0 (none) (fun x_1 r_1 =>
   consL r_1 (f x_0 x_1) (fun x_2 r_2 =>
    none))))
 (none))=f (.int x) (.int y):=by
 have hd:∃a r,l.drop t=a::r:=⟨_,_,List.drop_eq_getElem_cons ht⟩
 obtain ⟨a,r,hd⟩:=hd
 have hc:cutL (l.map AV.int) (some (t:Int)) (some ((t:Int)+2))=((a::r).map AV.int).take 2:=by
  rw[cut_two (by rw[List.length_map]; omega),←List.map_drop,hd]
 rcases r with _|⟨b,r⟩
 ·refine ⟨a,0,fun f=>?_⟩
  rw[hc]
  rfl
 ·refine ⟨a,b,fun f=>?_⟩
  rw[hc]
  rfl
set_option tactic.hygienic true in
theorem turn {d:Nat}{s0 s4:Option Slot}{ds:List Doc}{l:List Int}{t:Nat}{e:AEnv}(h:AllD ds)(hl:ds.length≤3)(ht:t<l.length)(hsh:Sh s0 ds (pS (.list (l.map .int))) s4 e) :
  ∃ds' s4' e',AllD ds'∧ds'.length≤ds.length+1∧Sh s0 ds' (pS (.list (l.map .int))) s4' e'∧∀(R:Type) (k:KF R) (X:KX R),(bnd (asg (cxF f1519 (d+24)) (forT (nthS f1519.body 2)) (.int (t:Nat))) fun J=>exs 56 (cxF f1519 (d+24)) fb) k X e=k .next e':=by
 obtain ⟨r5,r6,r7,r8,r9,r10,r11,r12,r13,r14,r15,r16,r17,r18,r19,r20,rfl⟩:=hsh
 obtain ⟨x,y,hxy⟩:=two_nums ht
 have hv:=avs_len ds
 have hKe:∃K:Nat,K≤ds.length∧(x.fdiv 7).fmod ((((avs ds).length:Nat):Int)+1)=((K:Nat):Int):=by
  rw[hv,fm _ (by omega)]
  refine ⟨((x.fdiv 7) % (((ds.length:Nat):Int)+1)).toNat,?_,?_⟩
  ·have:=Int.emod_lt_of_pos (x.fdiv 7) (show (0:Int)<((ds.length:Nat):Int)+1 by omega)
   have:=Int.emod_nonneg (x.fdiv 7) (show ((ds.length:Nat):Int)+1≠0 by omega)
   omega
  ·have:=Int.emod_nonneg (x.fdiv 7) (show ((ds.length:Nat):Int)+1≠0 by omega)
   omega
 obtain ⟨K,hK,hKe⟩:=hKe
 by_cases hk:K<ds.length
 ·have hOe:∃O:Nat,O<ds.length∧y.fmod (((avs ds).length:Nat):Int)=((O:Nat):Int):=by
   rw[hv,fm _ (by omega)]
   refine ⟨(y % ((ds.length:Nat):Int)).toNat,?_,?_⟩
   ·have:=Int.emod_lt_of_pos y (show (0:Int)<((ds.length:Nat):Int) by omega)
    have:=Int.emod_nonneg y (show ((ds.length:Nat):Int)≠0 by omega)
    omega
   ·have:=Int.emod_nonneg y (show ((ds.length:Nat):Int)≠0 by omega)
    omega
  obtain ⟨O,hO,hOe⟩:=hOe
  have hf:ds[O]?=some ds[O]:=List.getElem?_eq_getElem hO
  have hc:cutL (flat ds) (some ((off ds O:Nat):Int)) (some ((off ds (O+1):Nat):Int))=ocD ds[O]:=by
   rw[oct_mid rfl rfl (Nat.le_succ O),one_mid hf,flat_one]
  obtain ⟨ds',e',h1,h2,h3,h4⟩:=st5 (d:=d) h hl (dd:=x.fmod 7) (yy:=y) hK (o11:=pS (.int (O:Nat))) (o12:=pS (.bytes (ocD ds[O]))) (fun J=>⟨O,ds[O],rfl,rfl,h _ (List.getElem_mem hO),hf⟩) s0 (pS (.list (l.map .int))) (pS (.int (t:Nat))) (pS (.int x)) r13 r14 r15 r16 r17 r18 r19 r20
  obtain ⟨q5,q6,q7,q8,q9,q10,q11,q12,q13,q14,q15,q16,q17,q18,q19,q20,rfl⟩:=h3
  refine ⟨ds',pS (.int (t:Nat)),[s0,pS (.bytes (flat ds')),pS (.list (avs ds')),pS (.list (l.map .int)),pS (.int (t:Nat)),q5,q6,q7,q8,q9,q10,q11,q12,q13,q14,q15,q16,q17,q18,q19,q20],h1,h2,⟨_,_,_,_,_,_,_,_,_,_,_,_,_,_,_,_,rfl⟩,fun R k X=>?_⟩
  rw[bnd_eq,a1519,fb_eq,xS,f0,hxy,sN,xS,f1,eO (s1490 (d:=d+22) h (by omega)),sN,xS,f2,hKe,sN,xS,f3,oS (bord_item rfl hK),sN,xS,f4,decide_eq_true (show ((K:Nat):Int)<(((avs ds).length:Nat):Int) by omega),cnd_t,oS (mod_i (show (((avs ds).length:Nat):Int)≠0 by omega)),hOe,oS (bord_item rfl (Nat.le_of_lt hO)),oS part_i,oS add_i,oS (bord_item (i:=(O:Int)+1) (k:=O+1) rfl hO),oS part_i,hc,sN,xS,h4,sN,xS,f6 h1 (by omega),sN,exs_nil]
 ·obtain ⟨ds',e',h1,h2,h3,h4⟩:=st5 (d:=d) h hl (dd:=x.fmod 7) (yy:=y) hK (o11:=r11) (o12:=r12) (fun q=>absurd q hk) s0 (pS (.list (l.map .int))) (pS (.int (t:Nat))) (pS (.int x)) r13 r14 r15 r16 r17 r18 r19 r20
  obtain ⟨q5,q6,q7,q8,q9,q10,q11,q12,q13,q14,q15,q16,q17,q18,q19,q20,rfl⟩:=h3
  refine ⟨ds',pS (.int (t:Nat)),[s0,pS (.bytes (flat ds')),pS (.list (avs ds')),pS (.list (l.map .int)),pS (.int (t:Nat)),q5,q6,q7,q8,q9,q10,q11,q12,q13,q14,q15,q16,q17,q18,q19,q20],h1,h2,⟨_,_,_,_,_,_,_,_,_,_,_,_,_,_,_,_,rfl⟩,fun R k X=>?_⟩
  rw[bnd_eq,a1519,fb_eq,xS,f0,hxy,sN,xS,f1,eO (s1490 (d:=d+22) h (by omega)),sN,xS,f2,hKe,sN,xS,f3,oS (bord_item rfl hK),sN,xS,f4,decide_eq_false (show ¬((K:Nat):Int)<(((avs ds).length:Nat):Int) by omega),cnd_f,sN,xS,h4,sN,xS,f6 h1 (by omega),sN,exs_nil]
theorem loop {d:Nat}{s0:Option Slot}{l:List Int}:∀(ts:List Nat) (ds:List Doc) (s4:Option Slot) (e:AEnv),(∀t∈ts,t<l.length)→AllD ds→ds.length+ts.length≤4→Sh s0 ds (pS (.list (l.map .int))) s4 e →
  ∃ds' s4' e',AllD ds'∧ds'.length≤4∧Sh s0 ds' (pS (.list (l.map .int))) s4' e'∧∀(R:Type) (k:KF R) (X:KX R),forL (asg (cxF f1519 (d+24)) (forT (nthS f1519.body 2))) (exs 56 (cxF f1519 (d+24)) fb) (ts.map fun t=>.int (t:Nat)) k X e=k .next e'
 | [],ds,s4,e,ht,h,hl,hs=>⟨ds,s4,e,h,by simpa using hl,hs,fun R k X=>rfl⟩
 | t::ts,ds,s4,e,ht,h,hl,hs=>by
  rw[List.length_cons] at hl
  obtain ⟨ds1,s41,e1,h1,h2,h3,h4⟩:=turn (d:=d) h (by omega) (ht t (.head _)) hs
  obtain ⟨ds2,s42,e2,g1,g2,g3,g4⟩:=loop ts ds1 s41 e1 (fun u hu=>ht u (.tail _ hu)) h1 (by omega) h3
  refine ⟨ds2,s42,e2,g1,g2,g3,fun R k X=>?_⟩
  rw[List.map_cons,forL_cons,h4]
  exact g4 R k X
theorem eq_b {x y:List UInt8}:cmpA .Eq (.bytes x) (.bytes y)=some (decide (x=y)):=rfl
theorem ne_b {x y:List UInt8}:cmpA .NotEq (.bytes x) (.bytes y)=some (!decide (x=y)):=rfl
theorem row_w (ds:List Doc):[4,108,0]++held (bodyF (rowF 48 ds))=bodyF [flRow ds]:=by
 show _=(((4::([108]++[0]))++held (bodyF (rowF 48 ds)))++[])
 rw[List.append_nil]
 rfl
theorem le_right {a b:List UInt8}{n:Nat}(h:(a++b).length≤n):b.length≤n:=Nat.le_trans (by rw[List.length_append]; exact Nat.le_add_left _ _) h
theorem jn1 {a:List UInt8}(h:(a++[]).length≤16777216):runMt cx .join (.bytes []) [.list [.bytes a]] []=some (.bytes (a++[])):=by
 show (match fitL (a++[]).length with|true=>some (AV.bytes (a++[]))|false=>none)=_
 have e':fitL (a++[]).length=true:=decide_eq_true h
 rw[e']
theorem jn2 {a b:List UInt8}(h:(a++(b++[])).length≤16777216):runMt cx .join (.bytes []) [.list [.bytes a,.bytes b]] []=some (.bytes (a++(b++[]))):=by
 show (match fitL (a++(b++[])).length with|true=>some (AV.bytes (a++(b++[])))|false=>none)=_
 have e':fitL (a++(b++[])).length=true:=decide_eq_true h
 rw[e']
theorem jn3 {a b c:List UInt8}(h:(a++(b++(c++[]))).length≤16777216):runMt cx .join (.bytes []) [.list [.bytes a,.bytes b,.bytes c]] []=some (.bytes (a++(b++(c++[])))):=by
 show (match fitL (a++(b++(c++[]))).length with|true=>some (AV.bytes (a++(b++(c++[]))))|false=>none)=_
 have e':fitL (a++(b++(c++[]))).length=true:=decide_eq_true h
 rw[e']
theorem jn4 {a b c e:List UInt8}(h:(a++(b++(c++(e++[])))).length≤16777216):runMt cx .join (.bytes []) [.list [.bytes a,.bytes b,.bytes c,.bytes e]] []=some (.bytes (a++(b++(c++(e++[]))))):=by
 show (match fitL (a++(b++(c++(e++[])))).length with|true=>some (AV.bytes (a++(b++(c++(e++[])))))|false=>none)=_
 have e':fitL (a++(b++(c++(e++[])))).length=true:=decide_eq_true h
 rw[e']
theorem fin7 {d:Nat}{ds:List Doc}(h:AllD ds)(hl:ds.length≤4)(R:Type)(k:KF R)(X:KX R)(s0 s1 s3 s4 s5 s6 s7 s8 s9 s10 s11 s12 s13 s14 s15 s16 s17 s18 s19:Option Slot) :
  exS 52 (cxF f1519 (d+24)) (nthS f1519.body 7) k X [s0,s1,pS (.list (avs ds)),s3,s4,s5,s6,s7,s8,s9,s10,s11,s12,s13,s14,s15,s16,s17,s18,s19,pS (.bytes (bodyF (rowF 48 ds)))]=k (.ret (.bool true)) [s0,s1,pS (.list (avs ds)),s3,s4,s5,s6,s7,s8,s9,s10,s11,s12,s13,s14,s15,s16,s17,s18,s19,pS (.bytes (bodyF (rowF 48 ds)))]:=by
 have hw:=row_body ds 48 h
 refine Eq.trans (z7 R (d+24) _ _ _ _ _ _ _ _ _ _ _ _ _ _ _ _ _ _ _ (avs ds) (bodyF (rowF 48 ds)) _ X) ?_
 refine (eO (s1447r (d:=d+5) h hl)).trans ((eO (s1502 (d:=d+22) (by omega))).trans ((oS (add_b (by rw[held_len]; simp; omega))).trans ((eO (s1502 (d:=d+22) (by rw[List.length_append,held_len]; simp; omega))).trans ((oS eq_b).trans ?_)))); rw[row_w,decide_eq_true rfl]
theorem fin0 {d:Nat}   (R:Type) (k:KF R) (X:KX R) (s0 s3 s4 s5 s6 s7 s8 s9 s10 s11 s12 s13 s14 s15 s16 s17 s18 s19 s20:Option Slot) {res:Option R} (hk:∀e',k (.ret (.bool true)) e'=res):exs 57 (cxF f1519 (d+24)) (f1519.body.drop 3) k X [s0,pS (.bytes (flat [])),pS (.list (avs [])),s3,s4,s5,s6,s7,s8,s9,s10,s11,s12,s13,s14,s15,s16,s17,s18,s19,s20]=res:=by
 have h:AllD []:=.nil
 have hbo:ivs (bords 0 [])=[.int (off [] 0:Nat)]:=by simp[ivs,bords,off,flat]
 have hfl:(flat []).length≤16777216:=Nat.le_trans (flat_le h) (od rfl)
 have al:=alk_avs (d:=d+9) h (od rfl)
 have e8:f1519.body.drop 3=[nthS f1519.body 3,nthS f1519.body 4,nthS f1519.body 5,nthS f1519.body 6,nthS f1519.body 7]:=by kernel_rfl
 have ew:[]=bodyF (rowF 48 []):=by kernel_rfl
 have hW:([]).length≤16777216:=ew▸Nat.le_trans (row_body [] 48 h) (od rfl)
 rw[e8,xS,z3,eO (s1490 (d:=d+22) h (od rfl)),sN,xS,hbo]
 refine Eq.trans (z4_0 R (d+24) _ _ _ _ _ _ _ _ _ _ _ _ _ _ _ _ _ _ (flat [])  _ _ X) ?_
 refine (sN).trans ((xS).trans ?_)
 refine Eq.trans (z5_0 R (d+24) _ _ _ _ _ _ _ _ _ _ _ _ _ _ _ _ _ _ (flat [])   _ X) ?_
 refine (eO (show cN (d+24) 1514 [.list [],.list []] []=some (.ok (.bool true)) from al)).trans ((oS tr_t).trans ?_); rw[nt_t,cnd_f,decide_eq_true (show []=flat [] from rfl),nt_t,cnd_f,sN,xS]
 refine Eq.trans (z6_0 R (d+24) _ _ _ _ _ _ _ _ _ _ _ _ _ _ _ _ _ _ _   _ X) ?_
 refine (sN).trans ((xS).trans ?_)
 refine Eq.trans (fin7 h (od rfl) R _ X _ _ _ _ _ _ _ _ _ _ _ _ _ _ _ _ _ _ _) ?_
 rw[seqK_ret]
 exact hk _
theorem fin1 {d:Nat}{a:Doc}(ha:DocOK a)(R:Type)(k:KF R)(X:KX R)(s0 s3 s4 s5 s6 s7 s8 s9 s10 s11 s12 s13 s14 s15 s16 s17 s18 s19 s20:Option Slot){res:Option R}(hk:∀e',k (.ret (.bool true)) e'=res):exs 57 (cxF f1519 (d+24)) (f1519.body.drop 3) k X [s0,pS (.bytes (flat [a])),pS (.list (avs [a])),s3,s4,s5,s6,s7,s8,s9,s10,s11,s12,s13,s14,s15,s16,s17,s18,s19,s20]=res:=by
 have h:AllD [a]:=.cons ha (.nil)
 have hbo:ivs (bords 0 [a])=[.int (off [a] 0:Nat),.int (off [a] 1:Nat)]:=by simp[ivs,bords,off,flat]
 have c0:cutL (flat [a]) (some ((off [a] 0:Nat):Int)) (some ((off [a] 1:Nat):Int))=ocD a:=(oct_mid rfl rfl (by decide)).trans (flat_one _)
 have hfl:(flat [a]).length≤16777216:=Nat.le_trans (flat_le h) (od rfl)
 have hj:(held (bodyF a)++[]).length≤16777216:=hfl
 have al:=alk_avs (d:=d+9) h (od rfl)
 have e8:f1519.body.drop 3=[nthS f1519.body 3,nthS f1519.body 4,nthS f1519.body 5,nthS f1519.body 6,nthS f1519.body 7]:=by kernel_rfl
 have ew:([3,48,0]++ocD a)++[]=bodyF (rowF 48 [a]):=by kernel_rfl
 have hW:(([3,48,0]++ocD a)++[]).length≤16777216:=ew▸Nat.le_trans (row_body [a] 48 h) (od rfl)
 rw[e8,xS,z3,eO (s1490 (d:=d+22) h (od rfl)),sN,xS,hbo]
 refine Eq.trans (z4_1 R (d+24) _ _ _ _ _ _ _ _ _ _ _ _ _ _ _ _ _ _ (flat [a]) (dictF a) _ _ _ X) ?_
 refine (sN).trans ((xS).trans ?_); rw[c0]
 refine Eq.trans (z5_1 R (d+24) _ _ _ _ _ _ _ _ _ _ _ _ _ _ _ _ _ _ (flat [a]) (dictF a) (ocD a) _ X) ?_
 refine (eO (s1455 (d:=d+2) ha)).trans ((eO (show cN (d+24) 1514 [.list [dictF a],.list [dictF a]] []=some (.ok (.bool true)) from al)).trans ((oS tr_t).trans ?_)); rw[nt_t,cnd_f,eO (ha.enc (d+8)),oS (jn1 hj),oS ne_b,decide_eq_true (show held (bodyF a)++[]=flat [a] from rfl),nt_t,cnd_f,sN,xS]
 refine Eq.trans (z6_1 R (d+24) _ _ _ _ _ _ _ _ _ _ _ _ _ _ _ _ _ _ _ (dictF a) (ocD a) _ X) ?_
 refine (oS (add_b (le_sum (le_left hW)))).trans ((oS (jn1 hW)).trans ((sN).trans ((xS).trans ?_))); rw[ew]
 refine Eq.trans (fin7 h (od rfl) R _ X _ _ _ _ _ _ _ _ _ _ _ _ _ _ _ _ _ _ _) ?_
 rw[seqK_ret]
 exact hk _
theorem fin2 {d:Nat}{a b:Doc}(ha:DocOK a)(hb:DocOK b)(R:Type)(k:KF R)(X:KX R)(s0 s3 s4 s5 s6 s7 s8 s9 s10 s11 s12 s13 s14 s15 s16 s17 s18 s19 s20:Option Slot){res:Option R}(hk:∀e',k (.ret (.bool true)) e'=res):exs 57 (cxF f1519 (d+24)) (f1519.body.drop 3) k X [s0,pS (.bytes (flat [a,b])),pS (.list (avs [a,b])),s3,s4,s5,s6,s7,s8,s9,s10,s11,s12,s13,s14,s15,s16,s17,s18,s19,s20]=res:=by
 have h:AllD [a,b]:=.cons ha ( .cons hb (.nil))
 have hbo:ivs (bords 0 [a,b])=[.int (off [a,b] 0:Nat),.int (off [a,b] 1:Nat),.int (off [a,b] 2:Nat)]:=by simp[ivs,bords,off,flat]
 have c0:cutL (flat [a,b]) (some ((off [a,b] 0:Nat):Int)) (some ((off [a,b] 1:Nat):Int))=ocD a:=(oct_mid rfl rfl (by decide)).trans (flat_one _)
 have c1:cutL (flat [a,b]) (some ((off [a,b] 1:Nat):Int)) (some ((off [a,b] 2:Nat):Int))=ocD b:=(oct_mid rfl rfl (by decide)).trans (flat_one _)
 have hfl:(flat [a,b]).length≤16777216:=Nat.le_trans (flat_le h) (od rfl)
 have hj:(held (bodyF a)++(held (bodyF b)++[])).length≤16777216:=hfl
 have al:=alk_avs (d:=d+9) h (od rfl)
 have e8:f1519.body.drop 3=[nthS f1519.body 3,nthS f1519.body 4,nthS f1519.body 5,nthS f1519.body 6,nthS f1519.body 7]:=by kernel_rfl
 have ew:([3,48,0]++ocD a)++(([3,49,0]++ocD b)++[])=bodyF (rowF 48 [a,b]):=by kernel_rfl
 have hW:(([3,48,0]++ocD a)++(([3,49,0]++ocD b)++[])).length≤16777216:=ew▸Nat.le_trans (row_body [a,b] 48 h) (od rfl)
 rw[e8,xS,z3,eO (s1490 (d:=d+22) h (od rfl)),sN,xS,hbo]
 refine Eq.trans (z4_2 R (d+24) _ _ _ _ _ _ _ _ _ _ _ _ _ _ _ _ _ _ (flat [a,b]) (dictF a) (dictF b) _ _ _ _ X) ?_
 refine (sN).trans ((xS).trans ?_); rw[c0,c1]
 refine Eq.trans (z5_2 R (d+24) _ _ _ _ _ _ _ _ _ _ _ _ _ _ _ _ _ _ (flat [a,b]) (dictF a) (dictF b) (ocD a) (ocD b) _ X) ?_
 refine (eO (s1455 (d:=d+2) ha)).trans ((eO (s1455 (d:=d+2) hb)).trans ((eO (show cN (d+24) 1514 [.list [dictF a,dictF b],.list [dictF a,dictF b]] []=some (.ok (.bool true)) from al)).trans ((oS tr_t).trans ?_))); rw[nt_t,cnd_f,eO (ha.enc (d+8)),eO (hb.enc (d+8)),oS (jn2 hj),oS ne_b,decide_eq_true (show held (bodyF a)++(held (bodyF b)++[])=flat [a,b] from rfl),nt_t,cnd_f,sN,xS]
 refine Eq.trans (z6_2 R (d+24) _ _ _ _ _ _ _ _ _ _ _ _ _ _ _ _ _ _ _ (dictF a) (dictF b) (ocD a) (ocD b) _ X) ?_
 refine (oS (add_b (le_sum (le_left hW)))).trans ((oS (add_b (le_sum (le_left (le_right hW))))).trans ((oS (jn2 hW)).trans ((sN).trans ((xS).trans ?_)))); rw[ew]
 refine Eq.trans (fin7 h (od rfl) R _ X _ _ _ _ _ _ _ _ _ _ _ _ _ _ _ _ _ _ _) ?_
 rw[seqK_ret]
 exact hk _
theorem fin3 {d:Nat}{a b c:Doc}(ha:DocOK a)(hb:DocOK b)(hc:DocOK c)(R:Type)(k:KF R)(X:KX R)(s0 s3 s4 s5 s6 s7 s8 s9 s10 s11 s12 s13 s14 s15 s16 s17 s18 s19 s20:Option Slot){res:Option R}(hk:∀e',k (.ret (.bool true)) e'=res):exs 57 (cxF f1519 (d+24)) (f1519.body.drop 3) k X [s0,pS (.bytes (flat [a,b,c])),pS (.list (avs [a,b,c])),s3,s4,s5,s6,s7,s8,s9,s10,s11,s12,s13,s14,s15,s16,s17,s18,s19,s20]=res:=by
 have h:AllD [a,b,c]:=.cons ha ( .cons hb ( .cons hc (.nil)))
 have hbo:ivs (bords 0 [a,b,c])=[.int (off [a,b,c] 0:Nat),.int (off [a,b,c] 1:Nat),.int (off [a,b,c] 2:Nat),.int (off [a,b,c] 3:Nat)]:=by simp[ivs,bords,off,flat,Nat.add_assoc]
 have c0:cutL (flat [a,b,c]) (some ((off [a,b,c] 0:Nat):Int)) (some ((off [a,b,c] 1:Nat):Int))=ocD a:=(oct_mid rfl rfl (by decide)).trans (flat_one _)
 have c1:cutL (flat [a,b,c]) (some ((off [a,b,c] 1:Nat):Int)) (some ((off [a,b,c] 2:Nat):Int))=ocD b:=(oct_mid rfl rfl (by decide)).trans (flat_one _)
 have c2:cutL (flat [a,b,c]) (some ((off [a,b,c] 2:Nat):Int)) (some ((off [a,b,c] 3:Nat):Int))=ocD c:=(oct_mid rfl rfl (by decide)).trans (flat_one _)
 have hfl:(flat [a,b,c]).length≤16777216:=Nat.le_trans (flat_le h) (od rfl)
 have hj:(held (bodyF a)++(held (bodyF b)++(held (bodyF c)++[]))).length≤16777216:=hfl
 have al:=alk_avs (d:=d+9) h (od rfl)
 have e8:f1519.body.drop 3=[nthS f1519.body 3,nthS f1519.body 4,nthS f1519.body 5,nthS f1519.body 6,nthS f1519.body 7]:=by kernel_rfl
 have ew:([3,48,0]++ocD a)++(([3,49,0]++ocD b)++(([3,50,0]++ocD c)++[]))=bodyF (rowF 48 [a,b,c]):=by kernel_rfl
 have hW:(([3,48,0]++ocD a)++(([3,49,0]++ocD b)++(([3,50,0]++ocD c)++[]))).length≤16777216:=ew▸Nat.le_trans (row_body [a,b,c] 48 h) (od rfl)
 rw[e8,xS,z3,eO (s1490 (d:=d+22) h (od rfl)),sN,xS,hbo]
 refine Eq.trans (z4_3 R (d+24) _ _ _ _ _ _ _ _ _ _ _ _ _ _ _ _ _ _ (flat [a,b,c]) (dictF a) (dictF b) (dictF c) _ _ _ _ _ X) ?_
 refine (sN).trans ((xS).trans ?_); rw[c0,c1,c2]
 refine Eq.trans (z5_3 R (d+24) _ _ _ _ _ _ _ _ _ _ _ _ _ _ _ _ _ _ (flat [a,b,c]) (dictF a) (dictF b) (dictF c) (ocD a) (ocD b) (ocD c) _ X) ?_
 refine (eO (s1455 (d:=d+2) ha)).trans ((eO (s1455 (d:=d+2) hb)).trans ((eO (s1455 (d:=d+2) hc)).trans ((eO (show cN (d+24) 1514 [.list [dictF a,dictF b,dictF c],.list [dictF a,dictF b,dictF c]] []=some (.ok (.bool true)) from al)).trans ((oS tr_t).trans ?_)))); rw[nt_t,cnd_f,eO (ha.enc (d+8)),eO (hb.enc (d+8)),eO (hc.enc (d+8)),oS (jn3 hj),oS ne_b,decide_eq_true (show held (bodyF a)++(held (bodyF b)++(held (bodyF c)++[]))=flat [a,b,c] from rfl),nt_t,cnd_f,sN,xS]
 refine Eq.trans (z6_3 R (d+24) _ _ _ _ _ _ _ _ _ _ _ _ _ _ _ _ _ _ _ (dictF a) (dictF b) (dictF c) (ocD a) (ocD b) (ocD c) _ X) ?_
 refine (oS (add_b (le_sum (le_left hW)))).trans ((oS (add_b (le_sum (le_left (le_right hW))))).trans ((oS (add_b (le_sum (le_left (le_right (le_right hW)))))).trans ((oS (jn3 hW)).trans ((sN).trans ((xS).trans ?_))))); rw[ew]
 refine Eq.trans (fin7 h (od rfl) R _ X _ _ _ _ _ _ _ _ _ _ _ _ _ _ _ _ _ _ _) ?_
 rw[seqK_ret]
 exact hk _
theorem fin4 {d:Nat}{a b c e:Doc}(ha:DocOK a)(hb:DocOK b)(hc:DocOK c)(he:DocOK e)(R:Type)(k:KF R)(X:KX R)(s0 s3 s4 s5 s6 s7 s8 s9 s10 s11 s12 s13 s14 s15 s16 s17 s18 s19 s20:Option Slot){res:Option R}(hk:∀e',k (.ret (.bool true)) e'=res):exs 57 (cxF f1519 (d+24)) (f1519.body.drop 3) k X [s0,pS (.bytes (flat [a,b,c,e])),pS (.list (avs [a,b,c,e])),s3,s4,s5,s6,s7,s8,s9,s10,s11,s12,s13,s14,s15,s16,s17,s18,s19,s20]=res:=by
 have h:AllD [a,b,c,e]:=.cons ha ( .cons hb ( .cons hc ( .cons he (.nil))))
 have hbo:ivs (bords 0 [a,b,c,e])=[.int (off [a,b,c,e] 0:Nat),.int (off [a,b,c,e] 1:Nat),.int (off [a,b,c,e] 2:Nat),.int (off [a,b,c,e] 3:Nat),.int (off [a,b,c,e] 4:Nat)]:=by simp[ivs,bords,off,flat,Nat.add_assoc]
 have c0:cutL (flat [a,b,c,e]) (some ((off [a,b,c,e] 0:Nat):Int)) (some ((off [a,b,c,e] 1:Nat):Int))=ocD a:=(oct_mid rfl rfl (by decide)).trans (flat_one _)
 have c1:cutL (flat [a,b,c,e]) (some ((off [a,b,c,e] 1:Nat):Int)) (some ((off [a,b,c,e] 2:Nat):Int))=ocD b:=(oct_mid rfl rfl (by decide)).trans (flat_one _)
 have c2:cutL (flat [a,b,c,e]) (some ((off [a,b,c,e] 2:Nat):Int)) (some ((off [a,b,c,e] 3:Nat):Int))=ocD c:=(oct_mid rfl rfl (by decide)).trans (flat_one _)
 have c3:cutL (flat [a,b,c,e]) (some ((off [a,b,c,e] 3:Nat):Int)) (some ((off [a,b,c,e] 4:Nat):Int))=ocD e:=(oct_mid rfl rfl (by decide)).trans (flat_one _)
 have hfl:(flat [a,b,c,e]).length≤16777216:=Nat.le_trans (flat_le h) (od rfl)
 have hj:(held (bodyF a)++(held (bodyF b)++(held (bodyF c)++(held (bodyF e)++[])))).length≤16777216:=hfl
 have al:=alk_avs (d:=d+9) h (od rfl)
 have e8:f1519.body.drop 3=[nthS f1519.body 3,nthS f1519.body 4,nthS f1519.body 5,nthS f1519.body 6,nthS f1519.body 7]:=by kernel_rfl
 have ew:([3,48,0]++ocD a)++(([3,49,0]++ocD b)++(([3,50,0]++ocD c)++(([3,51,0]++ocD e)++[])))=bodyF (rowF 48 [a,b,c,e]):=by kernel_rfl
 have hW:(([3,48,0]++ocD a)++(([3,49,0]++ocD b)++(([3,50,0]++ocD c)++(([3,51,0]++ocD e)++[])))).length≤16777216:=ew▸Nat.le_trans (row_body [a,b,c,e] 48 h) (od rfl)
 rw[e8,xS,z3,eO (s1490 (d:=d+22) h (od rfl)),sN,xS,hbo]
 refine Eq.trans (z4_4 R (d+24) _ _ _ _ _ _ _ _ _ _ _ _ _ _ _ _ _ _ (flat [a,b,c,e]) (dictF a) (dictF b) (dictF c) (dictF e) _ _ _ _ _ _ X) ?_
 refine (sN).trans ((xS).trans ?_); rw[c0,c1,c2,c3]
 refine Eq.trans (z5_4 R (d+24) _ _ _ _ _ _ _ _ _ _ _ _ _ _ _ _ _ _ (flat [a,b,c,e]) (dictF a) (dictF b) (dictF c) (dictF e) (ocD a) (ocD b) (ocD c) (ocD e) _ X) ?_
 refine (eO (s1455 (d:=d+2) ha)).trans ((eO (s1455 (d:=d+2) hb)).trans ((eO (s1455 (d:=d+2) hc)).trans ((eO (s1455 (d:=d+2) he)).trans ((eO (show cN (d+24) 1514 [.list [dictF a,dictF b,dictF c,dictF e],.list [dictF a,dictF b,dictF c,dictF e]] []=some (.ok (.bool true)) from al)).trans ((oS tr_t).trans ?_))))); rw[nt_t,cnd_f,eO (ha.enc (d+8)),eO (hb.enc (d+8)),eO (hc.enc (d+8)),eO (he.enc (d+8)),oS (jn4 hj),oS ne_b,decide_eq_true (show held (bodyF a)++(held (bodyF b)++(held (bodyF c)++(held (bodyF e)++[])))=flat [a,b,c,e] from rfl),nt_t,cnd_f,sN,xS]
 refine Eq.trans (z6_4 R (d+24) _ _ _ _ _ _ _ _ _ _ _ _ _ _ _ _ _ _ _ (dictF a) (dictF b) (dictF c) (dictF e) (ocD a) (ocD b) (ocD c) (ocD e) _ X) ?_
 refine (oS (add_b (le_sum (le_left hW)))).trans ((oS (add_b (le_sum (le_left (le_right hW))))).trans ((oS (add_b (le_sum (le_left (le_right (le_right hW)))))).trans ((oS (add_b (le_sum (le_left (le_right (le_right (le_right hW))))))).trans ((oS (jn4 hW)).trans ((sN).trans ((xS).trans ?_)))))); rw[ew]
 refine Eq.trans (fin7 h (od rfl) R _ X _ _ _ _ _ _ _ _ _ _ _ _ _ _ _ _ _ _ _) ?_
 rw[seqK_ret]
 exact hk _
theorem fin {d:Nat}{ds:List Doc}(h:AllD ds)(hl:ds.length≤4)(R:Type)(k:KF R)(X:KX R){s0 s3 s4:Option Slot}{e:AEnv}(hs:Sh s0 ds s3 s4 e){res:Option R}(hk:∀e',k (.ret (.bool true)) e'=res):exs 57 (cxF f1519 (d+24)) (f1519.body.drop 3) k X e=res:=by
 obtain ⟨r5,r6,r7,r8,r9,r10,r11,r12,r13,r14,r15,r16,r17,r18,r19,r20,rfl⟩:=hs
 rcases ds with _|⟨x,_|⟨y,_|⟨z,_|⟨w,_|⟨v,r⟩⟩⟩⟩⟩
 ·exact fin0 R k X _ _ _ _ _ _ _ _ _ _ _ _ _ _ _ _ _ _ _ hk
 ·exact fin1 (h _ (.head _)) R k X _ _ _ _ _ _ _ _ _ _ _ _ _ _ _ _ _ _ _ hk
 ·exact fin2 (h _ (.head _)) (h _ (.tail _ (.head _))) R k X _ _ _ _ _ _ _ _ _ _ _ _ _ _ _ _ _ _ _ hk
 ·exact fin3 (h _ (.head _)) (h _ (.tail _ (.head _))) (h _ (.tail _ (.tail _ (.head _)))) R k X _ _ _ _ _ _ _ _ _ _ _ _ _ _ _ _ _ _ _ hk
 ·exact fin4 (h _ (.head _)) (h _ (.tail _ (.head _))) (h _ (.tail _ (.tail _ (.head _)))) (h _ (.tail _ (.tail _ (.tail _ (.head _))))) R k X _ _ _ _ _ _ _ _ _ _ _ _ _ _ _ _ _ _ _ hk
 ·exact absurd hl (by show ¬r.length+5≤4; lia)
theorem nthS_split:∀(l:List Stmt) (n:Nat),n<l.length→l=l.take n++(nthS l n::l.drop (n+1))
 | [],n,h=>by simp at h
 | s::r,0,h=>rfl
 | s::r,n+1,h=>by
  have:=nthS_split r n (by simpa using h)
  show s::r=s::(r.take n++(nthS r n::r.drop (n+1)))
  rw[←this]
theorem b1519' (d:Nat)(l:List AV):cN (d+1) 1519 [.list l] []=exs 60 (cxF f1519 d) f1519.body endK exN [pS (.list l),none,none,none,none,none,none,none,none,none,none,none,none,none,none,none,none,none,none,none,none]:=by kernel_rfl
theorem b1519 (d:Nat)(l:List AV):cN (d+1) 1519 [.list l] []=exs 60 (cxF f1519 d) (f1519.body.take 2++(nthS f1519.body 2::f1519.body.drop 3)) endK exN [pS (.list l),none,none,none,none,none,none,none,none,none,none,none,none,none,none,none,none,none,none,none,none]:=by
 rw[b1519',←nthS_split f1519.body 2 (by decide +kernel)]
noncomputable def forI:Stmt→PySem.Expr
 | .For _ i _ _ _=>i
 | _=>.Constant .none 0 default
noncomputable def forP:Stmt→Pos
 | .For _ _ _ _ p=>p
 | _=>default
theorem exS_for {R:Type}{n:Nat}{C:Ctx}{t i:PySem.Expr}{b:List Stmt}{p:Pos}{k:KF R}{X:KX R}{e:AEnv}(h:(notSetE i&&(isTupT t == isTup1 t))=true):exS (n+1) C (.For t i b [] p) k X e=itrG (ev n C) (evs n C) C (isTupT t) i (fun xs e'=>forL (asg C t) (exs n C b) xs k X e') X e:=by
 show (match (notSetE i&&(isTupT t == isTup1 t)) with|true=>bnd (itrG (ev n C) (evs n C) C (isTupT t) i) fun xs=>forL (asg C t) (exs n C b) xs|false=>stuck) k X e=_
 rw[h]
 rfl
theorem for1519:nthS f1519.body 2=.For (forT (nthS f1519.body 2)) (forI (nthS f1519.body 2)) fb [] (forP (nthS f1519.body 2)):=by kernel_rfl
theorem itr_0 {R:Type}(d:Nat)(s0 s1 s2 s4 s5 s6 s7 s8 s9 s10 s11 s12 s13 s14 s15 s16 s17 s18 s19 s20:Option Slot)(k:List AV→AEnv→Option R)(X:KX R):itrG (ev 56 (cxF f1519 d)) (evs 56 (cxF f1519 d)) (cxF f1519 d) (isTupT (forT (nthS f1519.body 2))) (forI (nthS f1519.body 2)) k X [s0,s1,s2,pS (.list []),s4,s5,s6,s7,s8,s9,s10,s11,s12,s13,s14,s15,s16,s17,s18,s19,s20]=k [] [s0,s1,s2,pS (.list []),s4,s5,s6,s7,s8,s9,s10,s11,s12,s13,s14,s15,s16,s17,s18,s19,s20]:=by kernel_rfl
theorem itr_1 {R:Type}(d:Nat)(y0:AV)(s0 s1 s2 s4 s5 s6 s7 s8 s9 s10 s11 s12 s13 s14 s15 s16 s17 s18 s19 s20:Option Slot)(k:List AV→AEnv→Option R)(X:KX R):itrG (ev 56 (cxF f1519 d)) (evs 56 (cxF f1519 d)) (cxF f1519 d) (isTupT (forT (nthS f1519.body 2))) (forI (nthS f1519.body 2)) k X [s0,s1,s2,pS (.list [y0]),s4,s5,s6,s7,s8,s9,s10,s11,s12,s13,s14,s15,s16,s17,s18,s19,s20]=k [(.int 0)] [s0,s1,s2,pS (.list [y0]),s4,s5,s6,s7,s8,s9,s10,s11,s12,s13,s14,s15,s16,s17,s18,s19,s20]:=by kernel_rfl
theorem itr_2 {R:Type}(d:Nat)(y0 y1:AV)(s0 s1 s2 s4 s5 s6 s7 s8 s9 s10 s11 s12 s13 s14 s15 s16 s17 s18 s19 s20:Option Slot)(k:List AV→AEnv→Option R)(X:KX R):itrG (ev 56 (cxF f1519 d)) (evs 56 (cxF f1519 d)) (cxF f1519 d) (isTupT (forT (nthS f1519.body 2))) (forI (nthS f1519.body 2)) k X [s0,s1,s2,pS (.list [y0,y1]),s4,s5,s6,s7,s8,s9,s10,s11,s12,s13,s14,s15,s16,s17,s18,s19,s20]=k [(.int 0)] [s0,s1,s2,pS (.list [y0,y1]),s4,s5,s6,s7,s8,s9,s10,s11,s12,s13,s14,s15,s16,s17,s18,s19,s20]:=by kernel_rfl
theorem itr_3 {R:Type}(d:Nat)(y0 y1 y2:AV)(s0 s1 s2 s4 s5 s6 s7 s8 s9 s10 s11 s12 s13 s14 s15 s16 s17 s18 s19 s20:Option Slot)(k:List AV→AEnv→Option R)(X:KX R):itrG (ev 56 (cxF f1519 d)) (evs 56 (cxF f1519 d)) (cxF f1519 d) (isTupT (forT (nthS f1519.body 2))) (forI (nthS f1519.body 2)) k X [s0,s1,s2,pS (.list [y0,y1,y2]),s4,s5,s6,s7,s8,s9,s10,s11,s12,s13,s14,s15,s16,s17,s18,s19,s20]=k [(.int 0),(.int 2)] [s0,s1,s2,pS (.list [y0,y1,y2]),s4,s5,s6,s7,s8,s9,s10,s11,s12,s13,s14,s15,s16,s17,s18,s19,s20]:=by kernel_rfl
theorem itr_4 {R:Type}(d:Nat)(y0 y1 y2 y3:AV)(s0 s1 s2 s4 s5 s6 s7 s8 s9 s10 s11 s12 s13 s14 s15 s16 s17 s18 s19 s20:Option Slot)(k:List AV→AEnv→Option R)(X:KX R):itrG (ev 56 (cxF f1519 d)) (evs 56 (cxF f1519 d)) (cxF f1519 d) (isTupT (forT (nthS f1519.body 2))) (forI (nthS f1519.body 2)) k X [s0,s1,s2,pS (.list [y0,y1,y2,y3]),s4,s5,s6,s7,s8,s9,s10,s11,s12,s13,s14,s15,s16,s17,s18,s19,s20]=k [(.int 0),(.int 2)] [s0,s1,s2,pS (.list [y0,y1,y2,y3]),s4,s5,s6,s7,s8,s9,s10,s11,s12,s13,s14,s15,s16,s17,s18,s19,s20]:=by kernel_rfl
theorem itr_5 {R:Type}(d:Nat)(y0 y1 y2 y3 y4:AV)(s0 s1 s2 s4 s5 s6 s7 s8 s9 s10 s11 s12 s13 s14 s15 s16 s17 s18 s19 s20:Option Slot)(k:List AV→AEnv→Option R)(X:KX R):itrG (ev 56 (cxF f1519 d)) (evs 56 (cxF f1519 d)) (cxF f1519 d) (isTupT (forT (nthS f1519.body 2))) (forI (nthS f1519.body 2)) k X [s0,s1,s2,pS (.list [y0,y1,y2,y3,y4]),s4,s5,s6,s7,s8,s9,s10,s11,s12,s13,s14,s15,s16,s17,s18,s19,s20]=k [(.int 0),(.int 2),(.int 4)] [s0,s1,s2,pS (.list [y0,y1,y2,y3,y4]),s4,s5,s6,s7,s8,s9,s10,s11,s12,s13,s14,s15,s16,s17,s18,s19,s20]:=by kernel_rfl
theorem itr_6 {R:Type}(d:Nat)(y0 y1 y2 y3 y4 y5:AV)(s0 s1 s2 s4 s5 s6 s7 s8 s9 s10 s11 s12 s13 s14 s15 s16 s17 s18 s19 s20:Option Slot)(k:List AV→AEnv→Option R)(X:KX R):itrG (ev 56 (cxF f1519 d)) (evs 56 (cxF f1519 d)) (cxF f1519 d) (isTupT (forT (nthS f1519.body 2))) (forI (nthS f1519.body 2)) k X [s0,s1,s2,pS (.list [y0,y1,y2,y3,y4,y5]),s4,s5,s6,s7,s8,s9,s10,s11,s12,s13,s14,s15,s16,s17,s18,s19,s20]=k [(.int 0),(.int 2),(.int 4)] [s0,s1,s2,pS (.list [y0,y1,y2,y3,y4,y5]),s4,s5,s6,s7,s8,s9,s10,s11,s12,s13,s14,s15,s16,s17,s18,s19,s20]:=by kernel_rfl
theorem itr_7 {R:Type}(d:Nat)(y0 y1 y2 y3 y4 y5 y6:AV)(s0 s1 s2 s4 s5 s6 s7 s8 s9 s10 s11 s12 s13 s14 s15 s16 s17 s18 s19 s20:Option Slot)(k:List AV→AEnv→Option R)(X:KX R):itrG (ev 56 (cxF f1519 d)) (evs 56 (cxF f1519 d)) (cxF f1519 d) (isTupT (forT (nthS f1519.body 2))) (forI (nthS f1519.body 2)) k X [s0,s1,s2,pS (.list [y0,y1,y2,y3,y4,y5,y6]),s4,s5,s6,s7,s8,s9,s10,s11,s12,s13,s14,s15,s16,s17,s18,s19,s20]=k [(.int 0),(.int 2),(.int 4),(.int 6)] [s0,s1,s2,pS (.list [y0,y1,y2,y3,y4,y5,y6]),s4,s5,s6,s7,s8,s9,s10,s11,s12,s13,s14,s15,s16,s17,s18,s19,s20]:=by kernel_rfl
theorem itr_8 {R:Type}(d:Nat)(y0 y1 y2 y3 y4 y5 y6 y7:AV)(s0 s1 s2 s4 s5 s6 s7 s8 s9 s10 s11 s12 s13 s14 s15 s16 s17 s18 s19 s20:Option Slot)(k:List AV→AEnv→Option R)(X:KX R):itrG (ev 56 (cxF f1519 d)) (evs 56 (cxF f1519 d)) (cxF f1519 d) (isTupT (forT (nthS f1519.body 2))) (forI (nthS f1519.body 2)) k X [s0,s1,s2,pS (.list [y0,y1,y2,y3,y4,y5,y6,y7]),s4,s5,s6,s7,s8,s9,s10,s11,s12,s13,s14,s15,s16,s17,s18,s19,s20]=k [(.int 0),(.int 2),(.int 4),(.int 6)] [s0,s1,s2,pS (.list [y0,y1,y2,y3,y4,y5,y6,y7]),s4,s5,s6,s7,s8,s9,s10,s11,s12,s13,s14,s15,s16,s17,s18,s19,s20]:=by kernel_rfl
theorem itr1519 {d:Nat}:∀(ns:List AV),ns.length≤8→∃ts:List Nat,ts.length≤4∧(∀t∈ts,t<ns.length)∧∀(R:Type) (s0 s1 s2 s4 s5 s6 s7 s8 s9 s10 s11 s12 s13 s14 s15 s16 s17 s18 s19 s20:Option Slot) (k:List AV→AEnv→Option R) (X:KX R),itrG (ev 56 (cxF f1519 d)) (evs 56 (cxF f1519 d)) (cxF f1519 d) (isTupT (forT (nthS f1519.body 2))) (forI (nthS f1519.body 2)) k X [s0,s1,s2,pS (.list ns),s4,s5,s6,s7,s8,s9,s10,s11,s12,s13,s14,s15,s16,s17,s18,s19,s20]=k (ts.map fun t=>.int (t:Nat)) [s0,s1,s2,pS (.list ns),s4,s5,s6,s7,s8,s9,s10,s11,s12,s13,s14,s15,s16,s17,s18,s19,s20]:=by
 intro ns hn
 rcases ns with _|⟨y0,_|⟨y1,_|⟨y2,_|⟨y3,_|⟨y4,_|⟨y5,_|⟨y6,_|⟨y7,_|⟨y8,r⟩⟩⟩⟩⟩⟩⟩⟩⟩
 ·exact ⟨[],by decide,of_decide_eq_true rfl,fun R=>itr_0 d⟩
 ·exact ⟨[0],by decide,of_decide_eq_true rfl,fun R=>itr_1 d y0⟩
 ·exact ⟨[0],by decide,of_decide_eq_true rfl,fun R=>itr_2 d y0 y1⟩
 ·exact ⟨[0,2],by decide,of_decide_eq_true rfl,fun R=>itr_3 d y0 y1 y2⟩
 ·exact ⟨[0,2],by decide,of_decide_eq_true rfl,fun R=>itr_4 d y0 y1 y2 y3⟩
 ·exact ⟨[0,2,4],by decide,of_decide_eq_true rfl,fun R=>itr_5 d y0 y1 y2 y3 y4⟩
 ·exact ⟨[0,2,4],by decide,of_decide_eq_true rfl,fun R=>itr_6 d y0 y1 y2 y3 y4 y5⟩
 ·exact ⟨[0,2,4,6],by decide,of_decide_eq_true rfl,fun R=>itr_7 d y0 y1 y2 y3 y4 y5 y6⟩
 ·exact ⟨[0,2,4,6],by decide,of_decide_eq_true rfl,fun R=>itr_8 d y0 y1 y2 y3 y4 y5 y6 y7⟩
 ·exact absurd hn (by show ¬r.length+9≤8; lia)
theorem x1519 {d:Nat}{ns:List AV}(hn:ns.length≤8):∃ts:List Nat,ts.length≤4∧(∀t∈ts,t<ns.length)∧∀(R:Type) (s0 s1 s2 s4 s5 s6 s7 s8 s9 s10 s11 s12 s13 s14 s15 s16 s17 s18 s19 s20:Option Slot) (k:KF R) (X:KX R),exS 57 (cxF f1519 d) (nthS f1519.body 2) k X [s0,s1,s2,pS (.list ns),s4,s5,s6,s7,s8,s9,s10,s11,s12,s13,s14,s15,s16,s17,s18,s19,s20] =
 forL (asg (cxF f1519 d) (forT (nthS f1519.body 2))) (exs 56 (cxF f1519 d) fb) (ts.map fun t=>.int (t:Nat)) k X [s0,s1,s2,pS (.list ns),s4,s5,s6,s7,s8,s9,s10,s11,s12,s13,s14,s15,s16,s17,s18,s19,s20]:=by
 obtain ⟨ts,h1,h2,h3⟩:=itr1519 (d:=d) ns hn
 refine ⟨ts,h1,h2,fun R s0 s1 s2 s4 s5 s6 s7 s8 s9 s10 s11 s12 s13 s14 s15 s16 s17 s18 s19 s20 k X=>?_⟩
 exact ((congrArg (fun s=>exS (56+1) (cxF f1519 d) s k X [s0,s1,s2,pS (.list ns),s4,s5,s6,s7,s8,s9,s10,s11,s12,s13,s14,s15,s16,s17,s18,s19,s20]) for1519).trans (exS_for (by kernel_rfl))).trans (h3 R s0 s1 s2 s4 s5 s6 s7 s8 s9 s10 s11 s12 s13 s14 s15 s16 s17 s18 s19 s20 _ X)
theorem law_true (d:Nat)(script:List Int):cN (d+25) 1519 [.list (script.map .int)] []=some (.ok (.bool true)):=by
 have hns:cutL (script.map AV.int) none (some 8)=(script.take 8).map AV.int:=by rw[cut_eight,List.map_take]
 obtain ⟨ts,ht1,ht2,ht3⟩:=x1519 (d:=d+24) (ns:=(script.take 8).map AV.int) (by rw[List.length_map,List.length_take]; omega)
 obtain ⟨ds,s4,e,h1,h2,h3,h4⟩:=loop (d:=d) (s0:=pS (.list (script.map .int))) (l:=script.take 8) ts [] none _ (fun t h=>by have:=ht2 t h; rwa [List.length_map] at this) .nil (by simpa using ht1) ⟨none,none,none,none,none,none,none,none,none,none,none,none,none,none,none,none,rfl⟩
 rw[b1519,exs_app (m:=57) _ _ _ (by rfl),p1519,hns,sN,xS,ht3]
 refine Eq.trans (h4 _ _ _) ?_
 rw[sN]
 exact fin (d:=d) h1 h2 (Except AX AV) endK exN h3 (fun J=>rfl)
theorem int_of {d:WData}(q:WShape.has [] d .int=true):∃i,d=.int i:=by
 cases d <;> first|exact ⟨_,rfl⟩|exact nT' q
theorem has_list (xs:List WData):WShape.has [] (.list xs) (.list .int)=(WShape.hasItems [] xs .int||false):=by kernel_rfl
theorem has_cons (d:WData)(ds:List WData):WShape.hasItems [] (d::ds) .int=(WShape.has [] d .int&&WShape.hasItems [] ds .int):=by kernel_rfl
theorem list_of {d:WData}(q:WShape.has [] d (.list .int)=true):∃xs,d=.list xs∧WShape.hasItems [] xs .int=true:=by
 cases d <;> first|exact ⟨_,rfl,(Bool.or_false _).symm.trans ((has_list _).symm.trans q)⟩|exact nT' q
theorem reads_int {R:WRecords}{cl:Str→Option Addr}{h:Heap}{v:Value}{i:Int}{as:List Addr}(r:ReadsW R cl h v (.int i) as):∃t,v=.int i t:=by
 cases r; exact ⟨_,rfl⟩
theorem reads_list {R:WRecords}{cl:Str→Option Addr}{h:Heap}{v:Value}{xs:List WData}{as:List Addr}(r:ReadsW R cl h v (.list xs) as):∃a o vs n bs,v=.ref a∧h.get? a=some o∧o.data=.seq vs n∧ReadsAllW R cl h vs.toList xs bs:=by
 cases r with
 | list h1 h2 h3 h4=>exact ⟨_,_,_,_,_,rfl,h1,h3,h4⟩
theorem ints_rel {K:PW}{h:Heap}{A:Addr→Prop}{R:WRecords}{cl:Str→Option Addr}:∀{xs:List WData} {vs:List Value} {as:List Addr},ReadsAllW R cl h vs xs as→WShape.hasItems [] xs .int=true→∃l:List Int,xs=l.map .int∧RelL K h A vs (l.map .int)
 | [],_,_,r,_=>by cases r; exact ⟨[],rfl,rfl⟩
 | d::ds,_,_,r,q=>by
  rw[has_cons,Bool.and_eq_true] at q
  cases r with
  | cons r1 r2 =>
   obtain ⟨i,rfl⟩:=int_of q.1
   obtain ⟨t,rfl⟩:=reads_int r1
   obtain ⟨l,rfl,hl⟩:=ints_rel r2 q.2
   exact ⟨i::l,rfl,.int i t,_,rfl,⟨t,rfl⟩,hl⟩
theorem lay_list {w:World}{s₀ s₁:Shared}{xs:List WData}{vs:List Value}{ord:List DictEntry→List DictEntry}(lay:layAllW [] (classAt s₀.heap) w.params ord [.list xs] s₀=some (vs,s₁)) :
  ∃a arr,vs=[.ref a]∧s₁.heap.PlainList a arr:=by
 obtain ⟨a1,q1,h1,h2,h3⟩:=layAllW_cons lay
 obtain ⟨q,h4,h5⟩:=layW_list h1
 have h6:layAllW [] (classAt s₀.heap) w.params ord [] a1.2=some ([],a1.2):=by simp[layAllW]
 rw[h6] at h2
 injection h2 with h2
 subst h2 h5
 injection h3 with h3 h7
 subst h3 h7
 exact ⟨_,q.1.toArray,rfl,_,Heap.get?_push_size _ rfl⟩
theorem script_rel {w:World}{s₀ s₁:Shared}{args:List WData}{vs:List Value}{as:List Addr}{K:PW}{A:Addr→Prop}(hp:WShape.hasAll [] args [.list .int]=true)(L:Laid [] w s₀ s₁ args vs as) :
  ∃(l:List Int) (a:Addr) (arr:Array Value),args=[.list (l.map .int)]∧vs=[.ref a]∧s₁.heap.PlainList a arr∧RelL K s₁.heap A arr.toList (l.map .int):=by
 obtain ⟨x,r,rfl,hx,hr⟩:=hasAllW_cons hp
 have hr:r=[]:=by cases r with|nil=>rfl|cons=>exact nT' hr
 subst hr
 obtain ⟨xs,rfl,hi⟩:=list_of hx
 obtain ⟨ord,hord,lay⟩:=L.laid
 obtain ⟨a,arr,rfl,hpl⟩:=lay_list lay
 have hrd:=L.reads
 cases hrd with
 | cons r1 r2 =>
  obtain ⟨a',o,vs',n,bs,e,ho,hd,hvs⟩:=reads_list r1
  injection e with e
  subst e
  obtain ⟨m,hm⟩:=hpl
  rw[hm] at ho
  injection ho with ho
  subst ho
  injection hd with hd
  subst hd
  obtain ⟨l,rfl,hl⟩:=ints_rel (K:=K) (A:=A) hvs hi
  exact ⟨l,a,arr,rfl,rfl,⟨m,hm⟩,hl⟩
theorem pre_shape {args:List WData}(h:law.row.toRowW.claim.pre args=true):WShape.hasAll [] args [.list .int]=true:=(pre_splitW (r:=law.row.toRowW) h).1
theorem post_true {args:List WData}:law.row.toRowW.claim.post args (.bool true) args=true:=by kernel_rfl
theorem law_good {s₀ s₁:Shared}{args:List WData}{s':Shared}(keep:∀a o,s₁.heap.get? a=some o→s'.heap.get? a=some o)(os:s'.os=s₁.os)(gb:AllBare s'.gens) :
  GoodWG law.row.toRowW.claim (classAt s₀.heap) (ExcName.means s₀.heap) args s₁ (.ok (.ret (.bool true))) s' :=
 ⟨.inl ⟨.bool true,.bool true,[],rfl,fun cls=>rfl,.bool true,post_true,fun J=>⟨.nil,nofun⟩⟩,.of_keep keep,os,gb⟩
theorem main_ns (w:World)(os:OsState)(s₀:Shared)(T:FinT w os s₀):∃m,s₀.heap.Ns mainNs m∧m law.name=some (.ref 1519):=by
 have h3:s₀.heap.get? 3=some (oMain w.params):=T.vol _ (.tail _ (.head _))
 have e:s₀.heap.get? mainGlobals=(tinW w.params).get? mainGlobals:=h3.trans rfl
 have ns:=tin_ns w.params
 simp only[Bool.and_eq_true] at ns
 have hn:s₀.heap.isNs mainGlobals=true:=by rw[isNs_congr e]; exact ns.1.2
 exact ⟨_,.of_isNs hn,(Pin.globalOf_eq hn _).symm.trans ((globalOf_congr (h3.trans (show some (oMain w.params)=(tin1 w.params).get? 3 from rfl)) _).trans (law_name _))⟩
theorem short {l:List Int}(h:law.row.toRowW.claim.pre [.list (l.map .int)]=true):l.length≤63:=by
 have h2:=(pre_splitW (r:=law.row.toRowW) h).2
 have e:law.row.toRowW.pre=.and (.not (.lt (.lit (.int 63)) (.len (.arg 0)))) (.lit (.bool true)):=by kernel_rfl
 rw[e] at h2
 simp[WTm.holds,WTm.value] at h2
 rcases Nat.lt_or_ge 63 l.length with q|q
 ·exfalso
  have q':(63:Int)<(l.length:Int):=by omega
  simp[less?,Num.less?,q'] at h2
 ·exact q
theorem room0:Room callerA 30:=⟨rfl,by decide,by decide⟩
theorem law_call (w:World)(os:OsState)(s₀ s₁:Shared)(args:List WData)(vs:List Value)(as:List Addr)(T:FinT w os s₀)(hp:law.row.toRowW.claim.pre args=true)(hl:WData.layableAll args=true)(L:Laid [] w s₀ s₁ args vs as) :
  wpAny (model prog w) callerA (do match ←nsGet mainNs law.name with
    | some f=>do PySem.ret (←PySem.call f vs)
    | none=>unsupported "claim.caller:no-such-global") (fun fin s'=>∃v,fin=.done (.ret v)∧GoodWG law.row.toRowW.claim (classAt s₀.heap) (ExcName.means s₀.heap) args s₁ (.ok (.ret v)) s')
   (fun e s'=>False) s₁:=by
 obtain ⟨m,hm,hn⟩:=main_ns w os s₀ T
 have hm1:s₁.heap.Ns mainNs m:=by
  obtain ⟨o,es,ep,ho,r⟩:=hm
  exact ⟨o,es,ep,L.keeps _ _ ho,r⟩
 obtain ⟨l,a,arr,rfl,rfl,hpl,hr⟩:=script_rel (K:=⟨prog,w⟩) (A:=fun J=>False) (pre_shape hp) L
 have hlen:=short hp
 have hrel:RelL ⟨prog,w⟩ s₁.heap (fun J=>False) [.ref a] [.list (l.map .int)]:=⟨.ref a,[],rfl,⟨a,arr,rfl,id,hpl,by rw[List.length_map]; exact Nat.le_trans hlen (by decide),hr⟩,rfl⟩
 have tc:=topCall (wok w os s₀ T) 29 room0 L.keeps (.of_eq L.gens) hrel (law_true 5 l)
 refine wpAny_bind (wpAny_nsGet hm1 ?_)
 rw[hn]
 refine wpAny_bind (wpAny_mono tc (fun v s' ⟨hv,keep,hos,gb⟩=>?_) fun e s' h=>h)
 subst hv
 exact wpAny_pure ⟨_,rfl,law_good keep hos gb⟩
theorem law_holds:law.Holds:=holds_of law_call
end
end Mine
theorem PySem.Challenge.cw_ag0004_03_holds : PySem.Challenge.rw_ag0004_03.Holds :=
 Mine.law_holds
