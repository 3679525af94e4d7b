import PyProof.Rows.All
import Wide.All
import OpenK.AllK
import Wide.FinOn
import KE.KIntText
import KE.KRevSl
import PyProof.StrLawsIn
import Lean
import PySem.Challenge.RW_tp0058_02
set_option maxRecDepth 100000
set_option Elab.async false
set_option linter.all false
set_option genSizeOf false
set_option genSizeOfSpec false
set_option genInjectivity false
local macro_rules | `(tactic| rfl') => `(tactic| kernel_rfl)
local macro_rules | `(⋯) => `(by kernel_rfl)
section
open PySem PySem.W
namespace Mine
noncomputable def Hd {α:Type} (x:Option α) (P:α→Prop):Prop:=x.elim False P
theorem Hd.b {α β:Type} {x:Option α} {f:α→Option β} {P:β→Prop} (h:Hd (x.bind f) P):Hd x fun a=>Hd (f a) P:=by
  cases x<;>exact h
theorem Hd.m {α β:Type} {x:Option α} {f:α→β} {P:β→Prop} (h:Hd (x.map f) P):Hd x fun a=>P (f a):=by
  cases x<;>exact h
theorem Hd.el {α β:Type} {x:Option α} {y:Option β} {f:α→Option β} {P:β→Prop} {R:Prop} (h:Hd (x.elim y f) P) (h1:Hd x (fun a=>Hd (f a) P)→R) (h2:Hd y P→R):R:=by
  cases x<;>first |exact h1 h |exact h2 h
theorem Hd.el' {α β:Type} {x:Option α} {y:Option β} {f:α→Option β} {P:β→Prop} {R:Prop} (h:Hd (x.elim y f) P) (h1:∀a,x=some a→Hd (f a) P→R) (h2:x=none→Hd y P→R):R:=by
  cases x with
  |none=>exact h2 rfl h
  |some a=>exact h1 a rfl h
theorem Hd.get {α:Type} {x:Option α} {P:α→Prop} {R:Prop} (h:Hd x P) (k:∀a,x=some a→P a→R):R:=by
  cases x with
  |none=>exact h.elim
  |some a=>exact k a rfl h
theorem Hd.of {α:Type} {x:Option α} {a:α} {P:α→Prop} (h:x=some a) (k:P a):Hd x P:=by subst h;exact k
noncomputable def gd {α:Type} (b:Bool) (x:Option α):Option α:=bif b then x else none
theorem Hd.g {α:Type} {b:Bool} {x:Option α} {P:α→Prop} {R:Prop} (h:Hd (gd b x) P) (k:b=true→Hd x P→R):R:=by
  cases b with
  |false=>exact h.elim
  |true=>exact k rfl h
theorem Hd.gd {α:Type} {p:Prop} [Decidable p] {x:Option α} {P:α→Prop} {R:Prop} (h:Hd (gd (decide p) x) P) (k:p→Hd x P→R):R:=h.g fun e=>k (of_decide_eq_true e)
theorem Hd.bif {α:Type} {b:Bool} {x y:Option α} {P:α→Prop} {R:Prop} (h:Hd (bif b then x else y) P) (k:b=true→Hd x P→R) (l:b=false→Hd y P→R):R:=by
  cases b with
  |false=>exact l rfl h
  |true=>exact k rfl h
noncomputable def one {α β:Type} (l:List α) (k:α→Option β):Option β:=match l with |[a]=>k a |_=>none
noncomputable def two {α β:Type} (l:List α) (k:α→α→Option β):Option β:=match l with |[a,b]=>k a b |_=>none
theorem Hd.one {α β:Type} {l:List α} {k:α→Option β} {P:β→Prop} {R:Prop} (h:Hd (one l k) P) (f:∀a,l=[a]→Hd (k a) P→R):R:=by
  match l with
  |[]=>exact h.elim
  |[a]=>exact f a rfl h
  |_::_::_=>exact h.elim
theorem Hd.two {α β:Type} {l:List α} {k:α→α→Option β} {P:β→Prop} {R:Prop} (h:Hd (two l k) P) (f:∀a b,l=[a,b]→Hd (k a b) P→R):R:=by
  match l with
  |[]=>exact h.elim
  |[_]=>exact h.elim
  |[a,b]=>exact f a b rfl h
  |_::_::_::_=>exact h.elim
noncomputable def nil {α β:Type} (l:List α) (k:Option β):Option β:=match l with |[]=>k |_=>none
theorem Hd.nil {α β:Type} {l:List α} {k:Option β} {P:β→Prop} {R:Prop} (h:Hd (nil l k) P) (f:l=[]→Hd k P→R):R:=by
  match l with
  |[]=>exact f rfl h
  |_::_=>exact h.elim
end Mine
end
section
open PySem PySem.W PyProof.Rows
namespace Mine
section
variable (tb:String→Option Builtin) (prog:Program) (w:World)
mutual
noncomputable def evT:Nat→Ctx→{α:Type}→Sem α→Pos→SharedT→Option (Except Value α×Pos×SharedT)
  |0,_,_,_,_,_=>none
  | n+1,Γ,_,t,p,⟨T,m,life,gens,drawn,toks,os⟩=>match t with
    | .pure a=>some (.ok a,p,⟨T,m,life,gens,drawn,toks,os⟩)
    | .raise e=>some (.error e,p,⟨T,m,life,gens,drawn,toks,os⟩)
    | .rule _ k=>evT n Γ (k ()) p ⟨T,m,life,gens,drawn,toks,os⟩
    | .at q k=>evT n Γ (k ()) q ⟨T,m,life,gens,drawn,toks,os⟩
    | .load a _ k=>gd (Nat.blt a m) ((T.get a).bind fun o=>(alive o).bind fun o'=>evT n Γ (k o') p ⟨T,m,life,gens,drawn,toks,os⟩)
    | .update a _ f k=>gd (Nat.blt a m) ((T.get a).bind fun o=>(alive o).bind fun _=>evT n Γ (k ()) p ⟨T.set a f,m,life,gens,drawn,toks,os⟩)
    | .alloc o k=>gd ((T.ins m o).get m).isSome (evT n Γ (k m) p ⟨T.ins m o,m+1,life,gens,drawn,toks,os⟩)
    | .loadIfAlive a k=>bif Nat.blt a m then(T.get a).bind fun o=>evT n Γ (k (alive o)) p ⟨T,m,life,gens,drawn,toks,os⟩else evT n Γ (k none) p ⟨T,m,life,gens,drawn,toks,os⟩
    | .point _ k=>evT n Γ (k ()) p ⟨T,m,life,gens,drawn,toks,os⟩
    | .fresh k=>evT n Γ (k toks) p ⟨T,m,life,gens,drawn,toks+1,os⟩
    | .ask k=>evT n Γ (k ⟨prog,w.params⟩) p ⟨T,m,life,gens,drawn,toks,os⟩
    | .handled own k=>evT n Γ (k (bif own then Γ.own else Γ.handled)) p ⟨T,m,life,gens,drawn,toks,os⟩
    | .stack k=>evT n Γ (k ((Γ.code,p)::Γ.below)) p ⟨T,m,life,gens,drawn,toks,os⟩
    | .thread k=>evT n Γ (k 0) p ⟨T,m,life,gens,drawn,toks,os⟩
    | .call c h _ _ k=>(evC n (Γ.enter c h p) p ⟨T,m,life,gens,drawn,toks,os⟩).bind fun q=>evT n Γ (k q.1) p q.2
    |_=>none
noncomputable def evC:Nat→Ctx→Pos→SharedT→Option (Result×SharedT)
  |0,_,_,_=>none
  | n+1,Γ,p,s=>(evT n Γ (denote tb Γ.code) p s).bind fun q=>match q.1 with
    | .ok (.done f)=>some (.ok f,q.2.2)
    | .error e=>some (.error e,q.2.2)
    | .ok (.again c)=>gd c.quiet (evC n (Γ.goto c) q.2.1 q.2.2)
end
end
open Sem (wp)
theorem get_of {T:BT} {m:Nat} {life:Life} {a:Nat} {o o':Obj} (e:Nat.blt a m=true) (g:T.get a=some o) (al:alive o=some o'):(absHeap T m life).get? a=some o':=by
  rw[abs_get (Nat.le_of_ble_eq_true e) g,al]
noncomputable def Out {α:Type} (Q:α→Pos→Shared→Prop) (E:Value→Pos→Shared→Prop) (q:Except Value α×Pos×SharedT):Prop:=match q.1 with | .ok a=>Q a q.2.1 q.2.2.abs | .error e=>E e q.2.1 q.2.2.abs
theorem wpCode_of {M:Model} {Γ:Ctx} {R:Result→Shared→Prop} {p:Pos} {s:Shared}
    (h:Sem.wp M Γ (M.den Γ.code) (Sem.finPost M Γ R) (fun e _ s'=>R (.error e) s') p s):wpCode M Γ R p s:=by
  obtain⟨r,s'',hr,h'⟩:=(Sem.wp_iff_runs M Γ _ R p s).mp h
  exact⟨r,s'',hr,h'⟩
mutual
theorem evT_sd (prog:Program) (w:World):∀(n:Nat) (Γ:Ctx) {α:Type} (t:Sem α) (p:Pos) (s:SharedT) (Q:α→Pos→Shared→Prop) (E:Value→Pos→Shared→Prop),
    Hd (evT table prog w n Γ t p s) (Out Q E)→wp (model prog w) Γ t Q E p s.abs
  |0,_,_,_,_,_,_,_,h=>h.elim
  | n + 1,Γ,α,t,p,⟨T,m,life,gens,drawn,toks,os⟩,Q,E,h=>by
    have ih (t:Sem α) (p:Pos) (s:SharedT) (h:Hd (evT table prog w n Γ t p s) (Out Q E)):=evT_sd prog w n Γ t p s Q E h
    cases t with
    |pure a=>rw[wp];exact h
    |raise e=>rw[wp];exact h
    |rule tag k=>rw[wp];exact ih (k ()) p _ h
    |«at» q k=>rw[wp];exact ih (k ()) q _ h
    |load a part k=>exact Hd.g h fun e h=>(Hd.b h).get fun o g h=>(Hd.b h).get fun o' al h=>by rw[wp];exact⟨o',get_of e g al,ih (k o') p _ h⟩
    | update a part f k=>
      exact Hd.g h fun e h=>(Hd.b h).get fun o g h=>(Hd.b h).get fun o' al h=>by
        rw[wp]
        refine⟨by show((absHeap T m life).get? a).isSome=true;rw[get_of e g al];rfl,?_⟩
        show wp (model prog w) Γ (k ()) Q E p ⟨(absHeap T m life).update a f,gens,drawn,toks,os⟩
        rw[←absHeap_set g]
        exact ih (k ()) p _ h
    | alloc o k=>
      exact Hd.g h fun e h=>by
        rw[wp]
        show wp (model prog w) Γ (k (absHeap T m life).objs.size) Q E p ⟨(absHeap T m life).push o,gens,drawn,toks,os⟩
        rw[←absHeap_ins e,absHeap_size]
        exact ih (k m) p _ h
    |loadIfAlive a k=>
        rw[wp]
        show wp (model prog w) Γ (k ((absHeap T m life).get? a)) Q E p ⟨absHeap T m life,gens,drawn,toks,os⟩
        refine Hd.bif h (fun e h=>(Hd.b h).get fun o g h=>?_) fun e h=>?_
        · rw[abs_get (Nat.le_of_ble_eq_true e) g]
          exact ih (k (alive o)) p _ h
        · rw[abs_get_none (fun q=>by rw[show Nat.blt a m=true from Nat.ble_eq_true_of_le q]at e;cases e)]
          exact ih (k none) p _ h
    |point l k=>rw[wp];exact ih (k ()) p _ h
    |fresh k=>rw[wp];exact ih (k toks) p ⟨T,m,life,gens,drawn,toks+1,os⟩ h
    |ask k=>rw[wp];exact ih _ p _ h
    | handled own k=>
      rw[wp]
      cases own<;>exact ih _ p _ h
    |stack k=>rw[wp];exact ih _ p _ h
    |thread k=>rw[wp];exact ih (k 0) p _ h
    | call c hd g l k=>
      exact(Hd.b h).get fun q e h=>by
        rw[wp]
        exact evC_sd prog w n _ _ _ _ (.of e (ih (k q.1) p q.2 h))
    |_=>exact h.elim
theorem evC_sd (prog:Program) (w:World):∀(n:Nat) (Γ:Ctx) (p:Pos) (s:SharedT) (R:Result→Shared→Prop),Hd (evC table prog w n Γ p s) (fun q=>R q.1 q.2.abs)→wpCode (model prog w) Γ R p s.abs
  |0,_,_,_,_,h=>h.elim
  | n +1,Γ,p,s,R,h=>(Hd.b h).get fun q e h=>wpCode_of (evT_sd prog w n Γ _ p s _ _ (.of e (by
      obtain⟨r,p',s'⟩:=q
      match r with
      | .ok (.done f)=>exact h
      | .error e=>exact h
      | .ok (.again c)=>exact Hd.g h fun hq h=>⟨hq,evC_sd prog w n _ _ _ R h⟩)))
end
theorem evT_sound (prog:Program) (w:World) (n:Nat) (Γ:Ctx) {α:Type} (t:Sem α) (p:Pos) (s:SharedT) (r:Except Value α) (p':Pos) (s':SharedT)
    (h:evT table prog w n Γ t p s=some (r,p',s')) (Q:α→Pos→Shared→Prop) (E:Value→Pos→Shared→Prop) (hQ:Out Q E (r,p',s')):wp (model prog w) Γ t Q E p s.abs:=
  evT_sd prog w n Γ t p s Q E (.of h hQ)
end Mine
namespace Mine
open PySem PySem.W PyProof.Rows
noncomputable def listNewQ:{B:Builtin // Builtin.«list.__new__»=B}:=⟨_,by unfold Builtin.«list.__new__»;rw[splitQ_eq]⟩
noncomputable def cListNew:Nat:=PySem.code "list.__new__"
noncomputable def tbQ (id:String):Option Builtin:=match Nat.beq (PySem.code id) cListNew with
  |true=>some listNewQ.1
  |false=>treeTable id
theorem table_eq_Q:table=tbQ:=by
  rw[table_eq_tree]
  funext id
  unfold tbQ
  cases h:Nat.beq (PySem.code id) cListNew with
  |false=>rfl
  | true=>
    have:id="list.__new__":=code_inj _ _ (Nat.eq_of_beq_eq_true h)
    subst this
    show treeTable "list.__new__"=some listNewQ.1
    rw[←listNewQ.2]
    rfl'
end Mine
namespace Mine
open PySem PySem.W PyProof.Rows
theorem schedN_of_running {p:Program} {w:World} {n:Nat} {s:Shared} {t:Thread} {s':Shared} {t':Thread} (hr:s.asleep)
    (h:runNI (denote table) p w n s t= .running s' t'):
    ∃σ tau,schedN (denote table) p w n (.single s t)= .running (.single σ tau)∧σ.forget=s'.forget∧tau.forget=t'.forget:=by
  obtain⟨σ,tau,h1,h2,h3⟩:=runNI_running_real h
  refine⟨σ,tau,?_,h2,h3⟩
  rw[schedN_prefix (denote table) p w n s t hr,h1]
  · rfl
  · intro k s₁ t₁ hk h₁
    obtain⟨s₂,t₂,h₂⟩:=runNI_prefix (Nat.le_of_lt hk) h
    obtain⟨s₃,t₃,h₃⟩:=runNI_prefix (k:=k+1) hk h
    obtain⟨σ₂,tau₂,g1,g2,g3⟩:=runNI_running_real h₂
    rw[h₁]at g1
    obtain⟨rfl,rfl⟩:s₁=σ₂∧t₁=tau₂:=by simpa using g1
    obtain⟨σ₃,tau₃,k1,_,_⟩:=runNI_running_real h₃
    refine⟨?_,fun hx=>?_⟩
    · have hstep:stepI (denote table) p w s₂ t₂= .go s₃ t₃:=by
        have e : ∀ (k : Nat) (s:Shared) (t:Thread) (s₂:Shared) (t₂:Thread),runNI (denote table) p w k s t= .running s₂ t₂→runNI (denote table) p w (k+1) s t= .running s₃ t₃→stepI (denote table) p w s₂ t₂= .go s₃ t₃:=by
          intro k
          induction k with
          | zero=>
            intro s t s₂ t₂ a b
            obtain⟨rfl,rfl⟩:s=s₂∧t=t₂:=by simpa[runNI]using a
            simp only[runNI]at b
            cases q:stepI (denote table) p w s t with
            | go x y => rw[q]at b;obtain⟨rfl,rfl⟩:x=s₃∧y=t₃:=by simpa using b
                        rfl
            |halt x y=>rw[q]at b;cases b
          | succ k ih=>
            intro s t s₂ t₂ a b
            rw[runNI]at a b
            cases q:stepI (denote table) p w s t with
            |go x y=>rw[q]at a b;exact ih x y s₂ t₂ a b
            |halt x y=>rw[q]at a;cases a
        exact e k s t s₂ t₂ h₂ h₃
      rw[←Thread.calm_forget,g3,Thread.calm_forget,Thread.calm_eq]
      cases hl:t₂.loud with
      |true=>rw[stepI_loud _ _ _ hl]at hstep;cases hstep
      | false=>
        cases hf:t₂.refused with
        |false=>rfl
        | true=>
          rw[stepI_quiet _ _ _ hl]at hstep
          obtain⟨what,e⟩:=stepK_refused (den:=denote table) (prog:=p) (w:=w) (s:=s₂) hf
          rw[e]at hstep;cases hstep
    · have:runN (denote table) p w (k+1) s t= .halted (.unsupported "lifetime:generator-with-cleanup-left-suspended") s₁:=by
        have e:∀(k:Nat) (s:Shared) (t:Thread),runN (denote table) p w k s t= .running s₁ t₁→runN (denote table) p w (k+1) s t= .halted (.unsupported "lifetime:generator-with-cleanup-left-suspended") s₁:=by
          intro k
          induction k with
          | zero=>
            intro s t a
            obtain⟨rfl,rfl⟩:s=s₁∧t=t₁:=by simpa[runN]using a
            simp only[runN,hx]
          | succ k ih=>
            intro s t a
            rw[runN]at a ⊢
            cases q:step (denote table) p w s t with
            |go x y=>rw[q]at a;exact ih x y a
            |halt x y=>rw[q]at a;cases a
        exact e k s t h₁
      rw[this]at k1;cases k1
theorem forget_eq {σ s:Shared} (h:σ.forget=s.forget) (hg:s.gens=#[]):σ=s:=by
  obtain⟨h1,g1,d1,t1,o1⟩:=σ
  obtain⟨h2,g2,d2,t2,o2⟩:=s
  simp only[Shared.forget,Shared.mk.injEq]at h
  obtain⟨rfl,hgens,rfl,rfl,rfl⟩:=h
  dsimp only at hg
  subst hg
  have:g1=#[]:=by
    have:=congrArg Array.size hgens
    simp at this
    exact this
  rw[this]
theorem run_of_wp {p:Program} {w:World} {s₀:Shared} {R:Shared→Prop} (hz:s₀.asleep)
    (hw:Sem.wp (model p w) (Ctx.of (.builtin "claim.caller" {}) []) (topStub p).cur (fun a _ s'=>(∃f,a=Fin.done f)∧R s') (fun _ _ _=>False) default s₀)
    (hg:∀s,R s→s.gens=#[]):
    ∃s₁,R s₁∧∃n t,schedN (denote table) p w n (.single s₀ (topStub p))= .running (.single s₁ t)∧through t=true:=by
  have hw':Sem.wp (model p w) (Ctx.of (.builtin "claim.caller" {}) []) (topStub p).cur
      (Sem.finPost (model p w) (Ctx.of (.builtin "claim.caller" {}) []) fun r s'=>(∃f,r= .ok f)∧R s') (fun e _ s'=>(∃f,(Except.error e:Result)= .ok f)∧R s') default s₀:=by
    refine Sem.wp_mono _ _ _ (fun a p' s' h=>?_) (fun _ _ _ h=>h.elim) _ _ hw
    obtain⟨⟨f,rfl⟩,h⟩:=h
    exact⟨⟨f,rfl⟩,h⟩
  obtain⟨n,r,s',c',p',hn,⟨f,rfl⟩,hR⟩:=wp_runN hw'
  obtain⟨σ,tau,hs,h1,h2⟩:=schedN_of_running (p:=p) (w:=w) hz hn
  obtain rfl:=forget_eq h1 (hg _ hR)
  refine⟨σ,hR,n,tau,hs,?_⟩
  obtain⟨cur,code,pos,stack⟩:=tau
  simp only[Thread.forget,Thread.mk.injEq,forgetAll]at h2
  obtain⟨rfl,rfl,rfl,h5⟩:=h2
  have:stack=[]:=by cases stack with |nil=>rfl |cons x xs=>simp at h5
  subst this
  rfl
theorem wp_execs_append {M:Model} {Γ:Ctx} {env:Env} {Q:Flow→Pos→Shared→Prop} {E:Value→Pos→Shared→Prop}:∀(l r:List Stmt) (p:Pos) (s:Shared),
    Sem.wp M Γ (execs l env) (fun f p' s'=>match f with | .next=>Sem.wp M Γ (execs r env) Q E p' s' |f=>Q f p' s') E p s→Sem.wp M Γ (execs (l++r) env) Q E p s
  | [],r,p,s,h=>by
    rw[execs_nil]at h
    exact h
  | x::l,r,p,s,h=>by
    rw[List.cons_append,execs_cons]
    rw[execs_cons]at h
    rw[Sem.wp_bind']at h ⊢
    refine Sem.wp_mono _ _ _ (fun f p' s' h'=>?_) (fun _ _ _ e=>e) _ _ h
    cases f with
    |next=>exact wp_execs_append l r p' s' h'
    |_=>exact h'
structure TopOK (p:Program) (w:World) (Γ:Ctx) (env:Env) (body:List Stmt) (R:Shared→Prop) (k:Nat) (S:Shared):Prop where
  go:∀q,Sem.wp (model p w) Γ (execs (body.drop k) env) (fun f _ s'=>f= .next∧R s') (fun _ _ _=>False) q S
theorem TopOK.ends {p:Program} {w:World} {Γ:Ctx} {env:Env} {body:List Stmt} {R:Shared→Prop} {k:Nat} {S:Shared} (h:body.drop k=[]) (hq:R S):TopOK p w Γ env body R k S:=
  ⟨fun q=>by rw[h,execs_nil];exact⟨rfl,hq⟩⟩
theorem TopOK.group {p:Program} {w:World} {Γ:Ctx} {env:Env} {body:List Stmt} {R:Shared→Prop} {a k b n:Nat} {q':Pos} {s s':SharedT} (hab:a+k=b)
    (h:∀q,evT tbQ p w n Γ (execs ((body.drop a).take k) env) q s=some (.ok .next,q',s'))
    (hr:TopOK p w Γ env body R b s'.abs):TopOK p w Γ env body R a s.abs:=⟨fun q=>by
  subst hab
  have e:body.drop a=(body.drop a).take k++body.drop (a+k):=by
    rw[←List.drop_drop,List.take_append_drop]
  rw[e]
  have h:=h q
  rw[←table_eq_Q]at h
  exact wp_execs_append _ _ _ _ (evT_sound p w n Γ _ _ _ _ _ _ h _ _ (hr.go q'))⟩
noncomputable def Γs:Ctx:=Ctx.of (.builtin "claim.caller" {}) []
theorem stub_wp {p : Program} {w :World} {n1 n2:Nat} {q1 q2:Pos} {S0 Sa Sb:SharedT} {codeV:Value} {frameA:Addr} {env:Env} {R:Shared→Prop}
    (he:env={scope:=p.main.scope,locals:=mainNs,globals:=mainNs,cells:=[],code:=codeV,frame:=some frameA})
    (h1:evT tbQ p w n1 Γs (do let code←moduleCode p.main;let frame←newBodyFrame code mainNs mainNs;pure (code,frame)) default S0=some (.ok (codeV,frameA),q1,Sa))
    (h2:evT tbQ p w n2 (Γs.enter (.body (behindTheImports p) env) none q1) (blockStart (behindTheImports p) env) q1 Sa=some (.ok (),q2,Sb))
    (h3:TopOK p w (Γs.enter (.body (behindTheImports p) env) none q1) env (behindTheImports p) R 0 Sb.abs):
    Sem.wp (model p w) (Ctx.of (.builtin "claim.caller" {}) []) (topStub p).cur (fun a _ s'=>(∃f,a=Fin.done f)∧R s') (fun _ _ _=>False) default S0.abs:=by
  rw[←table_eq_Q]at h1 h2
  show Sem.wp (model p w) Γs (do let code←moduleCode p.main
                                 let frame←newBodyFrame code mainNs mainNs
                                 let _←run (.body (behindTheImports p) {scope:=p.main.scope,locals:=mainNs,globals:=mainNs,cells:=[],code,frame:=some frame})
                                 ret .none) _ _ default S0.abs
  have a:=evT_sound p w n1 Γs _ _ _ _ _ _ h1 (fun cf p' s'=>Sem.wp (model p w) Γs (do
      let _←run (.body (behindTheImports p) {scope:=p.main.scope,locals:=mainNs,globals:=mainNs,cells:=[],code:=cf.1,frame:=some cf.2})
      ret .none) (fun a _ s'=>(∃f,a=Fin.done f)∧R s') (fun _ _ _=>False) p' s') (fun _ _ _=>False) ?_
  · simp only[Sem.wp_bind',Sem.wp_pure']at a ⊢
    exact a
  · unfold Out
    dsimp only
    rw[←he]
    rw[Sem.wp_bind']
    unfold run
    rw[Sem.wp_call]
    refine wpCode_of ?_
    show Sem.wp (model p w) (Γs.enter (.body (behindTheImports p) env) none q1) (do blockStart (behindTheImports p) env;return Fin.done (←(execs (behindTheImports p) env).onRaise (leaving env))) _ _ q1 Sa.abs
    rw[Sem.wp_bind']
    refine evT_sound p w n2 _ _ _ _ _ _ _ h2 _ _ ?_
    unfold Out
    dsimp only
    rw[Sem.wp_bind',Sem.wp_onRaise]
    refine Sem.wp_mono _ _ _ (fun f p' s' h=>?_) (fun _ _ _ h=>h.elim) _ _ (h3.go q2)
    obtain⟨rfl,h⟩:=h
    rw[Sem.wp_pure']
    simp only[Sem.finPost,Sem.wp_pure]
    unfold ret
    rw[Sem.wp_pure']
    exact⟨⟨_,rfl⟩,h⟩
end Mine
end
section
open PySem PySem.W PyProof.Rows
namespace Mine
noncomputable def HB (base xs:List Obj) (life:Life):Heap:=⟨(base++xs).toArray,life⟩
theorem HB_size (base xs:List Obj) (life:Life):(HB base xs life).objs.size=base.length+xs.length:=by simp[HB]
theorem HB_push (base xs:List Obj) (life:Life) (o:Obj):(HB base xs life).push o=HB base (xs++[o]) life:=by
  simp[HB,Heap.push,List.append_assoc]
theorem HB_get {base xs:List Obj} {life:Life} {i:Nat} {o:Obj} (h:xs[i]?=some o) (hf:o.isFreed=false):(HB base xs life).get? (base.length+i)=some o:=by
  have e:(HB base xs life).objs[base.length+i]?=some o:=by
    simp[HB,List.getElem?_append_right,h]
  unfold Heap.get?
  rw[e]
  obtain⟨c,d,dt,sl⟩:=o
  cases dt<;>first |rfl |(simp[Obj.isFreed]at hf)
theorem HB_update (base xs:List Obj) (life:Life) (i:Nat) (f:Obj→Obj):(HB base xs life).update (base.length+i) f=HB base (xs.modify i f) life:=by
  have:((base++xs).toArray).modify (base.length+i) f=(base++xs.modify i f).toArray:=by
    apply Array.ext_getElem?
    intro j
    rw[Array.getElem?_modify,List.getElem?_toArray,List.getElem?_toArray]
    by_cases hj:j<base.length
    · rw[List.getElem?_append_left hj,List.getElem?_append_left hj,if_neg (by omega)]
    · rw[List.getElem?_append_right (by omega),List.getElem?_append_right (by omega),List.getElem?_modify]
      by_cases e:base.length+i=j
      · subst e;simp
      · have e':¬i=j - base.length:=by omega
        simp[e,e']
  show Heap.mk _ _=Heap.mk _ _
  rw[this]
noncomputable def dObj (es:List DictEntry) (ep:Nat):Obj:={cls:= .type "dict",data:= .dict es.toArray ep}
theorem dObj_free (es:List DictEntry) (ep:Nat):(dObj es ep).isFreed=false:=rfl
noncomputable def EntOf (p:Int×Str) (e:DictEntry):Prop:=e.hash=hashInt p.1∧∃t u,e.key= .int p.1 t∧e.val= .str p.2 u
inductive Ents:List (Int×Str)→List DictEntry→Prop
  |nil:Ents [] []
  |cons {p e ps es}:EntOf p e→Ents ps es→Ents (p::ps) (e::es)
theorem Ents.append {ps qs:List (Int×Str)} {es fs:List DictEntry} (h:Ents ps es) (k:Ents qs fs):Ents (ps++qs) (es++fs):=by
  induction h with
  |nil=>exact k
  |cons a _ ih=>exact .cons a ih
theorem Ents.length {ps es} (h:Ents ps es):es.length=ps.length:=by induction h<;>simp[*]
theorem Ents.mem {ps es} (h:Ents ps es):∀e∈es,∃p∈ps,EntOf p e:=by
  induction h with
  |nil=>simp
  | cons a _ ih=>
    intro e he
    rcases List.mem_cons.mp he with rfl |he
    · exact⟨_,List.mem_cons_self,a⟩
    · obtain⟨p,hp,q⟩:=ih e he;exact⟨p,List.mem_cons_of_mem _ hp,q⟩
section
variable {prog:Program} {w:World} {A:Around} {E:Value→Shared→Prop}
theorem Ents.keysOf {ps es} (h:Ents ps es):KeysOf (intKind prog w) es.toArray:=fun e he=>by
  obtain⟨p,_,hh,t,u,hk,_⟩:=h.mem e (by simpa using he)
  exact⟨p.1,by rw[hk];exact intKind_is _ _ _ _,hh⟩
theorem Ents.absent {ps es} (h:Ents ps es) {k:Int} (hn:k∉ps.map (·.1)):(es.toArray.findIdx? fun e=>(intKind prog w).is k e.key)=none:=by
  rw[Array.findIdx?_eq_none_iff]
  intro e he
  obtain⟨p,hp,_,t,u,hk,_⟩:=h.mem e (by simpa using he)
  rw[hk]
  have:(intKind prog w).is k (.int p.1 t)=decide (k=p.1):=(intKind prog w).is_eq_decide (intKind_is _ _ _ _) k
  rw[this]
  exact decide_eq_false fun q=>hn (q ▸ List.mem_map_of_mem (f:=(·.1)) hp)
theorem modify_dObj {xs:List Obj} {i:Nat} {es:List DictEntry} {ep:Nat} {e:DictEntry} (hx:xs[i]?=some (dObj es ep)):
    xs.modify i (Obj.mapDictKeys fun x=>x.push e)=xs.set i (dObj (es++[e]) (ep+1)):=by
  apply List.ext_getElem?
  intro j
  rw[List.getElem?_modify,List.getElem?_set]
  by_cases hij:i=j
  · subst hij
    have hl:i<xs.length:=(List.getElem?_eq_some_iff.mp hx).1
    rw[hx]
    simp[hl,dObj,Obj.mapDictKeys]
  · simp[hij]
theorem put_new {base xs:List Obj} {life:Life} {i:Nat} {ps:List (Int×Str)} {es:List DictEntry} {ep:Nat} {k:Int} {t:Tok} {v:Value}
    {gens:Array GenState} {dr:Drawn} {tk:Nat} {os:OsState} {Q:Unit→Shared→Prop}
    (hx:xs[i]?=some (dObj es ep)) (hE:Ents ps es) (hn:k∉ps.map (·.1)) (hsz:es.length≤10000)
    (h:Q () ⟨HB base (xs.set i (dObj (es++[⟨hashInt k,.int k t,v⟩]) (ep+1))) life,gens,dr,tk,os⟩):
    wpAny (model prog w) A (dictPut (base.length+i) (hashInt k) (.int k t) v) Q E ⟨HB base xs life,gens,dr,tk,os⟩:=by
  have ho:=HB_get (base:=base) (life:=life) hx (dObj_free es ep)
  unfold dictPut
  refine wpAny_bind (wpAny_dictFind_of (knd:=intKind prog w) (k:=k) (intKind_is _ _ _ _) ho rfl (hE.keysOf) ?_)
  rw[hE.absent hn]
  refine wpAny_updateDictKeys (hz:=?_) ho rfl ?_
  · show Q () ⟨(HB base xs life).update (base.length+i) (Obj.mapDictKeys fun x=>x.push ⟨hashInt k,.int k t,v⟩),gens,dr,tk,os⟩
    rw[HB_update,modify_dObj hx]
    exact h
  · show es.toArray.size≤sizeLine
    rw[List.size_toArray,sizeLine_eq];omega
theorem set_new {base xs:List Obj} {life:Life} {i:Nat} {ps:List (Int×Str)} {es:List DictEntry} {ep:Nat} {k:Int} {t:Tok} {v:Value}
    {gens:Array GenState} {dr:Drawn} {tk:Nat} {os:OsState} {Q:Unit→Shared→Prop}
    (hx:xs[i]?=some (dObj es ep)) (hE:Ents ps es) (hn:k∉ps.map (·.1)) (hsz:es.length≤10000)
    (h:Q () ⟨HB base (xs.set i (dObj (es++[⟨hashInt k,.int k t,v⟩]) (ep+1))) life,gens,dr,tk+1,os⟩):
    wpAny (model prog w) A (dictSet (base.length+i) (.int k t) v) Q E ⟨HB base xs life,gens,dr,tk,os⟩:=by
  unfold dictSet
  refine wpAny_holding (wpAny_bind ((intKind prog w).pyHash (intKind_is _ _ _ _) ?_))
  unfold dictSetHashed
  refine wpAny_holding ?_
  have ho:=HB_get (base:=base) (life:=life) hx (dObj_free es ep)
  refine wpAny_bind (wpAny_dictFind_of (knd:=intKind prog w) (k:=k) (intKind_is _ _ _ _) ho rfl (hE.keysOf) ?_)
  rw[hE.absent hn]
  refine wpAny_bind (wpAny_rule (wpAny_updateDictKeys (hz:=?_) ho rfl ?_))
  · show Q () ⟨(HB base xs life).update (base.length+i) (Obj.mapDictKeys fun x=>x.push ⟨hashInt k,.int k t,v⟩),gens,dr,tk+1,os⟩
    rw[HB_update,modify_dObj hx]
    exact h
  · show es.toArray.size≤sizeLine
    rw[List.size_toArray,sizeLine_eq];omega
structure Good (prog:Program) (w:World) (A:Around) (it:Sem Value×Sem Value) (p:Int×Str):Prop where
  key:∀(s:Shared) (Q:Value→Shared→Prop) (E:Value→Shared→Prop),Q (.int p.1 s.toks) {s with toks:=s.toks+1}→wpAny (model prog w) A it.1 Q E s
  val:∀(s:Shared) (Q:Value→Shared→Prop) (E:Value→Shared→Prop),Q (.str p.2 s.toks) {s with toks:=s.toks+1}→wpAny (model prog w) A it.2 Q E s
inductive Goods (prog:Program) (w:World) (A:Around):List (Sem Value×Sem Value)→List (Int×Str)→Prop
  |nil:Goods prog w A [] []
  |cons {i p is ps}:Good prog w A i p→Goods prog w A is ps→Goods prog w A (i::is) (p::ps)
theorem Goods.length {is ps} (h:Goods prog w A is ps):is.length=ps.length:=by induction h<;>simp[*]
theorem Goods.append {is ps js qs} (h:Goods prog w A is ps) (k:Goods prog w A js qs):Goods prog w A (is++js) (ps++qs):=by
  induction h with
  |nil=>exact k
  |cons a _ ih=>exact .cons a ih
theorem set_last (xs:List Obj) (a b:Obj):(xs++[a]).set xs.length b=xs++[b]:=by simp
theorem tk_2 {p:Int×Str} {ps:List (Int×Str)} {tk:Nat}:tk+2 * (p::ps).length=tk+1+1+2 * ps.length:=by rw[List.length_cons];omega
theorem tk_1 {p:Int×Str} {ps:List (Int×Str)} {tk:Nat}:tk+(p::ps).length=tk+1+ps.length:=by rw[List.length_cons];omega
theorem app_c {p:Int×Str} {ps done:List (Int×Str)}:done++p::ps=done++[p]++ps:=by rw[List.append_assoc];rfl
theorem key_new {p:Int×Str} {ps done:List (Int×Str)} (hn:((done++p::ps).map (·.1)).Nodup):p.1∉done.map (·.1):=fun q=>by
  rw[List.map_append,List.nodup_append]at hn
  exact hn.2.2 _ q _ List.mem_cons_self rfl
theorem tk_3 {p:Int×Str} {ps:List (Int×Str)} {tk:Nat}:tk+3 * (p::ps).length=tk+1+1+1+3 * ps.length:=by rw[List.length_cons];omega
theorem sub_long {base xs:List Obj} {life:Life} {gens:Array GenState} {dr:Drawn} {os:OsState} (d:Nat) (hd:d=base.length+xs.length):
    ∀(is:List (Sem Value×Sem Value)) (ps done:List (Int×Str)) (es:List DictEntry) (ep tk:Nat) (Q:PUnit→Shared→Prop),
    Goods prog w A is ps→Ents done es→((done++ps).map (·.1)).Nodup→(done++ps).length≤10000→
    (∀es' ep',Ents (done++ps) es'→Q ⟨⟩ ⟨HB base (xs++[dObj es' ep']) life,gens,dr,tk+3 * ps.length,os⟩)→
    wpAny (model prog w) A (forIn is PUnit.unit fun(x:Sem Value×Sem Value) (_:PUnit)=>(do
        let kv←x.1
        let vv←holding [kv] x.2
        holding [kv,vv] (dictSet d kv vv)
        pure (ForInStep.yield PUnit.unit):Sem (ForInStep PUnit))) Q E ⟨HB base (xs++[dObj es ep]) life,gens,dr,tk,os⟩:=by
  intro is ps done es ep tk Q g hE hn hl h
  subst hd
  induction g generalizing done es ep tk with
  | nil=>
    rw[List.forIn_nil]
    rw[List.append_nil]at h
    exact wpAny_pure (h es ep hE)
  | cons gi g ih=>
    rename_i i p is ps
    rw[List.forIn_cons]
    have hnd:=key_new hn
    have hlt:done.length<10000:=Nat.lt_of_lt_of_le (by rw[List.length_append,List.length_cons];exact Nat.lt_add_of_pos_right (Nat.succ_pos _)) hl
    refine wpAny_bind (wpAny_bind (gi.key _ _ _ (wpAny_bind (wpAny_holding (gi.val _ _ _ (wpAny_bind (wpAny_holding ?_)))))))
    refine set_new (xs:=xs++[dObj es ep]) (i:=xs.length) (ep:=ep) (by simp) hE hnd (by rw[hE.length];exact Nat.le_of_lt hlt) ?_
    refine wpAny_pure ?_
    rw[set_last]
    rw[app_c]at hn hl h
    exact ih (done++[p]) _ _ _ (hE.append (.cons ⟨rfl,_,_,rfl,rfl⟩ .nil)) hn hl fun es' ep' hE'=>by rw[←tk_3 (p:=p)];exact h es' ep' hE'
theorem sub_dict_long {base xs:List Obj} {life:Life} {gens:Array GenState} {dr:Drawn} {os:OsState} {tk:Nat} {is:List (Sem Value×Sem Value)} {ps:List (Int×Str)} {Q:Addr→Shared→Prop}
    (g:Goods prog w A is ps) (h15:15<is.length) (hn:(ps.map (·.1)).Nodup) (hl:ps.length≤10000)
    (h:∀es' ep',Ents ps es'→Q (base.length+xs.length) ⟨HB base (xs++[dObj es' ep']) life,gens,dr,tk+3 * ps.length,os⟩):
    wpAny (model prog w) A (subDict is) Q E ⟨HB base xs life,gens,dr,tk,os⟩:=by
  unfold subDict
  refine wpAny_bind (wpAny_alloc ?_)
  show wpAny _ _ _ _ _ ⟨(HB base xs life).push _,gens,dr,tk,os⟩
  rw[HB_push,show(HB base xs life).objs.size=base.length+xs.length from HB_size ..]
  refine wpAny_bind (wpAny_holding ?_)
  rw[if_neg (by omega)]
  refine wpAny_bind (wpAny_rule ?_)
  refine wpAny_bind (sub_long (base.length+xs.length) rfl is ps [] [] 0 tk _ g .nil (by simpa using hn) (by simpa using hl) fun es' ep' hE=>?_)
  exact wpAny_pure (wpAny_pure (h es' ep' (by simpa using hE)))
inductive VS:List (Int×Str)→List (Value×Value)→Prop
  |nil:VS [] []
  |cons {k x t u ps vs}:VS ps vs→VS ((k,x)::ps) ((.int k t,.str x u)::vs)
theorem eval_pairs {base xs:List Obj} {life:Life} {gens:Array GenState} {dr:Drawn} {os:OsState}:
    ∀(is:List (Sem Value×Sem Value)) (ps:List (Int×Str)) (tk:Nat) (Q:List (Value×Value)→Shared→Prop),Goods prog w A is ps→
    (∀vs,VS ps vs→Q vs ⟨HB base xs life,gens,dr,tk+2 * ps.length,os⟩)→wpAny (model prog w) A (evalPairs is) Q E ⟨HB base xs life,gens,dr,tk,os⟩:=by
  intro is ps tk Q g h
  induction g generalizing tk Q with
  |nil=>exact evalPairs_nil (h [] .nil)
  | cons gi g ih=>
    rename_i i p is ps
    refine evalPairs_cons (gi.key _ _ _ (gi.val _ _ _ (ih (tk+1+1) _ fun vs hv=>?_)))
    have q:=h ((.int p.1 tk,.str p.2 (tk+1))::vs) (.cons hv)
    rw[tk_2 (p:=p)]at q
    exact q
theorem set_all {base xs:List Obj} {life:Life} {gens:Array GenState} {dr:Drawn} {os:OsState} (d:Nat) (hd:d=base.length+xs.length):
    ∀(vs:List (Value×Value)) (ps done:List (Int×Str)) (es:List DictEntry) (ep tk:Nat) (Q:PUnit→Shared→Prop),
    VS ps vs→Ents done es→((done++ps).map (·.1)).Nodup→(done++ps).length≤10000→
    (∀es' ep',Ents (done++ps) es'→Q ⟨⟩ ⟨HB base (xs++[dObj es' ep']) life,gens,dr,tk+ps.length,os⟩)→
    wpAny (model prog w) A (forIn vs PUnit.unit fun(x:Value×Value) (_:PUnit)=>(do
        dictSet d x.1 x.2
        pure (ForInStep.yield PUnit.unit):Sem (ForInStep PUnit))) Q E ⟨HB base (xs++[dObj es ep]) life,gens,dr,tk,os⟩:=by
  intro vs ps done es ep tk Q g hE hn hl h
  subst hd
  induction g generalizing done es ep tk with
  | nil=>
    rw[List.forIn_nil]
    rw[List.append_nil]at h
    exact wpAny_pure (h es ep hE)
  | cons g ih=>
    rename_i k x _ _ ps vs
    rw[List.forIn_cons]
    have hnd:=key_new hn
    have hlt:done.length<10000:=Nat.lt_of_lt_of_le (by rw[List.length_append,List.length_cons];exact Nat.lt_add_of_pos_right (Nat.succ_pos _)) hl
    refine wpAny_bind (wpAny_bind ?_)
    refine set_new (xs:=xs++[dObj es ep]) (i:=xs.length) (ep:=ep) (by simp) hE hnd (by rw[hE.length];exact Nat.le_of_lt hlt) ?_
    refine wpAny_pure ?_
    rw[set_last]
    rw[app_c]at hn hl h
    exact ih (done++[(k,x)]) _ _ _ (hE.append (.cons ⟨rfl,_,_,rfl,rfl⟩ .nil)) hn hl fun es' ep' hE'=>by rw[←tk_1 (p:=(k,x))];exact h es' ep' hE'
theorem sub_dict_short {base xs:List Obj} {life:Life} {gens:Array GenState} {dr:Drawn} {os:OsState} {tk:Nat} {is:List (Sem Value×Sem Value)} {ps:List (Int×Str)} {Q:Addr→Shared→Prop}
    (g:Goods prog w A is ps) (h15:is.length≤15) (hn:(ps.map (·.1)).Nodup) (hl:ps.length≤10000)
    (h:∀es' ep',Ents ps es'→Q (base.length+xs.length) ⟨HB base (xs++[dObj es' ep']) life,gens,dr,tk+3 * ps.length,os⟩):
    wpAny (model prog w) A (subDict is) Q E ⟨HB base xs life,gens,dr,tk,os⟩:=by
  unfold subDict
  refine wpAny_bind (wpAny_alloc ?_)
  show wpAny _ _ _ _ _ ⟨(HB base xs life).push _,gens,dr,tk,os⟩
  rw[HB_push,show(HB base xs life).objs.size=base.length+xs.length from HB_size ..]
  refine wpAny_bind (wpAny_holding ?_)
  rw[if_pos h15]
  refine wpAny_bind (eval_pairs (xs:=xs++[dObj [] 0]) is ps tk _ g fun vs hv=>wpAny_holding (wpAny_bind ?_))
  refine set_all (base.length+xs.length) rfl vs ps [] [] 0 _ _ hv .nil (by simpa using hn) (by simpa using hl) fun es' ep' hE=>?_
  refine wpAny_pure (wpAny_pure ?_)
  have:=h es' ep' (by simpa using hE)
  rw[show tk+3 * ps.length=tk+2 * ps.length+ps.length by omega]at this
  exact this
theorem sub_dict {base xs:List Obj} {life:Life} {gens:Array GenState} {dr:Drawn} {os:OsState} {tk:Nat} {is:List (Sem Value×Sem Value)} {ps:List (Int×Str)} {Q:Addr→Shared→Prop}
    (g:Goods prog w A is ps) (hn:(ps.map (·.1)).Nodup) (hl:ps.length≤10000)
    (h:∀es' ep',Ents ps es'→Q (base.length+xs.length) ⟨HB base (xs++[dObj es' ep']) life,gens,dr,tk+3 * ps.length,os⟩):
    wpAny (model prog w) A (subDict is) Q E ⟨HB base xs life,gens,dr,tk,os⟩:=by
  by_cases h15:is.length≤15
  · exact sub_dict_short g h15 hn hl h
  · exact sub_dict_long g (by omega) hn hl h
theorem merge_loop {base:List Obj} {life:Life} {gens:Array GenState} {dr:Drawn} {os:OsState} {tk:Nat} {mids:List Obj} {sub:List DictEntry} {sp:Nat} {all:List (Int×Str)} (hsub:Ents all sub)
    (f:Nat→PUnit→Sem (ForInStep PUnit))
    (hf:∀i (e:DictEntry) (xs:List Obj) (Q:ForInStep PUnit→Shared→Prop),sub[i]?=some e→xs[mids.length+1]?=some (dObj sub sp)→
      wpAny (model prog w) A (dictPut base.length e.hash e.key e.val) (fun _ s'=>∃xs',s'=⟨HB base xs' life,gens,dr,tk,os⟩∧xs'[mids.length+1]?=some (dObj sub sp)∧Q (.yield ⟨⟩) s') E ⟨HB base xs life,gens,dr,tk,os⟩→
      wpAny (model prog w) A (f i ⟨⟩) Q E ⟨HB base xs life,gens,dr,tk,os⟩):
    ∀(k i:Nat) (done:List (Int×Str)) (es:List DictEntry) (ep:Nat) (Q:PUnit→Shared→Prop),i+k=all.length→Ents (done++all.take i) es→
    ((done++all).map (·.1)).Nodup→(done++all).length≤10000→
    (∀es' ep',Ents (done++all) es'→Q ⟨⟩ ⟨HB base (dObj es' ep'::mids++[dObj sub sp]) life,gens,dr,tk,os⟩)→
    wpAny (model prog w) A (forIn (List.range' i k) PUnit.unit f) Q E ⟨HB base (dObj es ep::mids++[dObj sub sp]) life,gens,dr,tk,os⟩
  | 0,i,done,es,ep,Q,hik,hE,hn,hl,h=>by
    rw[List.range'_zero,List.forIn_nil]
    rw[show i=all.length by omega,List.take_length]at hE
    exact wpAny_pure (h es ep hE)
  | k + 1,i,done,es,ep,Q,hik,hE,hn,hl,h=>by
    rw[List.range'_succ,List.forIn_cons]
    have hlt:i<all.length:=by omega
    have hsl:=hsub.length
    have hget:sub[i]?=some sub[i]:=List.getElem?_eq_getElem (by omega)
    have hE2:EntOf all[i] sub[i]:=by
      clear hf h hE hn hl
      induction hsub generalizing i with
      |nil=>simp at hlt
      | cons a r ih=>
        cases i with
        |zero=>exact a
        |succ i=>exact ih i (by simp at hik;omega) (by simpa using hlt) r.length (by simp)
    obtain⟨hh,t,u,hk,hv⟩:=hE2
    refine wpAny_bind (hf i sub[i] _ _ hget (by simp) ?_)
    rw[hh,hk,hv]
    have hnd:all[i].1∉(done++all.take i).map (·.1):=by
      intro q
      have hs:done++all=(done++all.take i)++all[i]::all.drop (i+1):=by
        rw[List.append_assoc,←List.drop_eq_getElem_cons hlt,List.take_append_drop]
      rw[hs,List.map_append,List.nodup_append]at hn
      exact hn.2.2 _ q _ (by rw[List.map_cons];exact List.mem_cons_self) rfl
    have hlen:es.length≤10000:=by
      rw[hE.length];simp at hl ⊢;omega
    refine put_new (i:=0) (xs:=dObj es ep::mids++[dObj sub sp]) (ep:=ep) rfl hE hnd hlen ?_
    refine⟨_,rfl,by simp,?_⟩
    have hE3:Ents (done++all.take (i+1)) (es++[⟨hashInt all[i].1,.int all[i].1 t,.str all[i].2 u⟩]):=by
      rw[List.take_succ_eq_append_getElem hlt,←List.append_assoc]
      exact hE.append (.cons ⟨rfl,_,_,rfl,rfl⟩ .nil)
    exact merge_loop hsub f hf k (i+1) done _ _ Q (by omega) hE3 hn hl h
theorem TypeIs_dObj {base xs:List Obj} {life:Life} {gens:Array GenState} {dr:Drawn} {os:OsState} {tk i:Nat} {es:List DictEntry} {ep:Nat} (h:xs[i]?=some (dObj es ep)):
    (⟨HB base xs life,gens,dr,tk,os⟩:Shared).TypeIs (.ref (base.length+i)) "dict":=⟨_,HB_get (base:=base) (life:=life) h (dObj_free es ep),rfl⟩
theorem sub_dict_self:isSubtype (.type "dict") (.type "dict")=pure true:=by rw[isSubtype_type];rfl'
theorem look_dict_iter:typeLookup (.type "dict") "__iter__"=pure (some (.builtin "dict.__iter__")):=by rw[typeLookup_type,builtinLookup_eq_fast];rfl'
theorem wpAny_entries {M:Model} {a:Addr} {s:Shared} {o:Obj} {es ep} {part:Option Value} {Q:Array DictEntry→Shared→Prop} (ho:s.heap.get? a=some o) (hd:o.data= .dict es ep) (h:Q es s):
    wpAny M A (dictEntries a part) Q E s:=by
  unfold dictEntries
  refine wpAny_bind (wpAny_loadPart ho ?_)
  rw[hd]
  exact wpAny_pure h
theorem wpAny_epoch {M:Model} {a:Addr} {s:Shared} {o:Obj} {es ep} {part:Option Value} {Q:Nat→Shared→Prop} (ho:s.heap.get? a=some o) (hd:o.data= .dict es ep) (h:Q ep s):
    wpAny M A (dictEpoch a part) Q E s:=by
  unfold dictEpoch
  refine wpAny_bind (wpAny_loadPart ho ?_)
  rw[hd]
  exact wpAny_pure h
theorem merge {prog:Program} {w:World} {base:List Obj} {life:Life} {gens:Array GenState} {dr:Drawn} {os:OsState} {tk:Nat} {mids:List Obj} {sub:List DictEntry} {sp:Nat} {all done:List (Int×Str)} {es:List DictEntry} {ep:Nat}
    {Q:Unit→Shared→Prop} (hsub:Ents all sub) (hE:Ents done es) (hne:done≠[]) (hb:5≤base.length)
    (hn:((done++all).map (·.1)).Nodup) (hl:(done++all).length≤10000)
    (h:∀es' ep',Ents (done++all) es'→Q () ⟨HB base (dObj es' ep'::mids++[dObj sub sp]) life,gens,dr,tk,os⟩):
    wpAny (model prog w) A (mergeMapping base.length (.ref (base.length+(mids.length+1))) false) Q E ⟨HB base (dObj es ep::mids++[dObj sub sp]) life,gens,dr,tk,os⟩:=by
  have hs1:(dObj es ep::mids++[dObj sub sp])[mids.length+1]?=some (dObj sub sp):=by simp
  have hT:=TypeIs_dObj (base:=base) (life:=life) (gens:=gens) (dr:=dr) (os:=os) (tk:=tk) hs1
  have g1:=HB_get (base:=base) (life:=life) hs1 (dObj_free sub sp)
  have g0:=HB_get (base:=base) (life:=life) (xs:=dObj es ep::mids++[dObj sub sp]) (i:=0) rfl (dObj_free es ep)
  have hee:es.toArray.isEmpty=false:=by
    have:=hE.length
    cases es with
    | nil=>cases done with
      |nil=>exact absurd rfl hne
      |cons=>simp at this
    |cons=>rfl
  unfold mergeMapping
  refine wpAny_bind (wpAny_isInstance hT sub_dict_self ?_)
  rw[if_pos rfl]
  refine wpAny_bind (wpAny_specialOf hT look_dict_iter ?_)
  have hbeq:((some (Value.builtin "dict.__iter__"))==some (Value.builtin "dict.__iter__"))=true:=by decide+kernel
  rw[hbeq]
  refine wpAny_bind (wpAny_pure ?_)
  dsimp only
  rw[if_neg (by show ¬((base.length+(mids.length+1)==sysModules)=true);simp[sysModules];omega)]
  refine wpAny_bind (wpAny_entries g0 rfl ?_)
  rw[hee]
  simp only[Bool.false_eq_true,if_false]
  refine wpAny_bind (wpAny_entries g1 rfl (wpAny_bind (wpAny_epoch g1 rfl ?_)))
  rw[List.range_eq_range',List.size_toArray]
  refine wpAny_bind (merge_loop hsub _ ?_ sub.length 0 done es ep _ (by rw[hsub.length];omega) (by simpa using hE) hn hl ?_)
  · intro i e xs Q' hi hx hq
    have gx:=HB_get (base:=base) (life:=life) hx (dObj_free sub sp)
    refine wpAny_bind (wpAny_entries gx rfl ?_)
    rw[List.getElem?_toArray,hi]
    dsimp only
    refine wpAny_bind (wpAny_holding ?_)
    refine wpAny_mono hq (fun _ s' hs'=>?_) (fun _ _ e=>e)
    obtain⟨xs',rfl,hx',hq'⟩:=hs'
    have gx':=HB_get (base:=base) (life:=life) hx' (dObj_free sub sp)
    refine wpAny_bind (wpAny_epoch gx' rfl ?_)
    simp only[bne_self_eq_false,Bool.false_eq_true,if_false]
    exact wpAny_pure hq'
  · intro es' ep' hE'
    exact wpAny_pure (h es' ep' hE')
inductive Main (base:List Obj):Option Addr→List (Int×Str)→List Obj→Prop
  |none:Main base none [] []
  |some {ps es ep subs}:Ents ps es→ps≠[]→Main base (some base.length) ps (dObj es ep::subs)
noncomputable def flushC (run:List (Sem Value×Sem Value)) (main:Option Addr):Sem (Option Addr):=
  if run.isEmpty=true then pure main else match main with
    |none=>do return some (←subDict run)
    | some d=>do
      let sub←holding [.ref d] (subDict run)
      (holding [.ref d,.ref sub] (mergeMapping d (.ref sub) false)).onRaise fun x=>do let _←holding [.ref d,x] (runValue (.builtin "proto.let_go" {}))
      return some d
section
variable {prog:Program} {w:World} {base:List Obj} {life:Life} {gens:Array GenState} {dr:Drawn} {os:OsState}
theorem nodup_r {a b:List (Int×Str)} (h:((a++b).map (·.1)).Nodup):(b.map (·.1)).Nodup:=by
  rw[List.map_append,List.nodup_append]at h;exact h.2.1
theorem nodup_l {a b:List (Int×Str)} (h:((a++b).map (·.1)).Nodup):(a.map (·.1)).Nodup:=by
  rw[List.map_append,List.nodup_append]at h;exact h.1
theorem len_r {a b:List (Int×Str)} (h:(a++b).length≤10000):b.length≤10000:=Nat.le_trans (by rw[List.length_append];exact Nat.le_add_left ..) h
theorem len_l {a b:List (Int×Str)} (h:(a++b).length≤10000):a.length≤10000:=Nat.le_trans (by rw[List.length_append];exact Nat.le_add_right ..) h
theorem flush {run:List (Sem Value×Sem Value)} {rp:List (Int×Str)} {main:Option Addr} {done:List (Int×Str)} {xs:List Obj} {tk:Nat} {Q:Option Addr→Shared→Prop} (hb:5≤base.length)
    (gr:Goods prog w A run rp) (hm:Main base main done xs) (hn:((done++rp).map (·.1)).Nodup) (hl:(done++rp).length≤10000)
    (h:∀main' xs',Main base main' (done++rp) xs'→xs'.length=xs.length+min 1 rp.length→Q main' ⟨HB base xs' life,gens,dr,tk+3 * rp.length,os⟩):
    wpAny (model prog w) A (flushC run main) Q E ⟨HB base xs life,gens,dr,tk,os⟩:=by
  unfold flushC
  cases gr with
  |nil=>exact wpAny_pure (h main xs (by rw[List.append_nil];exact hm) rfl)
  | cons a b=>
    rename_i i p is ps
    have gr:Goods prog w A (i::is) (p::ps):= .cons a b
    have e1:min 1 (p::ps).length=1:=Nat.min_eq_left (Nat.succ_le_succ (Nat.zero_le _))
    rw[if_neg (show ¬(i::is).isEmpty=true from fun q=>Bool.noConfusion (show false=true from q))]
    cases hm with
    |none=>exact wpAny_bind (sub_dict gr (nodup_r hn) (len_r hl) fun es' ep' hE'=>wpAny_pure (h _ _ (.some hE' nofun) e1.symm))
    | some hE hne'=>
      rename_i es ep subs
      refine wpAny_bind (wpAny_holding (sub_dict gr (nodup_r hn) (len_r hl) fun es' ep' hE'=>?_))
      rw[show base.length+(dObj es ep::subs).length=base.length+(subs.length+1)from rfl]
      refine wpAny_bind (wpAny_onRaise (wpAny_holding ?_))
      refine merge hE' hE hne' hb hn hl fun es₂ ep₂ hE₂=>?_
      exact wpAny_pure (h _ _ (.some (ep:=ep₂) (subs:=subs++[dObj es' ep']) hE₂ fun q=>hne' (List.append_eq_nil_iff.mp q).1) (by rw[e1,List.length_cons,List.length_append];rfl))
structure Inv (prog:Program) (w:World) (base:List Obj) (ps:List (Int×Str)) (rest:List (Option (Sem Value)×Sem Value)) (st:Option Addr×List (Sem Value×Sem Value)) (done rp rps:List (Int×Str)) (rsem:List (Sem Value×Sem Value)) (xs:List Obj):Prop where
  r:rest=rsem.map fun p=>(some p.1,p.2)
  g:Goods prog w A rsem rps
  gr:Goods prog w A st.2 rp
  m:Main base st.1 done xs
  p:done++rp++rps=ps
  l:rp.length<17
  x:done.length=17 * xs.length
theorem tk_add {a b:List (Int×Str)} {tk:Nat}:tk+3 * a.length+3 * b.length=tk+3 * (a++b).length:=by rw[List.length_append];omega
theorem display_loop {tk:Nat} {is:List (Sem Value×Sem Value)} {ps:List (Int×Str)} {Q:Value→Shared→Prop} {body:Option (Sem Value)×Sem Value→Option Addr×List (Sem Value×Sem Value)→Sem (ForInStep (Option Addr×List (Sem Value×Sem Value)))} {fin:Option Addr×List (Sem Value×Sem Value)→Sem Value} {fin2:Option Addr→Sem Value}
    (hB:∀k v main run,body (some k,v) (main,run)=if((run++[(k,v)]).length==17)=true then(flushC (run++[(k,v)]) main>>=fun m=>pure (ForInStep.yield (m,[])))else pure (ForInStep.yield (main,run++[(k,v)])))
    (hF:∀main run,fin (main,run)=flushC run main>>=fin2) (hF2:∀d,fin2 (some d)=pure (.ref d))
    (g:Goods prog w A is ps) (hne:ps≠[]) (hb:5≤base.length) (hn:(ps.map (·.1)).Nodup) (hl:ps.length≤10000)
    (h:∀es ep subs,Ents ps es→(dObj es ep::subs).length=(ps.length+16) / 17→Q (.ref base.length) ⟨HB base (dObj es ep::subs) life,gens,dr,tk+3 * ps.length,os⟩):
    wpAny (model prog w) A (forIn (is.map fun p=>(some p.1,p.2)) ((none:Option Addr),([]:List (Sem Value×Sem Value))) body>>=fin) Q E ⟨HB base [] life,gens,dr,tk,os⟩:=by
  refine wpAny_bind (wpAny_forIn_list _ (fun rest st s=>∃done rp rps rsem xs,Inv (A:=A) prog w base ps rest st done rp rps rsem xs∧s=⟨HB base xs life,gens,dr,tk+3 * done.length,os⟩) _ ?_ ?_ _ _ ?_)
  · rintro x rest ⟨main,run⟩ s ⟨done,rp,rps,rsem,xs,I,rfl⟩
    have r:=I.r
    cases I.g with
    |nil=>cases r
    | cons a b=>
      rename_i i p is' ps'
      cases r
      rw[hB]
      have gr:Goods prog w A (run++[(i.1,i.2)]) (rp++[p]):=I.gr.append (.cons a .nil)
      have hrl:=gr.length
      have hp:done++(rp++[p])++ps'=ps:=by rw[←I.p,List.append_assoc,List.append_assoc,List.append_assoc];rfl
      by_cases h17:((run++[(i.1,i.2)]).length==17)=true
      · rw[if_pos h17]
        have q17:(rp++[p]).length=17:=hrl.symm.trans (eq_of_beq h17)
        refine wpAny_bind (flush hb gr I.m (nodup_l (b:=ps') (hp.symm ▸ hn)) (len_l (b:=ps') (hp.symm ▸ hl)) fun main' xs' hm' hxl=>wpAny_pure ⟨done++(rp++[p]),[],ps',is',xs',⟨rfl,b,.nil,hm',by rw[List.append_nil];exact hp,by decide,?_⟩,by rw[tk_add]⟩)
        rw[List.length_append,I.x,q17,hxl,q17];exact(Nat.mul_succ 17 _).symm
      · rw[if_neg h17]
        refine wpAny_pure ⟨done,rp++[p],ps',is',xs,⟨rfl,b,gr,I.m,hp,?_,I.x⟩,rfl⟩
        have h1:=I.l
        refine Nat.lt_of_le_of_ne (by rw[List.length_append];exact h1) fun q=>h17 (beq_iff_eq.mpr (hrl.trans q))
  · rintro⟨main,run⟩ s ⟨done,rp,rps,rsem,xs,I,rfl⟩
    have r:=I.r
    have hp:=I.p
    cases I.g with
    |cons=>cases r
    | nil =>
      rw[List.append_nil]at hp
      rw[hF]
      refine wpAny_bind (flush hb I.gr I.m (hp.symm ▸ hn) (hp.symm ▸ hl) fun main' xs' hm' hxl=>?_)
      rw[hp]at hm'
      cases hm' with
      |none=>exact absurd rfl hne
      | some hE hne'=>
        rename_i es' ep' subs'
        rw[hF2]
        have q:=h _ ep' subs' hE (by
          have h1:=I.l
          have h2:=I.x
          rw[hxl,←hp,List.length_append,h2]
          generalize rp.length=m at h1 ⊢
          generalize xs.length=k
          cases m with
          |zero=>exact(show k=(17 * k+16) / 17 by omega)
          |succ m=>rw[Nat.min_eq_left (Nat.succ_le_succ (Nat.zero_le m))];omega)
        rw[←hp,←tk_add]at q
        exact wpAny_pure q
  · exact⟨[],[],ps,is,[],⟨rfl,g,.nil,.none,rfl,by decide,rfl⟩,rfl⟩
theorem display_go {tk:Nat} {is:List (Sem Value×Sem Value)} {ps:List (Int×Str)} {Q:Value→Shared→Prop}
    (g:Goods prog w A is ps) (hne:ps≠[]) (hb:5≤base.length) (hn:(ps.map (·.1)).Nodup) (hl:ps.length≤10000)
    (h:∀es ep subs,Ents ps es→(dObj es ep::subs).length=(ps.length+16) / 17→Q (.ref base.length) ⟨HB base (dObj es ep::subs) life,gens,dr,tk+3 * ps.length,os⟩):
    wpAny (model prog w) A (dictDisplay (is.map fun p=>(some p.1,p.2))) Q E ⟨HB base [] life,gens,dr,tk,os⟩:=
  display_loop (fin2:=fun m=>match m with |some d=>pure (.ref d) |none=>newDict) (fun _ _ _ _=>rfl) (fun _ _=>rfl) (fun _=>rfl) g hne hb hn hl h
end
end
end Mine
end
section
open PySem PySem.W PyProof.Rows
namespace Mine
noncomputable def intK:Expr→Option Int | .Constant c _ _=>(match c with | .int k=>some k |_=>none) |_=>none
noncomputable def strK:Expr→Option Str | .Constant c _ _=>(match c with | .str s=>some s |_=>none) |_=>none
noncomputable def psOf:List (Option Expr)→List Expr→Option (List (Int×Str))
  |[],[]=>some []
  |k::ks,v::vs=>(k.bind intK).bind fun a=>(strK v).bind fun b=>(psOf ks vs).map ((a,b)::·)
  |_,_=>none
theorem intK_eq {e:Expr} {k:Int} (h:intK e=some k):∃a b,e= .Constant (.int k) a b:=by
  cases e with
  | Constant c a b=>cases c with
    |int i=>cases h;exact⟨_,_,rfl⟩
    |_=>cases h
  |_=>cases h
theorem strK_eq {e:Expr} {s:Str} (h:strK e=some s):∃a b,e= .Constant (.str s) a b:=by
  cases e with
  | Constant c a b=>cases c with
    |str i=>cases h;exact⟨_,_,rfl⟩
    |_=>cases h
  |_=>cases h
theorem goods_of (prog:Program) (w:World) (env:Env) (dpos:Pos):∀(ks:List (Option Expr)) (vs:List Expr) (ps:List (Int×Str)),psOf ks vs=some ps→
    ∃is:List (Sem Value×Sem Value),(evalEachOpt ks env).zip ((evalEach vs env).map fun v=>(do let x←v;standAt dpos;pure x:Sem Value))=is.map (fun p=>(some p.1,p.2))∧∀A,Goods prog w A is ps
  |[],[],_,h=>by cases h;exact⟨[],rfl,fun _=> .nil⟩
  |[],_::_,_,h=>nomatch h
  |_::_,[],_,h=>nomatch h
  | k ::ks,v::vs,ps,h=>by
    obtain⟨i,hi,h⟩:=Option.bind_eq_some_iff.mp h
    obtain⟨s,hs,h⟩:=Option.bind_eq_some_iff.mp h
    obtain⟨r,hr,rfl⟩:=Option.map_eq_some_iff.mp h
    obtain⟨e,rfl,he⟩:=Option.bind_eq_some_iff.mp hi
    obtain⟨a,b,rfl⟩:=intK_eq he
    obtain⟨c,d,rfl⟩:=strK_eq hs
    obtain⟨is,e,g⟩:=goods_of prog w env dpos ks vs r hr
    refine⟨(eval (.Constant (.int i) a b) env,do let x←eval (.Constant (.str s) c d) env;standAt dpos;pure x)::is,?_,fun A=> .cons ⟨?_,?_⟩ (g A)⟩
    · simp only[evalEachOpt,evalEach,evalOpt,List.map_cons,List.zip_cons_cons,e]
    · intro s' Q E h'
      exact wpAny_Constant_int (env:=env) (k:=a) (pos:=b) h'
    · intro s' Q E h'
      refine wpAny_bind ?_
      show wpAny _ _ (mkText s) _ _ _
      exact wpAny_mkText (wpAny_bind (wpAny_standAt (wpAny_pure h')))
noncomputable def rising:List (Int×Str)→Bool
  |[]=>true
  |[_]=>true
  |a::b::r=>decide (a.1<b.1)&&rising (b::r)
theorem rising_lt:∀(l:List (Int×Str)) (a:Int×Str),rising (a::l)=true→∀b∈l,a.1<b.1
  |[],_,_,_,hb=>nomatch hb
  | c::r,a,h,b,hb=>by
    simp only[rising,Bool.and_eq_true,decide_eq_true_eq]at h
    rcases List.mem_cons.mp hb with rfl |hb
    · exact h.1
    · exact Int.lt_trans h.1 (rising_lt r c h.2 b hb)
theorem rising_nodup:∀(l:List (Int×Str)),rising l=true→(l.map (·.1)).Nodup
  |[],_=>by simp
  | a ::r,h=>by
    rw[List.map_cons,List.nodup_cons]
    refine⟨fun q=>?_,rising_nodup r ?_⟩
    · obtain⟨b,hb,e⟩:=List.mem_map.mp q
      exact absurd e (Int.ne_of_gt (rising_lt r a h b hb))
    · cases r with
      |nil=>rfl
      |cons b r=>simp only[rising,Bool.and_eq_true]at h;exact h.2
noncomputable def topA:Around:={depth:=400,units:=100}
theorem b3_group {p:Program} {w:World} {Γ:Ctx} {env:Env} {body:List Stmt} {R:Shared→Prop} {a b n:Nat} {st:Stmt} {K:Value→Sem Flow} {ks:List (Option Expr)} {vs:List Expr} {ps:List (Int×Str)}
    {apos dpos:Pos} {base:List Obj} {life:Life} {dr:Drawn} {tk:Nat} {os:OsState} {S0:Shared} (e0:S0=⟨HB base [] life,#[],dr,tk,os⟩)
    (hst:body.drop a=st::body.drop b)
    (hex:exec st env=(do standAt apos;let v←(do standAt dpos;dictDisplay ((evalEachOpt ks env).zip ((evalEach vs env).map fun v=>(do let x←v;standAt dpos;pure x:Sem Value))));K v))
    (hps:psOf ks vs=some ps) (hri:rising ps=true) (hne:ps≠[]) (hl:ps.length≤10000) (hb:5≤base.length) (hA:Γ.In topA)
    (hk :∀es ep subs,Ents ps es→(dObj es ep::subs).length=(ps.length+16) / 17→
      ∃ (S S':SharedT) (q':Pos),S.abs=⟨HB base (dObj es ep::subs) life,#[],dr,tk+3 * ps.length,os⟩∧
        (∀q,evT tbQ p w n Γ (K (.ref base.length)) q S=some (.ok .next,q',S'))∧TopOK p w Γ env body R b S'.abs):
    TopOK p w Γ env body R a S0:=⟨fun q0=>by
  subst e0
  rw[hst,execs_cons,hex]
  obtain⟨is,e,g⟩:=goods_of p w env dpos ks vs ps hps
  rw[e]
  simp only[Sem.wp_bind',Sem.wp_cmd_standAt]
  have:=display_go (prog:=p) (w:=w) (A:=topA) (E:=fun _ _=>False) (base:=base) (life:=life) (gens:=#[]) (dr:=dr) (os:=os) (tk:=tk) (is:=is) (ps:=ps)
    (Q:=fun v s'=>∃(S S':SharedT) (q':Pos),S.abs=s'∧(∀q,evT tbQ p w n Γ (K v) q S=some (.ok .next,q',S'))∧TopOK p w Γ env body R b S'.abs)
    (g topA) hne hb (rising_nodup ps hri) hl (fun es ep subs hE hlen=>hk es ep subs hE hlen)
  refine Sem.wp_mono _ _ _ (fun v p' s' h=>?_) (fun _ _ _ h=>h.elim) _ _ (this Γ dpos hA)
  obtain⟨S,S',q',rfl,h1,h2⟩:=h
  have h1:=h1 p'
  rw[←table_eq_Q]at h1
  exact evT_sound p w n Γ _ _ _ _ _ _ h1 _ _ (h2.go q')⟩
theorem map_getD {xs:List Obj} {n:Nat} (h:xs.length=n):(List.range n).map (fun j=>xs.getD j default)=xs:=by
  apply List.ext_getElem?
  intro i
  rw[List.getElem?_map]
  by_cases hi:i<n
  · rw[List.getElem?_range hi]
    simp[List.getD,h ▸ hi]
  · rw[List.getElem?_eq_none (by simpa using hi),List.getElem?_eq_none (by omega)]
    rfl
end Mine
end
section
open PySem PySem.W PyProof.Rows
namespace Mine
structure Behind (p q:Program) (loose:List Str) (XP:(Str→Option Value)→Heap→Prop) (Y:World→Shared→Prop) (w:World):Prop where
  opens:∃s,AfterRun (opening p) w s
  all:∀s,AfterRun (opening p) w s→∃s₀,fenceModules? p s=some s₀∧s₀.gens=#[]∧∃s₁,TopRan p w s₀ s₁∧s₁.asleep∧s₁.gens=#[]∧s₁.heap.isNs mainGlobals=true∧
    Ground q loose [] XP w s₁ (s₁.heap.nsMap mainGlobals) (s₁.heap.nsMap builtinsNs) s₁.heap∧Y w s₁
theorem law_holds {l:OpenLaw} (said:l.row.wellSaid=true) (hwr:l.writes=false) {q:Program} {loose:List Str} {XP:(Str→Option Value)→Heap→Prop} {Y:World→Shared→Prop} {d:DefRec} {kwd:List (Str×Expr)}
    (behind:∀w,Behind l.prog q loose XP Y w) (hXk:∀mg h h',XP mg h→(∀b o,h.get? b=some o→h'.get? b=some o)→XP mg h')
    (hdef:defOf q l.name=some (d,kwd)) (hp:l.prog.theDef l.name=some (d.params,d.body,d.scope)) (hk:kwWritten? d.params.kwonlyargs d.params.kw_defaults=some kwd)
    (ok:(opensWell l.prog&&(frees l.row.toRowW&&l.row.toRowW.within.isEmpty))=true) (hb:l.prog.bare) (hw:l.row.toRowW.promised)
    (call :∀(w:World) (s₀ s₁:Shared) (mg mb:Str→Option Value),Ground q loose [] XP w s₀ mg mb s₁.heap→Y w s₀→∀(a:Addr),mg l.name=some (.ref a)→∀(args:List WData) (vs:List Value) (as:List Addr),
      l.row.toRowW.claim.pre args=true→WData.layableAll args=true→Laid [] w s₀ s₁ args vs as→sysModules<s₀.heap.objs.size→
        wpAny (model l.prog w) callerA (PySem.call (.ref a) vs) (fun v s'=>GoodWG l.row.toRowW.claim (classAt s₀.heap) (ExcName.means s₀.heap) args s₁ (.ok (.ret v)) s')
          (fun e s'=>GoodWG l.row.toRowW.claim (classAt s₀.heap) (ExcName.means s₀.heap) args s₁ (.error e) s') s₁):l.row.Holds:=by
  refine⟨said,hw,?_⟩
  obtain⟨o1,k5⟩:=Bool.and_eq_true_iff.mp ok
  obtain⟨k5,k6⟩:=Bool.and_eq_true_iff.mp k5
  obtain⟨hsame,hu,ha,hap,hm⟩:=frees_parts k5
  refine⟨⟨hb,o1,rfl⟩,hw.witness,fun w=>⟨(behind w).opens,fun s' hs'=>?_⟩⟩
  obtain⟨s₀,hf,hg0,s,hT,hz,hgens,hg,G,y⟩:=(behind w).all s' hs'
  refine⟨s₀,hf,hg0,s,hT,fun n hn=>?_,fun x hx=>(nomatch hx),fun x hx=>(nomatch hx),?_⟩
  · obtain rfl:n=l.name:=by simpa[OpenLaw.row]using hn
    exact pinned_of_view hg G hdef hp hk
  refine ClaimW.callFrom_of_specG (c:=l.row.toRowW.claim) hz hgens fun args hpre hlay ord hord=>?_
  obtain⟨⟨vs,s₁⟩,hlaid⟩:=Option.isSome_iff_exists.mp (layAllW_isSome (P:=w.params) (ord:=ord) G.has args l.row.toRowW.args s (pre_splitW hpre).1)
  have keeps:=layAllW_keeps _ _ _ hlaid
  have hal:=layAllW_rest _ _ _ hlaid
  obtain⟨as,hrd,hin,hold⟩:=reads_layAllW hord _ _ _ hlaid hlay s₁.heap (fun _ _ e=>e)
  have L:Laid [] w s s₁ args vs as:=⟨⟨ord,hord,hlaid⟩,hrd,hin,hold,keeps,hal.1.trans hgens,hal.2.2.1⟩
  have G₁:=G.keeps hXk keeps
  obtain⟨a,o,pm,cd,doc,dV,kV,h1,h2,h3,h4,h5⟩:=G₁.fn hdef
  have hi:=ident_freeW (r:=l.row.toRowW) hu ha hap
  have hwi:l.row.toRowW.claim.within=[]:=List.isEmpty_iff.mp k6
  refine⟨vs,s₁,hlaid,?_⟩
  have h:=call w s s₁ _ _ G₁ y a h1 args vs as hpre hlay L G.low
  have ht:∀(Q:Fin→Shared→Prop) (E:Value→Shared→Prop),wpAny (model l.prog w) callerA (PySem.call (.ref a) vs) (fun v s'=>Q (.done (.ret v)) s') E s₁→
      wpAny (model l.prog w) callerA (do match←nsGet mainNs l.name with
        |some f=>do ret (←PySem.call f vs)
        |none=>unsupported "claim.caller:no-such-global") Q E s₁:=fun Q E h=>
    wpAny_bind (wpAny_nsGet G₁.T.g (by rw[h1];exact wpAny_bind (wpAny_mono h (fun _ _ x=>wpAny_pure x) fun _ _ x=>x)))
  have no:l.row.writes=true→False:=fun q=>by rw[show l.row.writes=l.writes from rfl,hwr]at q;cases q
  exact ht _ _ (wpAny_mono h (fun v s' g=>⟨_,rfl,have z:=g.laid (c:=l.row.toRowW.claim) hsame hwi hi L;⟨z.1,z.2.1,z.2.2,fun q=>(no q).elim⟩⟩)
    fun e s' g=>have z:=g.laid (c:=l.row.toRowW.claim) hsame hwi hi L;⟨z.1,z.2.1,z.2.2,fun q=>(no q).elim⟩)
theorem behind_of {p q:Program} {loose:List Str} {Y:World→Shared→Prop} {w:World} {N:Nat} {H₀:Heap} {d₀:Drawn} {k₀:Nat} {R:OsState→Shared→Prop}
    (hopen:(fencedOpening treeTable p w N).map (fun s=>(s.heap,s.gens,s.drawn,s.toks))=some (H₀,#[],d₀,k₀))
    (hmain:H₀.isNs mainGlobals=true) (hch:chainsOk q=true)
    (hrun:∀os,(⟨H₀,#[],d₀,k₀,os⟩:Shared).asleep→∃s₁,R os s₁∧∃n t,schedN (denote table) p w n (.single ⟨H₀,#[],d₀,k₀,os⟩ (topStub p))= .running (.single s₁ t)∧through t=true)
    (hR:∀os s₁,R os s₁→s₁.heap.life=H₀.life∧s₁.os=os∧s₁.gens=#[]∧
      (∀b o,b≠mainNs→b≠cStatics→H₀.get? b=some o→s₁.heap.get? b=some o)∧
      (staticsOk (importedModules p.main.body) H₀ s₁.heap&&namesBound p s₁.heap&&laidKept H₀ s₁.heap)=true∧
      openSeen q loose (importedModules p.main.body) (fun _=>true) true s₁=openGood q loose∧Y w s₁):
    Behind p q loose (fun _ _=>True) Y w:=by
  rw[←table_eq_tree]at hopen
  obtain⟨⟨h,gs,d,k,os⟩,hf,he⟩:=Option.map_eq_some_iff.mp hopen
  obtain⟨rfl,rfl,rfl,rfl⟩:h=H₀∧gs=#[]∧d=d₀∧k=k₀:=by simpa using he
  obtain⟨s,h4,h5⟩:=Option.bind_eq_some_iff.mp hf
  have A:=AfterImport.of_importEnds h4
  refine⟨⟨s,A⟩,fun s' hs'=>?_⟩
  obtain rfl:s'=s:=AfterImport.unique hs' A
  have z:(⟨h,#[],d,k,os⟩:Shared).asleep:=Shared.asleep_of_life (fence_lifeW h5) A.life
  obtain⟨s₁,hr,n,t,hn,ht⟩:=hrun os z
  obtain⟨hl,hos,hg,hkeep,hlook,hseen,hY⟩:=hR os s₁ hr
  obtain⟨hs,hlk⟩:=Bool.and_eq_true_iff.mp hlook
  obtain⟨hs,hnb⟩:=Bool.and_eq_true_iff.mp hs
  obtain⟨G,g0,g1,g2,g3,g4,g5⟩:=ground_of_open (w:=w) (XP:=fun _ _=>True) (fun _ _=>trivial) hch hseen
  refine⟨_,h5,rfl,s₁,⟨⟨n,t,hn,ht⟩,hl,Shared.rest_eq hos,fun b o hb hn=>hkeep b o (fun q=>hn (.inl q)) (fun q=>hn (.inr (.inl q))) hb,
        g2,statics_of_ok hs,g3,g4,g5,by rw[hg];intro g hg;simp at hg,names_of_bound hnb,laid_of_kept hlk⟩,Shared.asleep_of_life hl z,hg,g1,G,hY⟩
end Mine
end
section
open PySem PySem.W
namespace Mine
inductive V where
  |d (x:PyData)
  |fl (xs:List PyData)
  |hl (i:Nat)
  |obj (i:Nat)
  |ty (n:String)
  |pat (b:Bool)
  |rng (lo hi st:Int)
  |tri (i:Nat) (x:PyData) (j:Nat)
inductive Cell where
  |list (xs:List PyData)
  |inst (i:Option Nat)
noncomputable abbrev Objs:=List Cell
noncomputable abbrev Vars:=List (Str×Option V)
structure St where
  vars:Vars
  objs:Objs
inductive Fl where
  |next |brk |cont
  |ret (v:V)
noncomputable def maxLen:Nat:=1000000
noncomputable def V.dat:V→Option PyData | .d x=>some x |_=>none
noncomputable def V.fl?:V→Option (List PyData) | .fl xs=>some xs |_=>none
noncomputable def V.hl?:V→Option Nat | .hl i=>some i |_=>none
noncomputable def V.obj?:V→Option Nat | .obj i=>some i |_=>none
noncomputable def V.ty?:V→Option String | .ty i=>some i |_=>none
noncomputable def V.tri?:V→Option (Nat×PyData×Nat) | .tri i x j=>some (i,x,j) |_=>none
noncomputable def int?:PyData→Option Int | .int i=>some i |_=>none
noncomputable def str?:PyData→Option Str | .str s=>some s |_=>none
noncomputable def lst?:PyData→Option (List PyData) | .list s=>some s |_=>none
noncomputable def tup?:PyData→Option (List PyData) | .tuple s=>some s |_=>none
noncomputable def bool?:PyData→Option Bool | .bool s=>some s |_=>none
noncomputable def asI (v:V):Option Int:=v.dat.bind int?
noncomputable def asS (v:V):Option Str:=v.dat.bind str?
noncomputable def asT (v:V):Option (List PyData):=v.dat.bind tup?
noncomputable def asB (v:V):Option Bool:=v.dat.bind bool?
noncomputable def listAt (o:Objs) (i:Nat):Option (List PyData):=(o[i]?).bind fun c=>match c with | .list xs=>some xs | .inst _=>none
noncomputable def instAt (o:Objs) (i:Nat):Option (Option Nat):=(o[i]?).bind fun c=>match c with | .list _=>none | .inst k=>some k
noncomputable def rd (o:Objs):V→Option PyData
  | .d x=>some x
  | .fl xs=>some (.list xs)
  | .hl i=>(listAt o i).map .list
  |_=>none
noncomputable def rd0:V→Option PyData
  | .d x=>some x
  | .fl xs=>some (.list xs)
  |_=>none
noncomputable def rd0s:List V→Option (List PyData)
  |[]=>some []
  |v::vs=>(rd0 v).bind fun x=>(rd0s vs).map fun xs=>x::xs
noncomputable def listOf (o:Objs) (v:V):Option (List PyData):=(rd o v).bind lst?
noncomputable def upd (x:Str) (v:V):Vars→Vars
  |[]=>[]
  |y::r=>bif y.1==x then(y.1,some v)::r else y::upd x v r
noncomputable def idx? (i:Int) (n:Nat):Option Nat:=gd (decide (n≤maxLen)) (bif decide (0≤i)then gd (decide (i<n)) (some i.toNat)else gd (decide (-(n:Int)≤i)) (some (i+n).toNat))
noncomputable def clampI (i:Int) (n:Nat):Nat:=(max 0 (min (if i<0 then i+n else i) n)).toNat
noncomputable def lowI (lo:Option Int) (n:Nat):Nat:=lo.elim 0 fun i=>clampI i n
noncomputable def highI (hi:Option Int) (n:Nat):Nat:=hi.elim n fun i=>clampI i n
noncomputable def sliceL {α:Type} (xs:List α) (lo hi:Option Int):List α:=(xs.drop (lowI lo xs.length)).take (highI hi xs.length - lowI lo xs.length)
noncomputable def strL (s:Str):List Nat:=s.cps.toList
noncomputable def mkS (l:List Nat):Str:=⟨l.toArray⟩
noncomputable def i64 (x:Int):Bool:=decide (x.natAbs<18446744073709551616)
noncomputable def addV (o:Objs) (a b:V):Option V:=
  (asI a).elim
    ((asS a).elim ((listOf o a).bind fun x=>(listOf o b).bind fun y=>gd (decide (x.length+y.length≤maxLen)) (some (.fl (x++y))))
      fun x=>(asS b).bind fun y=>gd (decide ((strL x).length+(strL y).length≤maxLen)) (some (.d (.str (mkS (strL x++strL y))))))
    fun x=>(asI b).map fun y=> .d (.int (x+y))
noncomputable def binI (op:Operator) (x y:Int):Option Int:=match op with
  | .Sub=>some (x - y)
  | .Mult=>gd (i64 x||i64 y) (some (x * y))
  | .FloorDiv=>gd (decide (y≠0∧y.natAbs<1073741824)) (some (x.fdiv y))
  | .Mod=>gd (decide (y≠0)) (some (x.fmod y))
  | .Pow=>gd (decide (0≤y∧y≤100)) (gd (i64 x) (some (x ^ y.toNat)))
  |_=>none
noncomputable def isAdd:Operator→Bool | .Add=>true |_=>false
noncomputable def isMult:Operator→Bool | .Mult=>true |_=>false
noncomputable def repL {α:Type} (n:Int) (l:List α):List α:=(List.replicate n.toNat l).flatten
noncomputable def repOk (n:Int) (k:Nat):Bool:=decide (0≤n∧n≤maxLen∧n.toNat * k≤maxLen)
noncomputable def mulV (a b:V):Option V:=(asI b).bind fun n=>(asI a).elim
  ((asS a).elim (a.fl?.bind fun xs=>gd (repOk n xs.length) (some (.fl (repL n xs)))) fun x=>gd (repOk n (strL x).length) (some (.d (.str (mkS (repL n (strL x)))))))
  fun m=>(binI .Mult m n).map fun z=> .d (.int z)
noncomputable def binop (o:Objs) (op:Operator) (a b:V):Option V:=
  bif isAdd op then addV o a b else bif isMult op then mulV a b else(asI a).bind fun x=>(asI b).bind fun y=>(binI op x y).map fun z=> .d (.int z)
noncomputable def okD (x:PyData):Bool:=PyData.canLay0 x&&decide (PyData.depth x≤20)
noncomputable def okDs (xs:List PyData):Bool:=xs.all okD
noncomputable def inStr (x y:Str):Bool:= !(Builtin.Str.occurrences y x 0 y.length 1).isEmpty
noncomputable def isNone:PyData→Bool | .none=>true |_=>false
noncomputable def isNoneV (v:V):Bool:=v.dat.elim false isNone
noncomputable def isOp (a b:V):Option Bool:=b.ty?.elim (gd (isNoneV b) (some (isNoneV a))) fun n=>a.ty?.map fun m=>m==n
noncomputable def eqOp (o:Objs) (a b:V):Option Bool:=((asS a).bind fun x=>(asS b).map fun y=>strL x==strL y).elim ((rd o a).bind fun x=>(rd o b).bind fun y=>gd (okD x&&okD y) (some (PyData.eqv x y))) some
noncomputable def inOp (o:Objs) (a b:V):Option Bool:=(asS b).elim ((rd o a).bind fun x=>(listOf o b).bind fun ys=>gd (okD x&&okDs ys) (some (ys.any fun y=>PyData.eqv y x))) fun y=>(asS a).map fun x=>inStr x y
noncomputable def cmpI (op:CmpOp) (x y:Int):Option Bool:=match op with
  | .Lt=>some (decide (x<y))
  | .LtE=>some (decide (x≤y))
  | .Gt=>some (decide (x>y))
  | .GtE=>some (decide (x≥y))
  |_=>none
noncomputable def cmpop (o:Objs) (op:CmpOp) (a b:V):Option Bool:=match op with
  | .Is=>isOp a b
  | .IsNot=>(isOp a b).map not
  | .Eq=>eqOp o a b
  | .NotEq=>(eqOp o a b).map not
  | .In=>inOp o a b
  | .NotIn=>(inOp o a b).map not
  | .Lt=>(asI a).bind fun x=>(asI b).bind fun y=>cmpI .Lt x y
  | .LtE=>(asI a).bind fun x=>(asI b).bind fun y=>cmpI .LtE x y
  | .Gt=>(asI a).bind fun x=>(asI b).bind fun y=>cmpI .Gt x y
  | .GtE=>(asI a).bind fun x=>(asI b).bind fun y=>cmpI .GtE x y
noncomputable def truthL (xs:List PyData):Option Bool:=gd (decide (xs.length≤maxLen)) (some (xs.length !=0))
noncomputable def truthD:PyData→Option Bool
  | .none=>some false
  | .bool b=>some b
  | .int i=>some (i !=0)
  | .str s=>gd (decide ((strL s).length≤maxLen)) (some ((strL s).length !=0))
  |_=>none
noncomputable def truthV (o:Objs) (v:V):Option Bool:=(listOf o v).elim (v.dat.bind truthD) truthL
noncomputable def rangeL (lo hi st:Int):Option (List PyData):=
  gd (decide (st≠0)) (gd (Builtin.Range.small lo hi st&&decide (Builtin.Range.rangeSize lo hi st≤maxLen)) (some ((List.range (Builtin.Range.rangeSize lo hi st).toNat).map fun(i:Nat)=>PyData.int (lo+(i:Int) * st))))
inductive It where
  |vals (xs:List PyData)
  |cell (i:Nat)
  |zip (xs:List PyData)
noncomputable def It.isZip:It→Bool | .zip _=>true |_=>false
noncomputable def isPair:Expr→Bool | .Tuple ts _ _=>ts.length==2 |_=>false
noncomputable def okTarget (it:It) (t:Expr):Bool:= !it.isZip||isPair t
noncomputable def It.items (o:Objs):It→Option (List PyData)
  | .vals xs=>some xs
  | .zip xs=>some xs
  | .cell i=>listAt o i
noncomputable def nextIt (o:Objs) (j:Nat) (it:It):Option (Option PyData):=(it.items o).map fun xs=>xs[j]?
noncomputable def itD:PyData→Option It
  | .tuple xs=>some (.vals xs)
  | .list xs=>some (.vals xs)
  | .str s=>some (.vals ((strL s).map fun c=> .str (mkS [c])))
  |_=>none
noncomputable def itIn (o:Objs):V→Option It
  | .hl i=>(listAt o i).map fun _=> .cell i
  | .d x=>itD x
  | .fl xs=>some (.vals xs)
  | .rng lo hi st=>(rangeL lo hi st).map .vals
  |_=>none
noncomputable def zipD?:PyData→Option (List PyData)
  | .list xs=>some xs
  | .str s=>some ((strL s).map fun c=> .str (mkS [c]))
  |_=>none
noncomputable def loopFuel:Nat:=maxLen+1
noncomputable def ints?:List PyData→Option (List Int)
  |[]=>some []
  |x::r=>(int? x).bind fun i=>(ints? r).map fun is=>i::is
noncomputable def strs?:List PyData→Option (List Str)
  |[]=>some []
  |x::r=>(str? x).bind fun i=>(strs? r).map fun is=>i::is
inductive Bf where
  |len |ord |chr |range |list |sum |min |isinstance |int |str |type |abs |max
noncomputable def bTab:List (Str×Bf):=[("len",.len),("ord",.ord),("chr",.chr),("range",.range),("list",.list),("sum",.sum),("min",.min),("isinstance",.isinstance),("int",.int),("str",.str),("type",.type),("abs",.abs),("max",.max)]
noncomputable def Bf.val:Bf→Value
  | .len=> .builtin "len" | .ord=> .builtin "ord" | .chr=> .builtin "chr" | .range=> .type "range" | .list=> .type "list" | .sum=> .builtin "sum" | .min=> .builtin "min"
  | .isinstance=> .builtin "isinstance" | .int=> .type "int" | .str=> .type "str" | .type=> .type "type" | .abs=> .builtin "abs" | .max=> .builtin "max"
noncomputable def V.rng?:V→Option (Int×Int×Int) | .rng a b c=>some (a,b,c) |_=>none
noncomputable def bRange:List V→Option V
  |[b]=>(asI b).map fun b=> .rng 0 b 1
  |[a,b]=>(asI a).bind fun a=>(asI b).map fun b=> .rng a b 1
  |[a,b,c]=>(asI a).bind fun a=>(asI b).bind fun b=>(asI c).bind fun c=>gd (decide (c≠0∧c.natAbs<1073741824)) (some (.rng a b c))
  |_=>none
noncomputable def bLen (o:Objs) (v:V):Option V:=
  (asS v).elim (((asT v).elim (listOf o v) some).bind fun xs=>gd (decide (xs.length≤maxLen)) (some (.d (.int xs.length))))
    fun s=>gd (decide ((strL s).length≤maxLen)) (some (.d (.int (strL s).length)))
noncomputable def max3 (a b c:Int):Int:=bif decide ((bif decide (a<b)then b else a)<c)then c else bif decide (a<b)then b else a
noncomputable def callB (o:Objs) (f:Bf) (args:List V):Option V:=match f with
  | .len=>one args (bLen o)
  | .ord=>one args fun v=>(asS v).bind fun s=>one (strL s) fun c=>some (.d (.int c))
  | .chr=>one args fun v=>(asI v).bind fun i=>gd (decide (0≤i∧i≤0x10FFFF)) (some (.d (.str (mkS [i.toNat]))))
  | .range=>bRange args
  | .list=>one args fun v=>v.rng?.bind fun r=>(rangeL r.1 r.2.1 r.2.2).map .fl
  | .sum=>one args fun v=>(listOf o v).bind fun xs=>(ints? xs).map fun is=> .d (.int is.sum)
  | .min=>two args fun a b=>(asI a).bind fun a=>(asI b).map fun b=> .d (.int (bif decide (b<a)then b else a))
  | .isinstance=>two args fun a b=>b.ty?.bind fun n=>gd (n=="bool") ((asB a).elim ((asI a).map fun _=> .d (.bool false)) fun _=>some (.d (.bool true)))
  | .int=>one args fun v=>(asS v).bind fun s=>gd (decide (s.length≤640)) ((PySem.intText? s).map fun i=> .d (.int i))
  | .str=>one args fun v=>(asI v).bind fun i=>gd (decide (i.natAbs<1000000000)) (some (.d (.str (Str.ofString (toString i)))))
  | .abs=>one args fun v=>(asI v).map fun i=> .d (.int i.natAbs)
  | .max=>match args with
    |[a,b,c]=>(asI a).bind fun a=>(asI b).bind fun b=>(asI c).map fun c=> .d (.int (max3 a b c))
    |_=>none
  | .type=>one args fun v=>(asS v).elim ((listOf o v).map fun _=> .ty "list") fun _=>some (.ty "str")
noncomputable def callM (o:Objs) (s:Str) (m:Str) (args:List V):Option V:=
  bif m==("upper":Str)then nil args (gd (decide ((strL (Txt.upper s)).length≤maxLen)) (some (.d (.str (Txt.upper s)))))
  else bif m==("count":Str)then one args fun v=>(asS v).map fun y=> .d (.int (Builtin.Str.occurrences s y 0 s.length (s.length+1)).length)
  else bif m==("lower":Str)then nil args (gd (decide ((strL s).length≤maxLen)) (some (.d (.str (Txt.lower s)))))
  else gd (m==("join":Str)) (one args fun l=>(listOf o l).bind fun xs=>(strs? xs).bind fun ys=>gd (JoinOk s ys) (some (.d (.str (Txt.join s ys)))))
noncomputable def idxL (x:PyData) (xs:List PyData):Option Nat:=gd (okD x&&okDs xs) (xs.findIdx? fun y=>PyData.eqv y x)
structure Fn where
  params:List Str
  dflt:List (Option V)
  kwo:Option Str
  dct:Option Str
  body:List Stmt
  scope:Scope
  mv:List Str
structure Env' where
  glob:Str→Option V
  fn:Str→Option Fn
  prim:Str→Option (PyData→Option PyData)
structure Cx where
  sc:Scope
  mv:List Str
noncomputable def bindPos:List Str→List (Option V)→List V→Option (List (Str×V))
  |[],_,vs=>nil vs (some [])
  | p::ps,ds,vs=>match vs with
    |a::as=>(bindPos ps ds.tail as).map ((p,a)::·)
    |[]=>(ds.head?.bind id).bind fun v=>(bindPos ps ds.tail []).map ((p,v)::·)
noncomputable def bindFn (F:Fn) (vs:List V) (ks:List (Str×V)):Option (List (Str×V)):=(bindPos F.params F.dflt vs).bind fun bs=>
  F.kwo.elim (nil ks (some (bs++(F.dct.map fun d=>(d,.d (.dict []))).toList))) fun k=>one ks fun p=>gd (k==p.1) (some (bs++[(k,p.2)]))
noncomputable def isK (sc:Scope) (x:Str) (k:NameKind):Bool:=decide (sc.names.lookup x=some k)
noncomputable def localNames (sc:Scope):List Str:=sc.names.filterMap fun p=>bif decide (p.2= .local)||decide (p.2= .cell)then some p.1 else none
noncomputable def freeIn (sc:Scope) (n:Str):Bool:=isK sc n .free
noncomputable def scOk (sc:Scope):Bool:=decide (sc.kind= .function)&&sc.names.all fun x=>decide (sc.names.lookup x.1=some x.2)
noncomputable def compOk (C:Cx) (sc:Scope) (vars:Vars):Bool:=scOk sc&&sc.names.all fun x=> !decide (x.2= .free)||((isK C.sc x.1 .cell||isK C.sc x.1 .free)&&(vars.lookup x.1).isSome)
noncomputable def setVar (C:Cx) (x:Str) (v:V) (st:St):Option St:=
  gd (st.vars.lookup x).isSome (v.fl?.elim (some ⟨upd x v st.vars,st.objs⟩) fun xs=>
    bif C.mv.contains x then some ⟨upd x (.hl st.objs.length) st.vars,st.objs++[.list xs]⟩else some ⟨upd x (.d (.list xs)) st.vars,st.objs⟩)
noncomputable def parts0 (n:Nat) (o:Objs) (v:V):Option (List V):=((asT v).elim (listOf o v) some).bind fun xs=>gd (decide (xs.length=n)) (some (xs.map .d))
noncomputable def parts (n:Nat) (o:Objs) (v:V):Option (List V):=v.tri?.elim (parts0 n o v) fun q=>gd (decide (3=n)) (some [.obj q.1,.d q.2.1,.hl q.2.2])
noncomputable def setCell (i:Nat) (c:Cell) (st:St):St:=⟨st.vars,st.objs.set i c⟩
section helpers
noncomputable def evs (f:Expr→St→Option (V×St)):List Expr→St→Option (List V×St)
  |[],st=>some ([],st)
  |e::es,st=>(f e st).bind fun p=>(evs f es p.2).map fun q=>(p.1::q.1,q.2)
noncomputable def evKws (f:Expr→St→Option (V×St)):List Keyword→St→Option (List (Str×V)×St)
  |[],st=>some ([],st)
  |k::ks,st=>k.arg.bind fun n=>(f k.value st).bind fun p=>(evKws f ks p.2).map fun q=>((n,p.1)::q.1,q.2)
noncomputable def evChain (f:Expr→St→Option (V×St)):V→List CmpOp→List Expr→St→Option (Bool×St)
  | a,op::ops,e::es,st=>(f e st).bind fun p=>(cmpop p.2.objs op a p.1).bind fun r=>match ops with
    |[]=>nil es (some (r,p.2))
    |op2::ops=>gd (!es.isEmpty) (bif r then evChain f p.1 (op2::ops) es p.2 else some (false,p.2))
  |_,_,_,_=>none
noncomputable def evAnd (t:Expr→St→Option (Bool×St)):List Expr→St→Option (Bool×St)
  |[],st=>some (true,st)
  |e::es,st=>(t e st).bind fun p=>bif p.1 then evAnd t es p.2 else some (false,p.2)
noncomputable def evOr (t:Expr→St→Option (Bool×St)):List Expr→St→Option (Bool×St)
  |[],st=>some (false,st)
  |e::es,st=>(t e st).bind fun p=>bif p.1 then some (true,p.2)else evOr t es p.2
noncomputable def bindAll (f:Expr→V→St→Option St):List (Expr×V)→St→Option St
  |[],st=>some st
  |p::r,st=>(f p.1 p.2 st).bind fun st=>bindAll f r st
noncomputable def nameOn (sc:Scope) (line:Nat):Expr→Option Str
  | .Name id pos=>bif isK sc id .local&&pos.line==line then some id else none
  |_=>none
noncomputable def swapped (C:Cx) (ts vs:List Expr):Option Bool:=
  bif !(ts.length==2||ts.length==3)||vs.length !=ts.length then some false
  else bif (ts.filterMap (nameOn C.sc ((ts.head?.map (·.pos.line)).getD 0))).length !=ts.length||(ts.filterMap (nameOn C.sc ((ts.head?.map (·.pos.line)).getD 0))).eraseDups.length !=(ts.filterMap (nameOn C.sc ((ts.head?.map (·.pos.line)).getD 0))).length then some false
  else bif vs.all (foldedForSure 8)then some false
  else bif vs.all (constantsAlone 8)then none
  else some true
noncomputable def Fl.isNext:Fl→Bool | .next=>true |_=>false
noncomputable def exs (f:Stmt→St→Option (Fl×St)):List Stmt→St→Option (Fl×St)
  |[],st=>some (.next,st)
  |s::ss,st=>(f s st).bind fun p=>bif p.1.isNext then exs f ss p.2 else some p
noncomputable def Fl.turn (again:Option (Fl×St)) (st:St):Fl→Option (Fl×St)
  | .next=>again
  | .cont=>again
  | .brk=>some (.next,st)
  | .ret v=>some (.ret v,st)
noncomputable def forL (b:PyData→St→Option St) (f:St→Option (Fl×St)) (it:It):Nat→Nat→St→Option (Fl×St)
  |0,_,_=>none
  |k+1,j,st=>(nextIt st.objs j it).bind fun ox=>ox.elim (some (.next,st)) fun x=>(b x st).bind fun st=>(f st).bind fun p=>p.1.turn (forL b f it k (j+1) p.2) p.2
noncomputable def whileL (t:St→Option (Bool×St)) (f:St→Option (Fl×St)):Nat→St→Option (Fl×St)
  |0,_=>none
  |k+1,st=>(t st).bind fun q=>bif q.1 then(f q.2).bind fun p=>p.1.turn (whileL t f k p.2) p.2 else some (.next,q.2)
noncomputable def compL (f:PyData→St→List PyData→Option (List PyData×St)) (it:It):Nat→Nat→St→List PyData→Option (List PyData×St)
  |0,_,_,_=>none
  |k+1,j,st,acc=>(nextIt st.objs j it).bind fun ox=>ox.elim (some (acc,st)) fun x=>(f x st acc).bind fun p=>compL f it k (j+1) p.2 p.1
end helpers
noncomputable def zipD:List PyData→List PyData→List PyData
  |x::xs,y::ys=> .tuple [x,y]::zipD xs ys
  |_,_=>[]
noncomputable def intOpt (v:Option V):Option (Option Int):=v.elim (some none) fun v=>(asI v).elim (gd (isNoneV v) (some none)) fun i=>some (some i)
noncomputable def takeL {α:Type} (xs:List α) (lo hi st:Option Int):Option (List α):=
  st.elim (some (sliceL xs lo hi)) fun i=>gd (decide (i= -1∧lo=none)) (hi.elim (some xs.reverse) fun k=>gd (decide (k=0)) (some (xs.drop 1).reverse))
noncomputable def sliceW (o:Objs) (v:V) (a b c:Option Int):Option V:=
  (asS v).elim ((listOf o v).bind fun xs=>gd (decide (xs.length≤maxLen)) ((takeL xs a b c).map .fl))
    fun s=>gd (decide ((strL s).length≤maxLen)) ((takeL (strL s) a b c).map fun r=> .d (.str (mkS r)))
noncomputable def sliceV (o:Objs) (v:V) (lo hi st:Option V):Option V:=(intOpt lo).bind fun a=>(intOpt hi).bind fun b=>(intOpt st).bind fun c=>sliceW o v a b c
noncomputable def itemV (o:Objs) (v:V) (i:Int):Option V:=
  (asS v).elim (((asT v).elim (listOf o v) some).bind fun xs=>(idx? i xs.length).bind fun k=>(xs[k]?).map .d)
    fun s=>(idx? i (strL s).length).bind fun k=>((strL s)[k]?).map fun c=> .d (.str (mkS [c]))
noncomputable def whileFuel:Nat:=100000
noncomputable def isMeth (f:Str):Bool:=f.cps.toList.contains 46
structure Fs where
  ev:Cx→Expr→St→Option (V×St)
  tst:Cx→Expr→St→Option (Bool×St)
  iter:Cx→Expr→St→Option (It×St)
  comp:Cx→Expr→Comprehension→List Comprehension→It→St→List PyData→Option (List PyData×St)
  bind:Cx→Expr→V→St→Option St
  ex:Cx→Stmt→St→Option (Fl×St)
  call:Str→List V→List (Str×V)→Objs→Option (V×Objs)
section step
variable (G:Env')
noncomputable def evConst (c:Const):Option V:=match c with
  | .none=>some (.d .none)
  | .bool b=>some (.d (.bool b))
  | .int i=>some (.d (.int i))
  | .str s=>some (.d (.str s))
  |_=>none
noncomputable def evVar (C:Cx) (x:Str) (st:St):Option V:=
  gd (!(x==("__classdict__":Str))) (bif isK C.sc x .globalImplicit then G.glob x else gd (!isK C.sc x .globalExplicit) ((C.sc.names.lookup x).bind fun _=>(st.vars.lookup x).bind id))
noncomputable def evName (C:Cx) (x:Str) (st:St):Option V:=bif x==("__debug__":Str)then some (.d (.bool true))else evVar G C x st
variable (f:Fs) (C:Cx)
noncomputable def evBin (l:Expr) (op:Operator) (r:Expr) (st:St):Option (V×St):=
  (f.ev C l st).bind fun p=>(f.ev C r p.2).bind fun q=>(binop q.2.objs op p.1 q.1).map fun v=>(v,q.2)
noncomputable def evUn (op:UnaryOp) (x:Expr) (st:St):Option (V×St):=match op with
  | .Not=>(f.ev C x st).bind fun p=>(truthV p.2.objs p.1).map fun b=>(.d (.bool (!b)),p.2)
  | .USub=>(f.ev C x st).bind fun p=>(asI p.1).map fun i=>(.d (.int (-i)),p.2)
  |_=>none
noncomputable def isOr:BoolOp→Bool | .Or=>true | .And=>false
noncomputable def evBool (op:BoolOp) (es:List Expr) (st:St):Option (V×St):=
  two es fun a b=>(f.ev C a st).bind fun p=>(truthV p.2.objs p.1).bind fun c=>bif c==isOr op then some p else f.ev C b p.2
noncomputable def isIn:List CmpOp→Bool |[.In]=>true |_=>false
noncomputable def evCmp (l:Expr) (ops:List CmpOp) (es:List Expr) (st:St):Option (V×St):=
  (f.ev C l st).bind fun p=>bif isIn ops then one es fun e=>(f.ev C e p.2).bind fun q=>q.1.obj?.elim
      ((cmpop q.2.objs .In p.1 q.1).map fun r=>(.d (.bool r),q.2))
      fun i=>(instAt q.2.objs i).bind fun _=>((asS p.1).bind fun x=>(f.call "Headers.__contains__" [.obj i,.d (.str x)] [] q.2.objs).bind fun r=>(asB r.1).map fun b=>(.d (.bool b),⟨q.2.vars,r.2⟩))
    else(evChain (f.ev C) p.1 ops es p.2).map fun q=>(.d (.bool q.1),q.2)
noncomputable def evList (es:List Expr) (st:St):Option (V×St):=(evs (f.ev C) es st).bind fun p=>gd (decide (p.1.length≤maxLen)) ((rd0s p.1).map fun xs=>(.fl xs,p.2))
noncomputable def triV:List V→Option V
  |[.obj i,.d x,.hl j]=>some (.tri i x j)
  |_=>none
noncomputable def evTup (es:List Expr) (st:St):Option (V×St):=(evs (f.ev C) es st).bind fun p=>gd (decide (p.1.length≤maxLen)) ((triV p.1).elim ((rd0s p.1).map fun xs=>(.d (.tuple xs),p.2)) fun v=>some (v,p.2))
noncomputable def evPart (e:Option Expr) (st:St):Option (Option V×St):=e.elim (some (none,st)) fun e=>(f.ev C e st).map fun p=>(some p.1,p.2)
noncomputable def objCall (g:Str) (k:Nat) (vs:List V) (st:St):Option (V×St):=(instAt st.objs k).bind fun _=>gd (vs.all fun v=>(asS v).isSome) ((f.call g (.obj k::vs) [] st.objs).map fun r=>(r.1,⟨st.vars,r.2⟩))
noncomputable def evItem (v i:Expr) (st:St):Option (V×St):=(f.ev C v st).bind fun p=>(f.ev C i p.2).bind fun q=>p.1.obj?.elim ((asI q.1).bind fun i=>(itemV q.2.objs p.1 i).map fun r=>(r,q.2)) fun k=>objCall f "Headers.__getitem__" k [q.1] q.2
noncomputable def evSlice (v:Expr) (lo hi stp:Option Expr) (st:St):Option (V×St):=
  (f.ev C v st).bind fun p=>(evPart f C lo p.2).bind fun a=>(evPart f C hi a.2).bind fun b=>(evPart f C stp b.2).bind fun c=>(sliceV c.2.objs p.1 a.1 b.1 c.1).map fun r=>(r,c.2)
noncomputable def evSub (v i:Expr) (st:St):Option (V×St):=match i with
  | .Slice lo hi stp _=>evSlice f C v lo hi stp st
  |_=>evItem f C v i st
noncomputable def evAttr (o:Expr) (a:Str) (st:St):Option (V×St):=(f.ev C o st).bind fun p=>p.1.obj?.bind fun i=>gd (a==("_headers":Str)) ((instAt p.2.objs i).bind fun k=>k.map fun h=>(.hl h,p.2))
noncomputable def evComp (elt:Expr) (gens:List Comprehension) (sc:Scope) (st:St):Option (V×St):=match gens with
  |[]=>none
  | g ::gs=>gd (decide (g.is_async=0)) ((f.iter C g.iter st).bind fun p=>gd (compOk C sc p.2.vars)
      ((f.comp ⟨sc,[]⟩ elt g gs p.1 ⟨((localNames sc).map fun x=>(x,none))++p.2.vars.filter (fun x=>freeIn sc x.1),p.2.objs⟩ []).bind fun q=>gd (decide (q.1.length≤maxLen)) (some (.fl q.1,⟨p.2.vars,q.2.objs⟩))))
noncomputable def recvOk (o:Objs) (m:Str):V→Bool
  | .obj i=>(instAt o i).isSome
  | .hl i=>m==("append":Str)&&(listAt o i).isSome
  | .pat _=>m==("search":Str)
  | .d x=>(str? x).isSome&&(m==("lower":Str)||m==("join":Str)||m==("upper":Str)||m==("count":Str))||(lst? x).isSome&&m==("index":Str)
  |_=>false
noncomputable def methApp (m:Str) (vs:List V) (ks:List (Str×V)) (st:St):V→Option (V×St)
  | .obj i=>(f.call ("Headers."++m) (.obj i::vs) ks st.objs).map fun r=>(r.1,⟨st.vars,r.2⟩)
  | .hl i=>nil ks (one vs fun v=>(rd0 v).bind fun x=>(listAt st.objs i).bind fun xs=>gd (decide (xs.length<maxLen)) (some (.d .none,setCell i (.list (xs++[x])) st)))
  | .pat _=>nil ks (one vs fun v=>(asS v).bind fun s=>gd ((strL s).all fun c=>decide (32≤c)&&c !=127) (some (.d .none,st)))
  | .d x=>nil ks ((str? x).elim ((lst? x).bind fun xs=>gd (decide (xs.length≤maxLen)) (one vs fun v=>v.dat.bind fun y=>(idxL y xs).map fun(i:Nat)=>(.d (.int (i:Int)),st))) fun s=>(callM st.objs s m vs).map fun r=>(r,st))
  |_=>none
noncomputable def evMeth (v:V) (m:Str) (args:List Expr) (kws:List Keyword) (st:St):Option (V×St):=
  gd (recvOk st.objs m v) ((evs (f.ev C) args st).bind fun p=>(evKws (f.ev C) kws p.2).bind fun q=>methApp f m p.1 q.1 q.2 v)
noncomputable def evCallM (o:Expr) (m:Str) (apos:Pos) (args:List Expr) (kws:List Keyword) (cpos:Pos) (st:St):Option (V×St):=
  gd (apos.endLine==cpos.line&&decide (args.length+kws.length≤20)) ((f.ev C o st).bind fun p=>evMeth f C p.1 m args kws p.2)
noncomputable def strE:Expr→Option Str | .Constant c _ _=>(match c with | .str s=>some s |_=>none) |_=>none
noncomputable def dctL:List (Option Expr)→List Expr→Option (List (Str×Str))
  |[],[]=>some []
  |k::ks,v::vs=>(k.bind strE).bind fun a=>(strE v).bind fun b=>(dctL ks vs).map fun r=>(a,b)::r
  |_,_=>none
noncomputable def dctOk (l:List (Str×Str)):Bool:=List.rec true (fun p r ih=> !(r.any fun q=>q.1==p.1)&&ih) l
noncomputable def dctE:Expr→Option (List (Str×Str)) | .Dict ks vs _=>dctL ks vs |_=>none
noncomputable def evDGet (tab:List (Str×Str)) (m:Str) (apos:Pos) (args:List Expr) (kws:List Keyword) (cpos:Pos) (st:St):Option (V×St):=
  gd (apos.endLine==cpos.line&&m==("get":Str)&&dctOk tab&&decide (tab.length≤5∧tab.length≠0)) (nil kws ((evs (f.ev C) args st).bind fun p=>two p.1 fun a b=>(asS a).bind fun k=>(asS b).map fun d=>(.d (.str ((tab.lookup k).getD d)),p.2)))
noncomputable def evFn (g:Str) (args:List Expr) (st:St):Option (V×St):=
  (evs (f.ev C) args st).bind fun p=>(f.call g p.1 [] p.2.objs).map fun r=>(r.1,⟨p.2.vars,r.2⟩)
noncomputable def evPrim (n:Nat) (h:PyData→Option PyData) (args:List Expr) (st:St):Option (V×St):=
  (evs (f.ev C) args st).bind fun p=>one p.1 fun v=>v.dat.bind fun x=>gd (decide (8≤n)) ((h x).map fun r=>(.d r,p.2))
noncomputable def evNew (args:List Expr) (st:St):Option (V×St):=
  (evs (f.ev C) args st).bind fun p=>(f.call "Headers.__init__" (.obj p.2.objs.length::p.1) [] (p.2.objs++[.inst none])).bind fun r=>gd (isNoneV r.1) (some (.obj p.2.objs.length,⟨p.2.vars,r.2⟩))
noncomputable def lenO (b:Bf):List V→Option Nat
  |[.obj k]=>match b with | .len=>some k |_=>none
  |_=>none
noncomputable def evBui (g:Str) (args:List Expr) (st:St):Option (V×St):=(bTab.lookup g).bind fun b=>(evs (f.ev C) args st).bind fun p=>(lenO b p.1).elim ((callB p.2.objs b p.1).map fun r=>(r,p.2)) fun k=>(objCall f "Headers.__len__" k [] p.2).bind fun r=>(asI r.1).bind fun n=>gd (decide (0≤n∧n≤maxLen)) (some (.d (.int n),r.2))
noncomputable def evCallN (n:Nat) (g:Str) (args:List Expr) (kws:List Keyword) (st:St):Option (V×St):=
  gd (!(g==("super":Str)||g==("__debug__":Str)||isMeth g)&&isK C.sc g .globalImplicit) (nil kws
    ((G.fn g).elim ((G.prim g).elim (bif g==("Headers":Str)then evNew f C args st else evBui f C g args st) fun h=>evPrim f C n h args st) fun _=>evFn f C g args st))
noncomputable def evS (n:Nat) (e:Expr) (st:St):Option (V×St):=match e with
  | .Constant c _ _=>(evConst c).map fun v=>(v,st)
  | .Name x _=>(evName G C x st).map fun v=>(v,st)
  | .BinOp l op r _=>evBin f C l op r st
  | .UnaryOp op x _=>evUn f C op x st
  | .BoolOp op es _=>evBool f C op es st
  | .IfExp t a b _=>(f.tst C t st).bind fun p=>bif p.1 then f.ev C a p.2 else f.ev C b p.2
  | .Compare l ops es _=>evCmp f C l ops es st
  | .List es _=>evList f C es st
  | .Tuple es _ _=>evTup f C es st
  | .Subscript v i _=>evSub f C v i st
  | .Attribute o a _=>evAttr f C o a st
  | .ListComp elt gens sc _=>evComp f C elt gens sc st
  | .Call g args kws pos=>match g with
    | .Attribute o m apos=>(dctE o).elim (evCallM f C o m apos args kws pos st) fun tab=>evDGet f C tab m apos args kws pos st
    | .Name g _=>evCallN G f C n g args kws st
    |_=>none
  |_=>none
noncomputable def tstV (e:Expr) (st:St):Option (Bool×St):=(f.ev C e st).bind fun p=>(truthV p.2.objs p.1).map fun b=>(b,p.2)
noncomputable def tstS (e:Expr) (st:St):Option (Bool×St):=match e with
  | .UnaryOp op x _=>match op with
    | .Not=>(f.tst C x st).map fun p=>(!p.1,p.2)
    |_=>tstV f C e st
  | .BoolOp op es _=>match op with
    | .And=>evAnd (f.tst C) es st
    | .Or=>evOr (f.tst C) es st
  | .Compare l ops es _=>(f.ev C l st).bind fun p=>evChain (f.ev C) p.1 ops es p.2
  | .IfExp .. =>none
  |_=>tstV f C e st
noncomputable def iterV (e:Expr) (st:St):Option (It×St):=(f.ev C e st).bind fun p=>(itIn p.2.objs p.1).map fun it=>(it,p.2)
noncomputable def isEmptyD (v:V):Bool:=v.dat.elim false fun x=>match x with | .dict []=>true |_=>false
noncomputable def isNm:Expr→Bool | .Name .. =>true |_=>false
noncomputable def iterS (e:Expr) (st:St):Option (It×St):=match e with
  | .Call g args kws pos=>match g with
    | .Name h _=>bif h==("zip":Str)then gd (isK C.sc h .globalImplicit) (nil kws ((evs (f.ev C) args st).bind fun p=>(rd0s p.1).bind fun l=>two l fun a b=>(zipD? a).bind fun xs=>(zipD? b).map fun ys=>(.zip (zipD xs ys),p.2)))
      else iterV f C e st
    | .Attribute o m ap=>bif m==("items":Str)&&isNm o then gd (decide (ap.endLine=pos.line)) (nil args (nil kws ((f.ev C o st).bind fun p=>gd (isEmptyD p.1) (some (.vals [],p.2)))))
      else iterV f C e st
    |_=>iterV f C e st
  |_=>iterV f C e st
noncomputable def compIn (elt:Expr) (gs:List Comprehension) (st:St) (acc:List PyData):Option (List PyData×St):=match gs with
  |[]=>(f.ev C elt st).bind fun p=>(rd0 p.1).bind fun y=>gd (decide (acc.length<maxLen)) (some (acc++[y],p.2))
  |g::gs=>gd (decide (g.is_async=0)) ((f.iter C g.iter st).bind fun p=>f.comp C elt g gs p.1 p.2 acc)
noncomputable def compF (elt:Expr) (g:Comprehension) (gs:List Comprehension) (x:PyData) (st:St) (acc:List PyData):Option (List PyData×St):=
  (f.bind C g.target (.d x) st).bind fun st=>(evAnd (f.tst C) g.ifs st).bind fun p=>bif p.1 then compIn f C elt gs p.2 acc else some (acc,p.2)
noncomputable def compS (elt:Expr) (g:Comprehension) (gs:List Comprehension) (it:It) (st:St) (acc:List PyData):Option (List PyData×St):=
  gd (okTarget it g.target) (compL (compF f C elt g gs) it loopFuel 0 st acc)
noncomputable def bindN (C:Cx) (x:Str) (v:V) (st:St):Option St:=gd (isK C.sc x .local||isK C.sc x .cell) (setVar C x v st)
noncomputable def isAll:Expr→Bool | .Slice lo hi sp _=>lo.isNone&&hi.isNone&&sp.isNone |_=>false
noncomputable def bindSub (k:Nat) (i:Expr) (v:V) (st:St):Option St:=
  bif isAll i then v.fl?.bind fun xs=>(listAt st.objs k).bind fun old=>gd (decide (old.length+xs.length≤maxLen)) (some (setCell k (.list xs) st))
  else(f.ev C i st).bind fun q=>(asI q.1).bind fun i=>(rd0 v).bind fun x=>(listAt q.2.objs k).bind fun xs=>gd (decide (0≤i)) ((idx? i xs.length).map fun j=>setCell k (.list (xs.set j x)) q.2)
noncomputable def bindS (t:Expr) (v:V) (st:St):Option St:=match t with
  | .Name x _=>bindN C x v st
  | .Tuple ts _ _=>(parts ts.length st.objs v).bind fun vs=>bindAll (f.bind C) (ts.zip vs) st
  | .Subscript o i _=>(f.ev C o st).bind fun p=>p.1.obj?.elim (p.1.hl?.bind fun k=>bindSub f C k i v p.2) fun k=>(f.ev C i p.2).bind fun q=>(objCall f "Headers.__setitem__" k [q.1,v] q.2).map fun r=>r.2
  | .Attribute o a _=>(f.ev C o st).bind fun p=>p.1.obj?.bind fun i=>gd (a==("_headers":Str)) (v.hl?.bind fun h=>(instAt p.2.objs i).bind fun k=>gd k.isNone (some (setCell i (.inst (some h)) p.2)))
  |_=>none
noncomputable def tupE:Expr→Option (List Expr) | .Tuple ts _ _=>some ts |_=>none
noncomputable def nameE:Expr→Option Str | .Name x _=>some x |_=>none
noncomputable def isCompE:Expr→Bool | .ListComp .. =>true |_=>false
noncomputable def asgTup (ts es:List Expr) (st:St):Option (Fl×St):=
  (swapped C ts es).bind fun sw=>(evs (f.ev C) es st).bind fun p=>gd (decide (p.1.length=ts.length∧p.1.length≤maxLen))
    ((bindAll (f.bind C) (bif sw then(ts.zip p.1).reverse else ts.zip p.1) p.2).map fun st=>(.next,st))
noncomputable def asg1 (t e:Expr) (st:St):Option (Fl×St):=
  ((tupE t).bind fun ts=>(tupE e).map fun es=>(ts,es)).elim ((f.ev C e st).bind fun p=>(f.bind C t p.1 p.2).map fun st=>(.next,st)) fun q=>asgTup f C q.1 q.2 st
noncomputable def asg2 (t u e:Expr) (st:St):Option (Fl×St):=
  (f.ev C e st).bind fun p=>(asI p.1).bind fun i=>(f.bind C t (.d (.int i)) p.2).bind fun st=>(f.bind C u (.d (.int i)) st).map fun st=>(.next,st)
noncomputable def isSub:Operator→Bool | .Sub=>true |_=>false
noncomputable def exS (s:Stmt) (st:St):Option (Fl×St):=match s with
  | .Pass _=>some (.next,st)
  | .Return e _=>e.elim (some (.ret (.d .none),st)) fun e=>(f.ev C e st).map fun p=>(.ret p.1,p.2)
  | .Expr e _=>gd (!isCompE e) ((f.ev C e st).map fun p=>(.next,p.2))
  | .If t a b _=>(f.tst C t st).bind fun p=>bif p.1 then exs (f.ex C) a p.2 else exs (f.ex C) b p.2
  | .Assign ts e _=>match ts with
    |[t]=>asg1 f C t e st
    |[t,u]=>asg2 f C t u e st
    |_=>none
  | .AugAssign t op e _=>(nameE t).bind fun x=>gd ((isAdd op||isSub op)&& !(x==("__debug__":Str))) ((evVar G C x st).bind fun v=>(asI v).bind fun a=>(f.ev C e st).bind fun p=>(asI p.1).bind fun b=>
      (bindN C x (.d (.int (bif isAdd op then a+b else a - b))) p.2).map fun st=>(.next,st))
  | .For t e b o _=>nil o ((f.iter C e st).bind fun p=>gd (okTarget p.1 t) (forL (fun x st=>f.bind C t (.d x) st) (exs (f.ex C) b) p.1 loopFuel 0 p.2))
  | .While t b o _=>nil o (whileL (f.tst C t) (exs (f.ex C) b) whileFuel st)
  | .Delete ts _=>one ts fun t=>match t with
    | .Subscript o i _=>(f.ev C o st).bind fun p=>p.1.obj?.bind fun k=>(f.ev C i p.2).bind fun q=>(objCall f "Headers.__delitem__" k [q.1] q.2).map fun r=>(.next,r.2)
    |_=>none
  | .Break _=>some (.brk,st)
  | .Continue _=>some (.cont,st)
  |_=>none
noncomputable def Fl.val:Fl→Option V
  | .ret v=>some v
  | .next=>some (.d .none)
  |_=>none
noncomputable def bindAs (F:Fn) (bs:List (Str×V)) (o:Objs):Option St:=
  bs.foldl (fun(s:Option St) (b:Str×V)=>s.bind fun st=>bindN ⟨F.scope,F.mv⟩ b.1 b.2 st) (some (⟨(localNames F.scope).map fun x=>(x,none),o⟩:St))
noncomputable def callS (g:Str) (args:List V) (kws:List (Str×V)) (o:Objs):Option (V×Objs):=
  (G.fn g).bind fun F=>(bindFn F args kws).bind fun bs=>(bindAs F bs o).bind fun st=>(exs (f.ex ⟨F.scope,F.mv⟩) F.body st).bind fun p=>p.1.val.map fun v=>(v,p.2.objs)
noncomputable def stepF (n:Nat):Fs:=⟨fun C e st=>evS G f C n e st,fun C e st=>tstS f C e st,fun C e st=>iterS f C e st,fun C elt g gs it st acc=>compS f C elt g gs it st acc,fun C t v st=>bindS f C t v st,fun C s st=>exS G f C s st,fun g args kws o=>callS G f g args kws o⟩
end step
noncomputable def Fs.zero:Fs:=⟨fun _ _ _=>none,fun _ _ _=>none,fun _ _ _=>none,fun _ _ _ _ _ _ _=>none,fun _ _ _ _=>none,fun _ _ _=>none,fun _ _ _ _=>none⟩
noncomputable def fs (G:Env') (n:Nat):Fs:=Nat.rec Fs.zero (fun n f=>stepF G f n) n
noncomputable def ev (G:Env') (n:Nat) (C:Cx) (e:Expr) (st:St):Option (V×St):=(fs G n).ev C e st
noncomputable def tst (G:Env') (n:Nat) (C:Cx) (e:Expr) (st:St):Option (Bool×St):=(fs G n).tst C e st
noncomputable def iter (G:Env') (n:Nat) (C:Cx) (e:Expr) (st:St):Option (It×St):=(fs G n).iter C e st
noncomputable def bind (G:Env') (n:Nat) (C:Cx) (t:Expr) (v:V) (st:St):Option St:=(fs G n).bind C t v st
noncomputable def ex (G:Env') (n:Nat) (C:Cx) (s:Stmt) (st:St):Option (Fl×St):=(fs G n).ex C s st
noncomputable def call (G:Env') (n:Nat) (g:Str) (args:List V) (kws:List (Str×V)) (o:Objs):Option (V×Objs):=(fs G n).call g args kws o
end Mine
end
section
open PySem PySem.W PyProof.Rows
namespace Mine
noncomputable def Live (h:Heap) (a:Addr):Prop:=∃o,h.get? a=some o
theorem not_live_size {h:Heap}:¬Live h h.objs.size:=fun⟨_,e⟩=>Nat.lt_irrefl _ (Heap.lt_size e)
theorem not_live_ge {h:Heap} {a:Addr} (ha:h.objs.size≤a):¬Live h a:=fun⟨_,e⟩=>Nat.lt_irrefl _ (Nat.lt_of_lt_of_le (Heap.lt_size e) ha)
noncomputable def Up (h h':Heap):Prop:=∀b o,h.get? b=some o→h'.get? b=some o
theorem Up.push {h:Heap} (o:Obj):Up h (h.push o):=fun _ _ e=>Heap.get?_push_of_some _ e
theorem Up.refl (h:Heap):Up h h:=fun _ _ e=>e
inductive Kd where
  |fz |hid |frm
  |cell (i:Nat)
  |dct (i:Nat)
structure Rho where
  k:Addr→Kd
  c:Nat→Addr
noncomputable def At (ρ:Rho) (i:Nat) (a:Addr):Prop:=ρ.c i=a∧ρ.k a= .cell i
noncomputable def Fz (h:Heap) (ρ:Rho) (a:Addr) (o:Obj):Prop:=ρ.k a= .fz∧h.get? a=some o
noncomputable def No (_:Addr):Prop:=False
noncomputable def Fix (fr:Addr→Prop) (b:Addr):Kd→Prop
  | .fz=>True
  | .hid=>True
  | .frm=>¬fr b
  | .cell _=>False
  | .dct _=>False
structure Mv (ow fr:Addr→Prop) (ρ ρ':Rho) (h h':Heap):Prop where
  own:∀b,ow b→ρ.k b= .hid
  keep:∀b o,h.get? b=some o→¬ow b→ρ'.k b=ρ.k b∧Live h' b∧(Fix fr b (ρ.k b)→h'.get? b=some o)
  at_:∀i a,At ρ i a→At ρ' i a
section
variable {ow ow' fr fr':Addr→Prop} {ρ ρ' ρ'':Rho} {h h' h'':Heap}
theorem Mv.no (M:Mv ow fr ρ ρ' h h') {b:Addr} {k:Kd} (e:ρ.k b=k) (hk:k≠ .hid):¬ow b:=fun q=>hk (e.symm.trans (M.own b q))
theorem Mv.fz (M:Mv ow fr ρ ρ' h h') {b:Addr} {o:Obj} (f:Fz h ρ b o):Fz h' ρ' b o:=
  let⟨k,_,g⟩:=M.keep b o f.2 (M.no f.1 Kd.noConfusion)
  ⟨k.trans f.1,g (f.1 ▸ trivial)⟩
theorem Mv.live (M:Mv ow fr ρ ρ' h h') {b:Addr} (l:Live h b) (n:¬ow b):Live h' b:=let⟨o,e⟩:=l;(M.keep b o e n).2.1
theorem Mv.hid (M:Mv ow fr ρ ρ' h h') {b:Addr} {o:Obj} (k:ρ.k b= .hid) (e:h.get? b=some o) (n:¬ow b):ρ'.k b= .hid∧h'.get? b=some o:=
  let⟨q,_,g⟩:=M.keep b o e n
  ⟨q.trans k,g (k ▸ trivial)⟩
theorem Mv.frm (M:Mv ow fr ρ ρ' h h') {b:Addr} {o:Obj} (k:ρ.k b= .frm) (e:h.get? b=some o) (n:¬fr b):ρ'.k b= .frm∧h'.get? b=some o:=
  let⟨q,_,g⟩:=M.keep b o e (M.no k Kd.noConfusion)
  ⟨q.trans k,g (k ▸ n)⟩
theorem Mv.trans (M:Mv ow fr ρ ρ' h h') (N:Mv ow' fr' ρ' ρ'' h' h'') (hw:∀b,Live h b→ow' b→ow b) (hf:∀b,Live h b→fr' b→fr b):Mv ow fr ρ ρ'' h h'' where
  own:=M.own
  keep:=fun b o e n=>by
    obtain⟨k,⟨o',e'⟩,f⟩:=M.keep b o e n
    have n':¬ow' b:=fun q=>n (hw b ⟨o,e⟩ q)
    obtain⟨k',l',f'⟩:=N.keep b o' e' n'
    refine⟨k'.trans k,l',fun F=>(N.keep b o (f F) n').2.2 ?_⟩
    rw[k]
    revert F
    cases ρ.k b<;>first |exact id |exact fun F q=>F (hf b ⟨o,e⟩ q)
  at_:=fun i a q=>N.at_ i a (M.at_ i a q)
theorem Mv.grow (own:∀b,ow b→ρ.k b= .hid) (hk:Up h h') (ke:∀b,Live h b→ρ'.k b=ρ.k b) (at_:∀i a,At ρ i a→At ρ' i a):Mv ow fr ρ ρ' h h':=
  ⟨own,fun b o e _=>⟨ke b ⟨o,e⟩,⟨o,hk b o e⟩,fun _=>hk b o e⟩,at_⟩
theorem Mv.up (hk:Up h h'):Mv No fr ρ ρ h h':= .grow (fun _ q=>q.elim) hk (fun _ _=>rfl) fun _ _ q=>q
theorem Mv.mono (M:Mv ow fr ρ ρ' h h') (own:∀b,ow' b→ρ.k b= .hid) (hw:∀b,ow b→ow' b) (hf:∀b,fr b→fr' b):Mv ow' fr' ρ ρ' h h' where
  own:=own
  keep:=fun b o e n=>by
    obtain⟨k,l,f⟩:=M.keep b o e fun q=>n (hw b q)
    refine⟨k,l,fun F=>f ?_⟩
    revert F
    cases ρ.k b<;>first |exact id |exact fun F q=>F (hf b q)
  at_:=M.at_
end
inductive LA (F:Addr→Obj→Prop) (T:String) (r:List Value→Prop) (v:Value):Prop where
  |mk {a:Addr} {o:Obj} {vs:Array Value} {n:Nat} (e:v= .ref a) (f:F a o) (c:o.cls= .type T) (d:o.data= .seq vs n) (q:r vs.toList) (nd:o.dict=none):LA F T r v
theorem LA.mono {F F':Addr→Obj→Prop} {T:String} {r r':List Value→Prop} {v:Value} (hF:∀{a o},F a o→F' a o) (hr:∀v,r v→r' v) (l:LA F T r v):LA F' T r' v:=let⟨e,f,c,d,q,nd⟩:=l;⟨e,hF f,c,d,hr _ q,nd⟩
noncomputable def Rd (F:Addr→Obj→Prop) (x:PyData):Value→Prop:=
  PyData.rec (motive_1:=fun _=>Value→Prop) (motive_2:=fun _=>List Value→Prop) (motive_3:=fun _=>Unit) (motive_4:=fun _=>Unit)
    (fun v=>v= .none) (fun b v=>v= .bool b) (fun i v=>∃t,v= .int i t) (fun s v=>∃t,v= .str s t)
    (fun _ r v=>LA F "list" r v) (fun _ r v=>LA F "tuple" r v)
    (fun kvs _ v=>kvs=[]∧∃a ep,v= .ref a∧F a {cls:= .type "dict",data:= .dict #[] ep})
    (fun vs=>vs=[]) (fun _ _ r rs vs=>∃w ws,vs=w::ws∧r w∧rs ws) () (fun _ _ _ _=>()) (fun _ _ _ _=>()) x
noncomputable def Rds (F:Addr→Obj→Prop) (x:List PyData):List Value→Prop:=
  PyData.rec_1 (motive_1:=fun _=>Value→Prop) (motive_2:=fun _=>List Value→Prop) (motive_3:=fun _=>Unit) (motive_4:=fun _=>Unit)
    (fun v=>v= .none) (fun b v=>v= .bool b) (fun i v=>∃t,v= .int i t) (fun s v=>∃t,v= .str s t)
    (fun _ r v=>LA F "list" r v) (fun _ r v=>LA F "tuple" r v)
    (fun kvs _ v=>kvs=[]∧∃a ep,v= .ref a∧F a {cls:= .type "dict",data:= .dict #[] ep})
    (fun vs=>vs=[]) (fun _ _ r rs vs=>∃w ws,vs=w::ws∧r w∧rs ws) () (fun _ _ _ _=>()) (fun _ _ _ _=>()) x
section
variable {F F':Addr→Obj→Prop}
theorem Rds.cons {x:PyData} {xs:List PyData} {v:Value} {vs:List Value} (a:Rd F x v) (b:Rds F xs vs):Rds F (x::xs) (v::vs):=⟨_,_,rfl,a,b⟩
theorem Rds.ind {P:List PyData→List Value→Prop} (h0:P [] []) (h1:∀x xs v vs,Rd F x v→Rds F xs vs→P xs vs→P (x::xs) (v::vs)):∀{xs:List PyData} {vs:List Value},Rds F xs vs→P xs vs:=by
  intro xs
  induction xs with
  |nil=>intro vs e;cases(e:vs=[]);exact h0
  |cons x xs ih=>rintro _ ⟨v,vs,rfl,a,b⟩;exact h1 x xs v vs a b (ih b)
theorem Rd.mono (hF:∀{a o},F a o→F' a o):∀{x:PyData} {v:Value},Rd F x v→Rd F' x v:=fun {x}=>
  PyData.rec (motive_1:=fun x=>∀v,Rd F x v→Rd F' x v) (motive_2:=fun x=>∀v,Rds F x v→Rds F' x v) (motive_3:=fun _=>True) (motive_4:=fun _=>True)
    (fun _ e=>e) (fun _ _ e=>e) (fun _ _ e=>e) (fun _ _ e=>e)
    (fun _ r _ l=>LA.mono hF r l) (fun _ r _ l=>LA.mono hF r l)
    (fun _ _ _ ⟨h,a,ep,e,f⟩=>⟨h,a,ep,e,hF f⟩) (fun _ e=>e) (fun _ _ r rs _ ⟨w,ws,e,a,b⟩=>⟨w,ws,e,r w a,rs ws b⟩) trivial (fun _ _ _ _=>trivial) (fun _ _ _ _=>trivial) x _
theorem Rds.mono (hF:∀{a o},F a o→F' a o) {xs:List PyData} {vs:List Value} (r:Rds F xs vs):Rds F' xs vs:=Rds.ind (P:=Rds F') rfl (fun _ _ _ _ a _ b=> .cons (a.mono hF) b) r
theorem Rds.len {xs:List PyData} {vs:List Value} (r:Rds F xs vs):vs.length=xs.length:=Rds.ind (P:=fun xs vs=>vs.length=xs.length) rfl (fun _ _ _ _ _ _ e=>congrArg Nat.succ e) r
theorem Rds.size {xs:List PyData} {vs:Array Value} (r:Rds F xs vs.toList):vs.size=xs.length:=r.len
theorem Rds.app {xs ys:List PyData} {vs ws:List Value} (a:Rds F xs vs) (b:Rds F ys ws):Rds F (xs++ys) (vs++ws):=Rds.ind (P:=fun xs vs=>Rds F (xs++ys) (vs++ws)) b (fun _ _ _ _ a _ b=> .cons a b) a
theorem Rds.one {x:PyData} {v:Value} (a:Rd F x v):Rds F [x] [v]:= .cons a rfl
theorem Rds.get {xs:List PyData} {vs:List Value} (a:Rds F xs vs):∀{i:Nat} {x:PyData},xs[i]?=some x→∃v,vs[i]?=some v∧Rd F x v:=
  Rds.ind (P:=fun xs vs=>∀{i:Nat} {x:PyData},xs[i]?=some x→∃v,vs[i]?=some v∧Rd F x v) (fun e=>nomatch e)
    (fun _ _ v _ a _ b=>fun {i} {_} e=>match i with |0=>⟨v,rfl,Option.some.inj e ▸ a⟩ |_+1=>b e) a
theorem Rds.set {xs:List PyData} {vs:List Value} {y:PyData} {w:Value} (r:Rd F y w) (a:Rds F xs vs):∀(j:Nat),Rds F (xs.set j y) (vs.set j w):=
  Rds.ind (P:=fun xs vs=>∀j:Nat,Rds F (xs.set j y) (vs.set j w)) (fun _=>rfl) (fun _ _ _ _ a d b j=>match j with |0=> .cons r d |j+1=> .cons a (b j)) a
theorem Rds.taken {xs:List PyData} {vs:List Value} (a:Rds F xs vs):∀(j:Nat),Rds F (xs.take j) (vs.take j):=
  Rds.ind (P:=fun xs vs=>∀j:Nat,Rds F (xs.take j) (vs.take j)) (fun j=>by cases j<;>rfl) (fun _ _ _ _ a _ b j=>match j with |0=>rfl |j+1=> .cons a (b j)) a
theorem Rds.drop {xs:List PyData} {vs:List Value} (a:Rds F xs vs):∀(j:Nat),Rds F (xs.drop j) (vs.drop j):=
  Rds.ind (P:=fun xs vs=>∀j:Nat,Rds F (xs.drop j) (vs.drop j)) (fun j=>by cases j<;>rfl) (fun _ _ _ _ a d b j=>match j with |0=> .cons a d |j+1=>b j) a
theorem Rds.rev {xs:List PyData} {vs:List Value} (a:Rds F xs vs):Rds F xs.reverse vs.reverse:=
  Rds.ind (P:=fun xs vs=>Rds F xs.reverse vs.reverse) rfl (fun x xs v vs a _ b=>by rw[List.reverse_cons,List.reverse_cons];exact b.app (.one a)) a
theorem Rd.reads {h:Heap} (hF:∀{a o},F a o→h.get? a=some o):∀{x:PyData} {v:Value},Rd F x v→∃bs,Reads h v x bs:=fun {x}=>
  PyData.rec (motive_1:=fun x=>∀v,Rd F x v→∃bs,Reads h v x bs) (motive_2:=fun x=>∀v,Rds F x v→∃bs,ReadsAll h v x bs) (motive_3:=fun _=>True) (motive_4:=fun _=>True)
    (fun _ e=>e ▸ ⟨_,.none⟩) (fun _ _ e=>e ▸ ⟨_,.bool _⟩) (fun _ _ ⟨_,e⟩=>e ▸ ⟨_,.int _ _⟩) (fun _ _ ⟨_,e⟩=>e ▸ ⟨_,.str _ _⟩)
    (fun _ r _ ⟨e,f,c,d,q,_⟩=>(r _ q).elim fun _ q=>e ▸ ⟨_,.list (hF f) c d q⟩)
    (fun _ r _ ⟨e,f,c,d,q,_⟩=>(r _ q).elim fun _ q=>e ▸ ⟨_,.tuple (hF f) c d q⟩)
    (fun _ _ _ ⟨h,a,ep,e,f⟩=>e ▸ h ▸ ⟨_,.dict (kvs:=[]) (hF f) rfl rfl .nil .nil⟩)
    (fun _ e=>e ▸ ⟨_,.nil⟩) (fun _ _ r rs _ ⟨w,ws,e,a,b⟩=>let⟨_,a⟩:=r w a;let⟨_,b⟩:=rs ws b;e ▸ ⟨_,.cons a b⟩) trivial (fun _ _ _ _=>trivial) (fun _ _ _ _=>trivial) x _
theorem Rds.reads {h:Heap} (hF:∀{a o},F a o→h.get? a=some o) {xs:List PyData} {vs:List Value} (r:Rds F xs vs):∃bs,ReadsAll h vs xs bs:=
  Rds.ind (P:=fun xs vs=>∃bs,ReadsAll h vs xs bs) ⟨_,.nil⟩ (fun _ _ _ _ a _ ⟨_,b⟩=>let⟨_,a⟩:=a.reads hF;⟨_,.cons a b⟩) r
end
structure Ctx0 where
  pa:Bool→Addr
  cls:Addr
  h₀:Heap
  os₀:OsState
  gl:Addr
  gm:Str→Option Value
  bm:Str→Option Value
  mN:Str→Option Value
noncomputable def lObj (items:Array Value) (n:Nat):Obj:={cls:= .type "list",data:= .seq items n}
inductive Own (h:Heap) (ρ:Rho) (a:Addr) (xs:List PyData):Prop where
  |mk {items:Array Value} {n:Nat} (k:ρ.k a= .hid) (e:h.get? a=some (lObj items n)) (r:Rds (Fz h ρ) xs items.toList):Own h ρ a xs
noncomputable def rObj (lo hi st:Int) (t u w:Tok):Obj:={cls:= .type "range",data:= .fields #[.int lo t,.int hi u,.int st w]}
noncomputable def tupO (items:Array Value) (n:Nat):Obj:={cls:= .type "tuple",data:= .seq items n}
noncomputable def VR (K:Ctx0) (h:Heap) (ρ:Rho) (v:V) (val:Value):Prop:=match v with
  | .d x=>Rd (Fz h ρ) x val
  | .fl xs=>∃a,val= .ref a∧Own h ρ a xs
  | .hl i=>∃a,val= .ref a∧At ρ i a
  | .obj i=>∃a,val= .ref a∧At ρ i a
  | .ty n=>val= .type n
  | .pat b=>val= .ref (K.pa b)
  | .rng lo hi st=>∃a t u w,val= .ref a∧Fz h ρ a (rObj lo hi st t u w)
  | .tri i x j=>∃a y b c n,val= .ref a∧Fz h ρ a (tupO #[.ref b,y,.ref c] n)∧At ρ i b∧Rd (Fz h ρ) x y∧At ρ j c
noncomputable def Ow (v:V) (val:Value) (b:Addr):Prop:=match v with
  | .fl _=>val= .ref b
  |_=>False
section
variable {K:Ctx0} {ow fr:Addr→Prop} {ρ ρ':Rho} {h h':Heap}
theorem Own.mv (M:Mv ow fr ρ ρ' h h') {a:Addr} {xs:List PyData} (o:Own h ρ a xs) (n:¬ow a):Own h' ρ' a xs:=
  let⟨k,e,r⟩:=o
  ⟨(M.hid k e n).1,(M.hid k e n).2,r.mono M.fz⟩
theorem VR.mv (M:Mv ow fr ρ ρ' h h') {v:V} {val:Value} (r:VR K h ρ v val) (n:∀a,Ow v val a→¬ow a):VR K h' ρ' v val:=by
  cases v with
  |d x=>exact Rd.mono M.fz r
  |fl xs=>exact let⟨a,e,o⟩:=r;⟨a,e,o.mv M (n a e)⟩
  |hl i=>exact let⟨a,e,q⟩:=r;⟨a,e,M.at_ i a q⟩
  |obj i=>exact let⟨a,e,q⟩:=r;⟨a,e,M.at_ i a q⟩
  |ty n=>exact r
  |pat b=>exact r
  |rng lo hi st=>exact let⟨a,t,u,w,e,f⟩:=r;⟨a,t,u,w,e,M.fz f⟩
  |tri i x j=>exact let⟨a,y,b,c,n,e,f,p,q,r⟩:=r;⟨a,y,b,c,n,e,M.fz f,M.at_ i b p,q.mono M.fz,M.at_ j c r⟩
theorem VR.mv0 (M:Mv No fr ρ ρ' h h') {v:V} {val:Value} (r:VR K h ρ v val):VR K h' ρ' v val:=r.mv M fun _ _ q=>q
theorem VR.own {v:V} {val:Value} (r:VR K h ρ v val) {b:Addr} (o:Ow v val b):ρ.k b= .hid∧Live h b:=by
  cases v with
  | fl xs=>
    obtain⟨a,e,k,g,-⟩:=r
    cases Value.ref.inj ((show val=_ from o).symm.trans e)
    exact⟨k,_,g⟩
  |_=>exact o.elim
noncomputable def InstD (h:Heap) (ρ:Rho) (d:Addr) (k:Option Nat):Prop:=
  k.elim (h.Ns1 d fun _=>none) fun k=>∃l,At ρ k l∧h.Ns1 d fun x=>if x="_headers" then some (.ref l)else none
inductive InstOK (K:Ctx0) (h:Heap) (ρ:Rho) (i:Nat) (a:Addr) (k:Option Nat):Prop where
  |mk {o:Obj} {d:Addr} (g:h.get? a=some o) (c:o.cls= .ref K.cls) (hd:o.dict=some d) (nc:∀c,o.data≠ .cls c) (kd:ρ.k d= .dct i) (hi:InstD h ρ d k):InstOK K h ρ i a k
noncomputable def CellOK (K:Ctx0) (h:Heap) (ρ:Rho) (i:Nat) (a:Addr) (c:Cell):Prop:=match c with
  | .list xs=>∃items n,h.get? a=some (lObj items n)∧Rds (Fz h ρ) xs items.toList
  | .inst k=>InstOK K h ρ i a k
structure Store (K:Ctx0) (h:Heap) (ρ:Rho) (objs:Objs):Prop where
  ok:∀{i c},objs[i]?=some c→∃a,At ρ i a∧CellOK K h ρ i a c
  lt:∀{b i},ρ.k b= .cell i→i<objs.length
noncomputable def Still (ρ:Rho) (h h':Heap) (i:Nat):Prop:=∀b o,ρ.k b= .cell i∨ρ.k b= .dct i→h.get? b=some o→h'.get? b=some o
theorem InstD.mv (M:Mv ow fr ρ ρ' h h') {d:Addr} {k:Option Nat} (r:InstD h ρ d k) (s:∀o,h.get? d=some o→h'.get? d=some o):InstD h' ρ' d k:=by
  cases k with
  |none=>exact Heap.Ns1.at r s
  |some k=>exact let⟨l,q,n⟩:=r;⟨l,M.at_ k l q,n.at s⟩
theorem InstD.dict {d:Addr} {k:Option Nat} (r:InstD h ρ d k):∃m,h.Ns1 d m:=by
  cases k with
  |none=>exact⟨_,r⟩
  |some k=>exact let⟨l,q,n⟩:=r;⟨_,n⟩
theorem CellOK.mv (M:Mv ow fr ρ ρ' h h') {i:Nat} {a:Addr} {c:Cell} (ha:At ρ i a) (r:CellOK K h ρ i a c) (s:Still ρ h h' i):CellOK K h' ρ' i a c:=by
  cases c with
  |list xs=>exact let⟨items,n,g,q⟩:=r;⟨items,n,s _ _ (.inl ha.2) g,q.mono M.fz⟩
  | inst k=>
    obtain⟨g,c,hd,nc,kd,hi⟩:=r
    obtain⟨m,od,es,ep,gd,-⟩:=hi.dict
    exact⟨s _ _ (.inl ha.2) g,c,hd,nc,(M.keep _ od gd (M.no kd Kd.noConfusion)).1.trans kd,hi.mv M fun o=>s _ o (.inr kd)⟩
theorem Store.mv {objs objs':Objs} (M:Mv ow fr ρ ρ' h h') (S:Store K h ρ objs) (H:∀{i c},objs'[i]?=some c→(∃a,At ρ' i a∧CellOK K h' ρ' i a c)∨(objs[i]?=some c∧Still ρ h h' i)) (lt:∀{b i},ρ'.k b= .cell i→i<objs'.length):Store K h' ρ' objs':=
  ⟨fun e=>(H e).elim id fun⟨e,s⟩=>let⟨a,q,r⟩:=S.ok e;⟨a,M.at_ _ a q,r.mv M q s⟩,lt⟩
theorem Store.same {objs:Objs} (M:Mv ow fr ρ ρ' h h') (S:Store K h ρ objs) (s:∀i,Still ρ h h' i) (lt:∀{b i},ρ'.k b= .cell i→i<objs.length):Store K h' ρ' objs:=
  S.mv M (fun e=> .inr ⟨e,s _⟩) lt
noncomputable def OR (K:Ctx0) (h:Heap) (ρ:Rho) (ov:Option V) (w:Option Value):Prop:=ov.elim (w=none) fun v=>∃val,w=some val∧VR K h ρ v val∧v.fl?=none
theorem OR.mv (M:Mv ow fr ρ ρ' h h') {ov:Option V} {w:Option Value} (r:OR K h ρ ov w):OR K h' ρ' ov w:=by
  cases ov with
  |none=>exact r
  |some v=>exact let⟨val,e,q,n⟩:=r;⟨val,e,q.mv M (by cases v<;>first |exact fun _ q=>q.elim |exact nomatch n),n⟩
end
noncomputable def VarOK (K:Ctx0) (C:Cx) (env:Env) (h:Heap) (ρ:Rho) (m:Str→Option Value) (x:Str) (ov:Option V):Prop:=
  (C.sc.names.lookup x=some .local→OR K h ρ ov (m x))∧
  (C.sc.names.lookup x=some .cell∨C.sc.names.lookup x=some .free→∃c w,env.cells.lookup x=some c∧h.IsCell c w∧OR K h ρ ov w)
structure EnvOK (K:Ctx0) (C:Cx) (env:Env):Prop where
  kind:env.scope.kind= .function
  glob:env.globals=K.gl
  bui:env.builtins=builtinsNs
  kinds:∀{x k},C.sc.names.lookup x=some k→env.kindOf x=some k∨(k= .free∧env.kindOf x=some .cell)
  one:∀{x y c},env.cells.lookup x=some c→env.cells.lookup y=some c→x=y
  has:∀{x},C.sc.names.lookup x=some .cell∨C.sc.names.lookup x=some .free→(env.cells.lookup x).isSome=true
theorem EnvOK.kd {K C env} (O:EnvOK K C env) {x:Str} {k:NameKind} (h:C.sc.names.lookup x=some k) (n:k≠ .free):env.kindOf x=some k:=(O.kinds h).resolve_right fun q=>n q.1
structure RelW (K:Ctx0) (objs:Objs) (ρ:Rho) (s:Shared):Prop where
  base:∀{b o},K.h₀.get? b=some o→Fz s.heap ρ b o
  kl:∀{b},ρ.k b≠ .fz→Live s.heap b
  gens:s.gens=#[]
  os:s.os=K.os₀
  store:Store K s.heap ρ objs
structure Frm (K:Ctx0) (C:Cx) (env:Env) (vars:Vars) (ρ:Rho) (h:Heap):Prop where
  loc:ρ.k env.locals= .frm
  vars:∃m,h.Ns env.locals m∧∀{x ov},vars.lookup x=some ov→VarOK K C env h ρ m x ov
  cel:∀{x c},env.cells.lookup x=some c→ρ.k c= .frm∧∃w,h.IsCell c w
structure Rel (K:Ctx0) (C:Cx) (env:Env) (st:St) (ρ:Rho) (s:Shared):Prop where
  w:RelW K st.objs ρ s
  f:Frm K C env st.vars ρ s.heap
noncomputable def Fe (C:Cx) (env:Env) (b:Addr):Prop:=b=env.locals∨∃x,C.sc.names.lookup x=some .cell∧env.cells.lookup x=some b
section
variable {K:Ctx0} {C:Cx} {env:Env} {st st':St} {vars:Vars} {objs objs':Objs} {ow fr:Addr→Prop} {ρ ρ':Rho} {h h':Heap} {s s':Shared}
theorem RelW.new (R:RelW K objs ρ s) {a:Addr} (n:¬Live s.heap a):ρ.k a= .fz:=by
  cases e:ρ.k a with
  |fz=>rfl
  |_=>exact absurd (R.kl (by rw[e];exact Kd.noConfusion)) n
theorem RelW.mv (R:RelW K objs ρ s) (M:Mv ow fr ρ ρ' s.heap s'.heap) (S:Store K s'.heap ρ' objs') (kl:∀{b},ρ'.k b≠ .fz→Live s'.heap b) (g:s'.gens=s.gens) (o:s'.os=s.os):RelW K objs' ρ' s':=
  ⟨fun e=>M.fz (R.base e),kl,g.trans R.gens,o.trans R.os,S⟩
theorem VarOK.mv (M:Mv ow fr ρ ρ' h h') {m:Str→Option Value} {x:Str} {ov:Option V} (v:VarOK K C env h ρ m x ov) (hk:∀c w,env.cells.lookup x=some c→h.IsCell c w→h'.IsCell c w):VarOK K C env h' ρ' m x ov:=
  ⟨fun q=>(v.1 q).mv M,fun q=>let⟨c,w,hc,hi,ho⟩:=v.2 q;⟨c,w,hc,hk c w hc hi,ho.mv M⟩⟩
theorem Frm.mv (F:Frm K C env vars ρ h) (M:Mv ow fr ρ ρ' h h') (nl:¬fr env.locals) (nc:∀{x c},env.cells.lookup x=some c→¬fr c):Frm K C env vars ρ' h':=by
  have key:∀x c w,env.cells.lookup x=some c→h.IsCell c w→h'.IsCell c w:=fun x c w hc ⟨o,ho,hd⟩=>⟨o,(M.frm (F.cel hc).1 ho (nc hc)).2,hd⟩
  obtain⟨m,hn,hv⟩:=F.vars
  obtain⟨o,es,ep,ho,r⟩:=id hn
  refine⟨(M.frm F.loc ho nl).1,⟨m,hn.at' fun o e=>(M.frm F.loc e nl).2,fun hx=>(hv hx).mv M (key _)⟩,fun hc=>?_⟩
  obtain⟨hf,w,o,ho,hd⟩:=F.cel hc
  exact⟨(M.frm hf ho (nc hc)).1,w,o,(M.frm hf ho (nc hc)).2,hd⟩
end
structure Step (K:Ctx0) (C:Cx) (env:Env) (st':St) (ow:Addr→Prop) (ρ:Rho) (s:Shared) (ρ':Rho) (s':Shared):Prop where
  rel:Rel K C env st' ρ' s'
  mv:Mv ow (Fe C env) ρ ρ' s.heap s'.heap
section
variable {K:Ctx0} {C:Cx} {env:Env} {st st₁ st₂:St} {ow ow':Addr→Prop} {ρ ρ₁ ρ₂:Rho} {s s₁ s₂:Shared}
theorem Step.trans (a:Step K C env st₁ ow ρ s ρ₁ s₁) (b:Step K C env st₂ ow' ρ₁ s₁ ρ₂ s₂) (h:∀x,Live s.heap x→ow' x→ow x):Step K C env st₂ ow ρ s ρ₂ s₂:=⟨b.rel,a.mv.trans b.mv h fun _ _ q=>q⟩
theorem Step.aft (a:Step K C env st₁ ow ρ s ρ₁ s₁) (b:Step K C env st₂ No ρ₁ s₁ ρ₂ s₂):Step K C env st₂ ow ρ s ρ₂ s₂:=a.trans b fun _ _ q=>q.elim
theorem Step.more (a:Step K C env st₁ ow ρ s ρ₁ s₁) (o:∀b,ow' b→ρ.k b= .hid) (h:∀b,ow b→ow' b):Step K C env st₁ ow' ρ s ρ₁ s₁:=⟨a.rel,a.mv.mono o h fun _ q=>q⟩
theorem Rel.up (R:Rel K C env st ρ s) (o:∀b,ow b→ρ.k b= .hid) {h':Heap} {t:Nat} (hk:Up s.heap h'):Step K C env st ow ρ s ρ {s with heap:=h',toks:=t}:=by
  have M:Mv No No ρ ρ s.heap h':= .up hk
  exact⟨⟨R.w.mv (s':={s with heap:=h',toks:=t}) M (R.w.store.same M (fun _ b o _ e=>hk b o e) R.w.store.lt) (fun n=>M.live (R.w.kl n) id) rfl rfl,R.f.mv M id fun _=>id⟩,M.mono o (fun _ q=>q.elim) fun _ q=>q.elim⟩
theorem Rel.stay (R:Rel K C env st ρ s) (o:∀b,ow b→ρ.k b= .hid):Step K C env st ow ρ s ρ s:=R.up (t:=s.toks) o (.refl _)
theorem Rel.tok (R:Rel K C env st ρ s) (t:Nat):Step K C env st No ρ s ρ {s with toks:=t}:=R.up (fun _ q=>q.elim) (.refl _)
theorem Rel.go (R:Rel K C env st ρ s) {h':Heap} {t:Nat} (hk:Up s.heap h'):Step K C env st No ρ s ρ {s with heap:=h',toks:=t}:=R.up (fun _ q=>q.elim) hk
theorem Rel.at0 (R:Rel K C env st ρ s):Step K C env st No ρ s ρ s:=R.stay fun _ q=>q.elim
end
end Mine
end
section
open PySem PySem.W PyProof.Rows
namespace Mine
noncomputable def Rho.set (ρ:Rho) (a:Addr) (k:Kd):Rho:=⟨fun b=>if b=a then k else ρ.k b,ρ.c⟩
theorem set_self {ρ:Rho} {a:Addr} {k:Kd}:(ρ.set a k).k a=k:=if_pos rfl
theorem set_ne {ρ:Rho} {a b:Addr} {k:Kd} (n:b≠a):(ρ.set a k).k b=ρ.k b:=if_neg n
theorem set_cell {ρ:Rho} {a b:Addr} {k:Kd} {i:Nat} (n:∀i,k≠ .cell i) (e:(ρ.set a k).k b= .cell i):ρ.k b= .cell i:=by
  by_cases q:b=a
  · subst q;rw[set_self]at e;exact absurd e (n i)
  · rwa [set_ne q]at e
theorem At.set {ρ:Rho} {a b:Addr} {k:Kd} {i:Nat} (q:At ρ i b) (n:ρ.k a≠ .cell i):At (ρ.set a k) i b:=⟨q.1,(set_ne fun e=>n ((congrArg ρ.k e).symm.trans q.2)).trans q.2⟩
theorem cell_inj {i j:Nat} (e:Kd.cell i= .cell j):i=j:=by cases e;rfl
theorem dct_inj {i j:Nat} (e:Kd.dct i= .dct j):i=j:=by cases e;rfl
section
variable {K:Ctx0} {C:Cx} {env:Env} {st:St} {ow fr:Addr→Prop} {ρ ρ':Rho} {h':Heap} {s:Shared} {t:Nat}
theorem Mv.ofOwn {h:Heap} (hw:∀b,ow b→ρ.k b= .hid) (hk:∀b o,¬ow b→h.get? b=some o→h'.get? b=some o) (ke:∀b,¬ow b→ρ'.k b=ρ.k b) (at_:∀i a,At ρ i a→At ρ' i a):Mv ow fr ρ ρ' h h':=
  ⟨hw,fun b o e n=>⟨ke b n,⟨o,hk b o n e⟩,fun _=>hk b o n e⟩,at_⟩
theorem Rel.own (R:Rel K C env st ρ s) (hw:∀b,ow b→ρ.k b= .hid) (hk:∀b o,¬ow b→s.heap.get? b=some o→h'.get? b=some o) (ke:∀b,¬ow b→ρ'.k b=ρ.k b) (hc:ρ'.c=ρ.c)
    (kl:∀b,ow b→ρ'.k b≠ .fz→Live h' b) (nc:∀b i,ow b→ρ'.k b≠ .cell i):Step K C env st ow ρ s ρ' {s with heap:=h',toks:=t}:=by
  have no:∀{b k},ρ.k b=k→k≠ .hid→¬ow b:=fun e n q=>n (e.symm.trans (hw _ q))
  have at_:∀i a,At ρ i a→At ρ' i a:=fun i a q=>⟨(congrFun hc i).trans q.1,(ke a (no q.2 Kd.noConfusion)).trans q.2⟩
  have M:Mv ow No ρ ρ' s.heap h':= .ofOwn hw hk ke at_
  refine⟨⟨R.w.mv (s':={s with heap:=h',toks:=t}) M (R.w.store.same M (fun i b o q e=>hk b o (q.elim (fun q=>no q Kd.noConfusion) fun q=>no q Kd.noConfusion) e) fun {b i} q=>?_) (fun {b} q=>?_) rfl rfl,R.f.mv M id fun _=>id⟩,M.mono hw (fun _=>id) fun _ q=>q.elim⟩
  · by_cases w:ow b
    · exact absurd q (nc b i w)
    · exact R.w.store.lt ((ke b w).symm.trans q)
  · by_cases w:ow b
    · exact kl b w q
    · exact M.live (R.w.kl fun e=>q ((ke b w).trans e)) w
theorem Rel.drop (R:Rel K C env st ρ s) {a:Addr} {xs:List PyData} (r:Own s.heap ρ a xs):Step K C env st (·=a) ρ s (ρ.set a .fz) s∧VR K s.heap (ρ.set a .fz) (.d (.list xs)) (.ref a):=by
  obtain⟨k,g,d⟩:=r
  have S:Step K C env st (·=a) ρ s (ρ.set a .fz) s:=R.own (t:=s.toks) (fun b q=>q ▸ k) (fun _ _ _ e=>e) (fun b q=>set_ne q) rfl (fun b q n=>absurd (q ▸ set_self) n) fun b i q e=>by cases q;rw[set_self]at e;cases e
  exact⟨S,.mk rfl ⟨set_self,g⟩ rfl rfl (d.mono S.mv.fz) rfl⟩
noncomputable def Rho.add (ρ:Rho) (n:Nat) (a:Addr):Rho:=⟨(ρ.set a (.cell n)).k,fun i=>if i=n then a else ρ.c i⟩
theorem At.add {n i:Nat} {a b:Addr} (q:At ρ i b) (hi:i<n) (k:ρ.k a≠ .cell i):At (ρ.add n a) i b:=⟨(if_neg (Nat.ne_of_lt hi)).trans q.1,(At.set q k).2⟩
theorem At.new {n:Nat} {a:Addr}:At (ρ.add n a) n a:=⟨if_pos rfl,set_self⟩
theorem get_app {objs:Objs} {x c:Cell} {i:Nat} (e:(objs++[x])[i]?=some c):(i=objs.length∧c=x)∨objs[i]?=some c:=by
  rcases Nat.lt_trichotomy i objs.length with h |h |h
  · rw[List.getElem?_append_left h]at e;exact .inr e
  · subst h;rw[List.getElem?_concat_length]at e;exact .inl ⟨rfl,(Option.some.inj e).symm⟩
  · rw[List.getElem?_eq_none (by rw[List.length_append];exact h)]at e;cases e
theorem Rel.promote (R:Rel K C env st ρ s) {a:Addr} {xs:List PyData} (r:Own s.heap ρ a xs):Step K C env ⟨st.vars,st.objs++[.list xs]⟩ (·=a) ρ s (ρ.add st.objs.length a) s∧At (ρ.add st.objs.length a) st.objs.length a:=by
  obtain⟨k,g,d⟩:=r
  have nk:∀{i},ρ.k a≠ .cell i:=fun e=>by rw[k]at e;cases e
  have hw:∀b,b=a→ρ.k b= .hid:=fun b q=>q ▸ k
  have M:Mv (·=a) No ρ (ρ.add st.objs.length a) s.heap s.heap:= .ofOwn hw (fun _ _ _ e=>e) (fun b q=>set_ne q) fun i b q=>q.add (R.w.store.lt q.2) nk
  have len:(st.objs++[Cell.list xs]).length=st.objs.length+1:=List.length_append
  refine⟨⟨⟨R.w.mv M (R.w.store.mv M (fun e=>?_) fun {b i} q=>?_) (fun {b} q=>?_) rfl rfl,R.f.mv M id fun _=>id⟩,M.mono hw (fun _=>id) fun _ q=>q.elim⟩,.new⟩
  · rcases get_app e with⟨rfl,rfl⟩ |e
    · exact .inl ⟨a,.new,_,_,g,d.mono M.fz⟩
    · exact .inr ⟨e,fun _ _ _ e=>e⟩
  · rw[len]
    by_cases w:b=a
    · subst w;cases set_self.symm.trans q;exact Nat.lt_succ_self _
    · exact Nat.lt_succ_of_lt (R.w.store.lt ((set_ne w).symm.trans q))
  · by_cases w:b=a
    · exact w ▸ ⟨_,g⟩
    · exact R.w.kl fun e=>q ((set_ne w).trans e)
theorem Rel.hide (R:Rel K C env st ρ s) {a:Addr} (ha:¬Live s.heap a) (hk:Up s.heap h') (l:Live h' a):Step K C env st No ρ s (ρ.set a .hid) {s with heap:=h',toks:=t}:=by
  have n:ρ.k a= .fz:=R.w.new ha
  have M:Mv No No ρ (ρ.set a .hid) s.heap h':= .grow (fun _ q=>q.elim) hk (fun b q=>set_ne fun e=>ha (e ▸ q)) fun i b q=>q.set fun e=>by rw[n]at e;cases e
  refine⟨⟨R.w.mv (s':={s with heap:=h',toks:=t}) M (R.w.store.same M (fun i b o _ e=>hk b o e) fun q=>R.w.store.lt (set_cell (fun _=>Kd.noConfusion) q)) (fun {b} q=>?_) rfl rfl,R.f.mv M id fun _=>id⟩,M.mono (fun _ q=>q.elim) (fun _=>id) fun _ q=>q.elim⟩
  by_cases w:b=a
  · exact w ▸ l
  · exact M.live (R.w.kl fun e=>q ((set_ne w).trans e)) id
theorem Rel.setCell (R:Rel K C env st ρ s) {i:Nat} {a:Addr} {c:Cell} (ha:At ρ i a) (hk:∀b o,ρ.k b≠ .cell i→ρ.k b≠ .dct i→s.heap.get? b=some o→h'.get? b=some o) (hl:∀b,Live s.heap b→Live h' b) (hc:CellOK K h' ρ i a c):
    Step K C env (setCell i c st) No ρ s ρ {s with heap:=h',toks:=t}:=by
  have kk:∀{b o fr},Fix fr b (ρ.k b)→s.heap.get? b=some o→h'.get? b=some o:=fun {b o fr} F e=>hk b o (fun q=>by rw[q]at F;exact F) (fun q=>by rw[q]at F;exact F) e
  have M:Mv No No ρ ρ s.heap h':=⟨fun _ q=>q.elim,fun b o e _=>⟨rfl,hl b ⟨o,e⟩,fun F=>kk F e⟩,fun _ _ q=>q⟩
  refine⟨⟨R.w.mv (s':={s with heap:=h',toks:=t}) M (R.w.store.mv M (fun {j c'} e=>?_) fun {b j} q=>Nat.lt_of_lt_of_eq (R.w.store.lt q) List.length_set.symm) (fun n=>hl _ (R.w.kl n)) rfl rfl,R.f.mv M id fun _=>id⟩,M.mono (fun _ q=>q.elim) (fun _=>id) fun _ q=>q.elim⟩
  by_cases q:i=j
  · subst q
    rw[show(Mine.setCell i c st).objs=st.objs.set i c from rfl,List.getElem?_set_self (R.w.store.lt ha.2)]at e
    cases e;exact .inl ⟨a,ha,hc⟩
  · rw[show(Mine.setCell i c st).objs=st.objs.set i c from rfl,List.getElem?_set_ne q]at e
    exact .inr ⟨e,fun b o k e=>hk b o (fun z=>k.elim (fun k=>q (cell_inj (z.symm.trans k))) fun k=>by rw[z]at k;cases k) (fun z=>k.elim (fun k=>by rw[z]at k;cases k) fun k=>q (dct_inj (z.symm.trans k))) e⟩
theorem live_but {a:Addr} {h h':Heap} (hs:Heap.SameBut a h h') (l:Live h' a):∀b,Live h b→Live h' b:=fun b ⟨o,e⟩=>by
  by_cases hb:b=a
  · exact hb ▸ l
  · exact⟨o,(hs.2 b hb).trans e⟩
theorem Rel.setList (R:Rel K C env st ρ s) {i:Nat} {a:Addr} {xs:List PyData} {items n} (ha:At ρ i a) (hs:Heap.SameBut a s.heap h') (hg:h'.get? a=some (lObj items n)) (d:Rds (Fz s.heap ρ) xs items.toList):
    Step K C env (Mine.setCell i (.list xs) st) No ρ s ρ {s with heap:=h',toks:=t}:=by
  have hk:∀b o,ρ.k b≠ .cell i→s.heap.get? b=some o→h'.get? b=some o:=fun b o n e=>(hs.2 b fun q=>n (q ▸ ha.2)).trans e
  exact R.setCell ha (fun b o n _ e=>hk b o n e) (live_but hs ⟨_,hg⟩) ⟨_,_,hg,d.mono fun f=>⟨f.1,hk _ _ (fun e=>by rw[f.1]at e;cases e) f.2⟩⟩
theorem RelW.frame {objs:Objs} (R:RelW K objs ρ s) {L:Addr} (kL:ρ.k L= .frm) (fe:fr L) (hs:Heap.SameBut L s.heap h') (l:Live h' L):Mv No fr ρ ρ s.heap h'∧RelW K objs ρ {s with heap:=h',toks:=t}:=by
  have k:∀b o,b≠L→s.heap.get? b=some o→h'.get? b=some o:=fun b o n e=>(hs.2 b n).trans e
  have M:Mv No fr ρ ρ s.heap h':=⟨fun _ q=>q.elim,fun b o e _=>⟨rfl,live_but hs l b ⟨o,e⟩,fun F=>k b o (fun q=>by subst q;rw[kL]at F;exact F fe) e⟩,fun _ _ q=>q⟩
  exact⟨M,R.mv (s':={s with heap:=h',toks:=t}) M (R.store.same M (fun i b o q e=>k b o (fun z=>by subst z;rw[kL]at q;exact q.elim Kd.noConfusion Kd.noConfusion) e) R.store.lt) (fun n=>live_but hs l _ (R.kl n)) rfl rfl⟩
end
theorem lookup_upd {x:Str} {v:V}:∀(vs:Vars) (y:Str),(vs.lookup x).isSome=true→(upd x v vs).lookup y=if y=x then some (some v)else vs.lookup y
  |[],y,h=>nomatch h
  | (z,w)::r,y,h=>by
    unfold upd
    by_cases hz:z=x
    · subst hz
      rw[beq_self_eq_true,cond_true,List.lookup_cons,List.lookup_cons]
      by_cases hy:y=z
      · subst hy;rw[beq_self_eq_true,if_pos rfl]
      · rw[beq_false_of_ne hy,if_neg hy]
    · rw[beq_false_of_ne hz,cond_false,List.lookup_cons,List.lookup_cons]
      rw[List.lookup_cons,beq_false_of_ne (Ne.symm hz)]at h
      by_cases hy:y=z
      · subst hy;rw[beq_self_eq_true,if_neg hz]
      · rw[beq_false_of_ne hy];exact lookup_upd r y h
section
variable {prog:Program} {w:World} {A:Around} {E:Value→Shared→Prop} {K:Ctx0} {C:Cx} {env:Env} {st:St} {ρ:Rho} {s:Shared} {x:Str} {v:V} {val:Value} {Q:Unit→Shared→Prop}
theorem OR.some {h:Heap} (r:VR K h ρ v val) (n:v.fl?=none):OR K h ρ (some v) (some val):=⟨val,rfl,r,n⟩
theorem OR.at {h:Heap} {ov:Option V} {w w':Option Value} (e:w=w') (r:OR K h ρ ov w'):OR K h ρ ov w:=e ▸ r
theorem upd_at {y:Str} {ov:Option V} (hin:(st.vars.lookup x).isSome=true) (hy:(upd x v st.vars).lookup y=Option.some ov):(y=x∧ov=v)∨(y≠x∧st.vars.lookup y=Option.some ov):=by
  rw[lookup_upd st.vars y hin]at hy
  by_cases e:y=x
  · rw[if_pos e]at hy;exact .inl ⟨e,(Option.some.inj hy).symm⟩
  · rw[if_neg e]at hy;exact .inr ⟨e,hy⟩
theorem wp_storeVar (O:EnvOK K C env) (R:Rel K C env st ρ s) (hk:C.sc.names.lookup x=some .local∨C.sc.names.lookup x=some .cell) (hin:(st.vars.lookup x).isSome=true)
    (r:VR K s.heap ρ v val) (nf:v.fl?=none) (h:∀s',Step K C env ⟨upd x v st.vars,st.objs⟩ No ρ s ρ s'→Q () s'):wpAny (model prog w) A (storeName env x val) Q E s:=by
  obtain⟨m,hn,hv⟩:=R.f.vars
  have nk:∀{x c},env.cells.lookup x=Option.some c→c≠env.locals:=fun hc e=>by
    obtain⟨-,w,o,ho,hd⟩:=R.f.cel hc
    obtain⟨o',es,ep,ho',hd',-⟩:=hn
    rw[e,ho']at ho;cases ho;rw[hd']at hd;cases hd
  rcases hk with hk |hk
  · refine wpAny_storeName_local (O.kd hk nofun) hn (fun h' hn' hs=>h _ ?_) (by rw[O.kind];rfl)
    obtain⟨M,W⟩:=R.w.frame (t:=s.toks+1) R.f.loc (fr:=Fe C env) (.inl rfl) hs (let⟨o,_,_,e,_⟩:=hn';⟨o,e⟩)
    refine⟨⟨W,R.f.loc,⟨_,hn',fun {y ov} hy=>?_⟩,fun hc=>⟨(R.f.cel hc).1,let⟨w,i⟩:=(R.f.cel hc).2;⟨w,i.sameBut hs (nk hc)⟩⟩⟩,M⟩
    rcases upd_at hin hy with⟨rfl,rfl⟩ | ⟨e,hy⟩
    · exact⟨fun _=>OR.at (if_pos rfl) (OR.some (r.mv0 M) nf),fun q=>by rw[hk]at q;exact q.elim nofun nofun⟩
    · have u:=(hv hy).mv M fun c w hc i=>i.sameBut hs (nk hc)
      exact⟨fun q=>OR.at (if_neg e) (u.1 q),u.2⟩
  · obtain⟨ov0,hov0⟩:=Option.isSome_iff_exists.mp hin
    obtain⟨c,w0,hc,hi,_⟩:=(hv hov0).2 (.inl hk)
    refine wpAny_storeName_cell O.kind (O.kd hk nofun) hc hi fun h' hi' hs=>h _ ?_
    obtain⟨M,W⟩:=R.w.frame (t:=s.toks) (R.f.cel hc).1 (fr:=Fe C env) (.inr ⟨x,hk,hc⟩) hs (let⟨o,e,_⟩:=hi';⟨o,e⟩)
    refine⟨⟨W,R.f.loc,⟨m,hn.sameBut hs (nk hc).symm,fun {y ov} hy=>?_⟩,fun {y c'} hy=>⟨(R.f.cel hy).1,?_⟩⟩,M⟩
    · rcases upd_at hin hy with⟨rfl,rfl⟩ | ⟨e,hy⟩
      · exact⟨fun q=>(by rw[hk]at q;cases q),fun _=>⟨c,_,hc,hi',OR.some (r.mv0 M) nf⟩⟩
      · exact(hv hy).mv M fun c' w hc' i=>i.sameBut hs fun q=>e (O.one (q ▸ hc') hc)
    · by_cases e:c'=c
      · exact⟨_,e ▸ hi'⟩
      · exact let⟨w,i⟩:=(R.f.cel hy).2;⟨w,i.sameBut hs e⟩
theorem wp_bindN {P:St→Prop} (O:EnvOK K C env) (R:Rel K C env st ρ s) (e:Hd (bindN C x v st) P) (r:VR K s.heap ρ v val)
    (h:∀st' ρ' s',P st'→Step K C env st' (Ow v val) ρ s ρ' s'→(∀b,Live s.heap b→Live s'.heap b)→Q () s'):wpAny (model prog w) A (storeName env x val) Q E s:=by
  refine e.g fun hk e=>e.g fun hin e=>?_
  have hk:C.sc.names.lookup x=some .local∨C.sc.names.lookup x=some .cell:=(Bool.or_eq_true _ _ ▸ hk:_∨_).imp of_decide_eq_true of_decide_eq_true
  have own:=fun b (q:Ow v val b)=>(r.own q).1
  have key:∀{st₁ u ρ₁},Step K C env st₁ (Ow v val) ρ s ρ₁ s→st₁.vars=st.vars→VR K s.heap ρ₁ u val→u.fl?=none→P ⟨upd x u st₁.vars,st₁.objs⟩→wpAny (model prog w) A (storeName env x val) Q E s:=fun S ev r n p=>
    wp_storeVar O S.rel hk (ev ▸ hin) r n fun s' S'=>h _ _ _ p (S.aft S') fun b l=>S'.mv.live l id
  cases v with
  | fl xs=>
    obtain⟨a,ea,r⟩:=r
    have sub:∀b,b=a→Ow (.fl xs) val b:=fun b q=>q ▸ ea
    refine Hd.bif e (fun _ p=>?_) fun _ p=>?_
    · obtain⟨S,q⟩:=R.promote r
      exact key (u:= .hl st.objs.length) (S.more own sub) rfl ⟨a,ea,q⟩ rfl p
    · obtain⟨S,q⟩:=R.drop r
      exact key (u:= .d (.list xs)) (S.more own sub) rfl (ea ▸ q) rfl p
  |_=>exact key (R.stay own) rfl r rfl e
end
end Mine
end
section
open PySem PySem.W PyProof.Rows
namespace Mine
structure EP (K:Ctx0) (C:Cx) (env:Env) (p:V×St) (ρ:Rho) (s:Shared) (val:Value) (ρ':Rho) (s':Shared):Prop where
  step:Step K C env p.2 No ρ s ρ' s'
  vr:VR K s'.heap ρ' p.1 val
  new:∀a,Ow p.1 val a→¬Live s.heap a
noncomputable def Post (K:Ctx0) (C:Cx) (env:Env) (P:V×St→Prop) (ρ:Rho) (s:Shared) (Q:Value→Shared→Prop):Prop:=∀p val ρ' s',P p→EP K C env p ρ s val ρ' s'→Q val s'
section
variable {K:Ctx0} {C:Cx} {env:Env} {st st₁:St} {P:V×St→Prop} {ρ ρ₁:Rho} {s s₁:Shared} {Q:Value→Shared→Prop} {v:V} {val:Value} {t:Nat}
theorem Post.aft (h:Post K C env P ρ s Q) (S:Step K C env st No ρ s ρ₁ s₁):Post K C env P ρ₁ s₁ Q:=fun p val ρ' s' e X=>h p val ρ' s' e ⟨S.aft X.step,X.vr,fun a o l=>X.new a o (S.mv.live l id)⟩
theorem Post.ep (h:Post K C env P ρ s Q) {p:V×St} {ρ' s'} (e:P p) (X:EP K C env p ρ s val ρ' s'):Q val s':=h _ _ _ _ e X
theorem Post.d (h:Post K C env P ρ s Q) (R:Rel K C env st ρ s) {x:PyData} (e:P (.d x,st)) (r:Rd (Fz s.heap ρ) x val):Q val {s with toks:=t}:=h.ep e ⟨R.tok t,r,fun _ q=>q.elim⟩
theorem Post.i (h:Post K C env P ρ s Q) (R:Rel K C env st ρ s) {i:Int} {u:Tok} (e:P (.d (.int i),st)):Q (.int i u) {s with toks:=t}:=h.d R e ⟨u,rfl⟩
theorem Post.x (h:Post K C env P ρ s Q) (R:Rel K C env st ρ s) {x:Str} {u:Tok} (e:P (.d (.str x),st)):Q (.str x u) {s with toks:=t}:=h.d R e ⟨u,rfl⟩
theorem Post.b (h:Post K C env P ρ s Q) (R:Rel K C env st ρ s) {b:Bool} (e:P (.d (.bool b),st)):Q (.bool b) {s with toks:=t}:=h.d R e rfl
theorem Post.go (h:Post K C env P ρ s Q) (R:Rel K C env st ρ s) {h':Heap} (hk:Up s.heap h') (e:P (v,st)) (r:VR K h' ρ v val) (n:v.fl?=none):Q val {s with heap:=h',toks:=t}:=
  h.ep e ⟨R.go hk,r,by cases v<;>first |exact fun _ q=>q.elim |cases n⟩
theorem Post.l (h:Post K C env P ρ s Q) (R:Rel K C env st ρ s) {a:Addr} {h':Heap} {xs:List PyData} {items:Array Value} {n:Nat} (ha:¬Live s.heap a) (hk:Up s.heap h') (g:h'.get? a=some (lObj items n)) (e:P (.fl xs,st)) (d:Rds (Fz h' (ρ.set a .hid)) xs items.toList):Q (.ref a) {s with heap:=h',toks:=t}:=
  h.ep e ⟨R.hide ha hk ⟨_,g⟩,⟨a,rfl,set_self,g,d⟩,fun b q=>(Value.ref.inj q:a=b) ▸ ha⟩
theorem Post.new (h:Post K C env P ρ s Q) (R:Rel K C env st ρ s) {xs:List PyData} {items:Array Value} {n:Nat} (e:P (.fl xs,st)) (d:Rds (Fz s.heap ρ) xs items.toList):Q (.ref s.heap.objs.size) {s with heap:=s.heap.push (lObj items n),toks:=t}:=
  h.l R not_live_size (.push _) (Heap.get?_push_size _ rfl) e (d.mono fun f=>⟨(set_ne fun q=>not_live_size ⟨_,q ▸ f.2⟩).trans f.1,Up.push _ _ _ f.2⟩)
end
section
variable {K:Ctx0} {h:Heap} {ρ:Rho} {v:V} {val:Value} {R:Value→Prop} {T:Prop}
theorem Hd.dat {α:Type} {f:PyData→Option α} {P:α→Prop} (e:Hd (v.dat.bind f) P) (r:VR K h ρ v val) (k:∀x,Hd (f x) P→Rd (Fz h ρ) x val→T):T:=by
  cases v with
  |d x=>exact k x e r
  |_=>exact e.elim
theorem Hd.rint {F:Addr→Obj→Prop} {x:PyData} {P:Int→Prop} (e:Hd (int? x) P) (r:Rd F x val) (k:∀i t,val= .int i t→P i→T):T:=by
  cases x with
  |int i=>exact let⟨t,q⟩:=r;k i t q e
  |_=>exact e.elim
theorem Hd.rstr {F:Addr→Obj→Prop} {x:PyData} {P:Str→Prop} (e:Hd (str? x) P) (r:Rd F x val) (k:∀i t,val= .str i t→P i→T):T:=by
  cases x with
  |str i=>exact let⟨t,q⟩:=r;k i t q e
  |_=>exact e.elim
theorem Hd.int {P:Int→Prop} (e:Hd (asI v) P) (r:VR K h ρ v val) (k:∀i t,val= .int i t→P i→T):T:=Hd.dat e r fun x e r=>e.rint r k
theorem Hd.str {P:Str→Prop} (e:Hd (asS v) P) (r:VR K h ρ v val) (k:∀i t,val= .str i t→P i→T):T:=Hd.dat e r fun x e r=>e.rstr r k
theorem Hd.bool {P:Bool→Prop} (e:Hd (asB v) P) (r:VR K h ρ v val) (k:∀i,val= .bool i→P i→T):T:=Hd.dat e r fun x e r=>by
  cases x with
  |bool i=>exact k i r e
  |_=>exact e.elim
theorem Hd.ty {P:String→Prop} (e:Hd v.ty? P) (r:VR K h ρ v val) (k:∀i,val= .type i→P i→T):T:=by
  cases v with
  |ty n=>exact k n r e
  |_=>exact e.elim
theorem none_or (r:VR K h ρ v val):(isNoneV v=true∧val= .none)∨(isNoneV v=false∧val≠ .none):=by
  cases v with
  | d x=>
    cases x with
    |none=>exact .inl ⟨rfl,r⟩
    |bool b=>exact .inr ⟨rfl,(r:val=_) ▸ nofun⟩
    |int b=>exact .inr ⟨rfl,let⟨_,r⟩:=r;r ▸ nofun⟩
    |str b=>exact .inr ⟨rfl,let⟨_,r⟩:=r;r ▸ nofun⟩
    |list b=>exact .inr ⟨rfl,let⟨r,_,_,_,_,_⟩:=(show LA _ _ _ _ from r);r ▸ nofun⟩
    |tuple b=>exact .inr ⟨rfl,let⟨r,_,_,_,_,_⟩:=(show LA _ _ _ _ from r);r ▸ nofun⟩
    |dict b=>exact .inr ⟨rfl,let⟨_,_,_,r,_⟩:=r;r ▸ nofun⟩
  |fl xs=>exact .inr ⟨rfl,let⟨_,r,_⟩:=r;r ▸ nofun⟩
  |hl xs=>exact .inr ⟨rfl,let⟨_,r,_⟩:=r;r ▸ nofun⟩
  |obj xs=>exact .inr ⟨rfl,let⟨_,r,_⟩:=r;r ▸ nofun⟩
  |ty n=>exact .inr ⟨rfl,(r:val=_) ▸ nofun⟩
  |pat n=>exact .inr ⟨rfl,(r:val=_) ▸ nofun⟩
  |rng a b c=>exact .inr ⟨rfl,let⟨_,_,_,_,r,_⟩:=r;r ▸ nofun⟩
  |tri a b c=>exact .inr ⟨rfl,let⟨_,_,_,_,_,r,_⟩:=r;r ▸ nofun⟩
inductive IsL (h:Heap) (ρ:Rho) (xs:List PyData) (v:Value):Prop where
  |mk {a:Addr} {o:Obj} {items:Array Value} {n:Nat} (e:v= .ref a) (g:h.get? a=some o) (c:o.cls= .type "list") (d:o.data= .seq items n) (r:Rds (Fz h ρ) xs items.toList):IsL h ρ xs v
theorem listAt_ok {i:Nat} {objs:Objs} {P:List PyData→Prop} (S:Store K h ρ objs) (e:Hd (listAt objs i) P) (k:∀a xs items n,P xs→At ρ i a→h.get? a=some (lObj items n)→Rds (Fz h ρ) xs items.toList→T):T:=
  e.b.get fun c hc e=>by
    obtain⟨a,q,r⟩:=S.ok hc
    cases c with
    |list xs=>exact let⟨items,n,g,d⟩:=r;k a xs items n e q g d
    |inst _=>exact e.elim
theorem Hd.list {objs:Objs} {P:List PyData→Prop} (S:Store K h ρ objs) (e:Hd (listOf objs v) P) (r:VR K h ρ v val) (k:∀xs,P xs→IsL h ρ xs val→T):T:=by
  cases v with
  | d x=>
    cases x with
    |list xs=>exact let⟨e',f,c,d,q,_⟩:=(show LA _ _ _ _ from r);k xs e ⟨e',f.2,c,d,q⟩
    |_=>exact e.elim
  |fl xs=>exact let⟨a,e',o⟩:=r;let⟨_,g,d⟩:=o;k xs e ⟨e',g,rfl,rfl,d⟩
  | hl i=>
    obtain⟨a,e',q⟩:=r
    exact listAt_ok S e.b.m fun a' xs items n e q' g d=>k xs e ⟨e',(q.1.symm.trans q'.1:a=a') ▸ g,rfl,rfl,d⟩
  |_=>exact e.elim
theorem Hd.reads {objs:Objs} {P:PyData→Prop} (S:Store K h ρ objs) (e:Hd (rd objs v) P) (r:VR K h ρ v val) (k:∀x as,P x→Reads h val x as→T):T:=by
  have ls:∀xs,P (.list xs)→IsL h ρ xs val→T:=fun xs e l=>by
    obtain⟨e',g,c,d,r⟩:=l
    obtain⟨as,r⟩:=r.reads And.right
    exact k (.list xs) _ e (e' ▸ Reads.list g c d r)
  cases v with
  |d x=>exact let⟨as,r⟩:=Rd.reads And.right r;k x as e r
  |fl xs=>exact let⟨a,e',o⟩:=r;let⟨_,g,d⟩:=o;ls xs e ⟨e',g,rfl,rfl,d⟩
  | hl i=>
    obtain⟨a,e',q⟩:=r
    exact listAt_ok S e.m fun a' xs items n e q' g d=>ls xs e ⟨e',(q.1.symm.trans q'.1:a=a') ▸ g,rfl,rfl,d⟩
  |_=>exact e.elim
end
theorem str_len (x:Str):x.length=(strL x).length:=by simp[strL,Str.length]
theorem mkS_strL (x:Str):mkS (strL x)=x:=by simp[mkS,strL]
theorem str_app (x y:Str):x++y=mkS (strL x++strL y):=by
  show Str.append x y=_
  simp[Str.append,mkS,strL]
theorem maxLen_le:maxLen≤sizeLine:=by decide
theorem i64_bits {x:Int} (h:i64 x=true):Builtin.Int.intBits x≤64:=by
  have:x.natAbs<18446744073709551616:=of_decide_eq_true h
  exact intBits_le_64 (by omega) (by omega)
section
variable {prog:Program} {w:World} {A:Around} {E:Value→Shared→Prop} {K:Ctx0} {C:Cx} {env:Env} {st:St} {P:V×St→Prop} {ρ:Rho} {s:Shared} {Q:Value→Shared→Prop} {a b:V} {va vb:Value}
theorem wp_add_str {x y:Str} {t u:Tok} (hl:(strL x).length+(strL y).length≤maxLen) (h:∀t' tk,Q (.str (mkS (strL x++strL y)) t') {s with toks:=tk}):wpAny (model prog w) A (binaryOp .Add (.str x t) (.str y u)) Q E s:=by
  rw[←str_app]at h
  have l0:∀{x:Str},(x.length==0)=true→strL x=[]:=fun hx=>List.eq_nil_of_length_eq_zero (str_len _ ▸ beq_iff_eq.mp hx)
  refine P.add_str (iteInduction (motive:=fun m=>Made.post m Q s) (fun hx=>?_) fun hx=>iteInduction (motive:=fun m=>Made.post m Q s) (fun hy=>?_) fun hy=>⟨?_,h _ _⟩)
  · have e:x++y=y:=by rw[str_app,l0 hx,List.nil_append,mkS_strL]
    exact e ▸ h u s.toks
  · have e:x++y=x:=by rw[str_app,l0 hy,List.append_nil,mkS_strL]
    exact e ▸ h t s.toks
  · rw[str_app]
    exact Nat.le_trans (Nat.le_of_eq (List.length_append (as:=strL x))) (Nat.le_trans hl maxLen_le)
theorem wp_add_list {xs ys:List PyData} (R:Rel K C env st ρ s) (ra:IsL s.heap ρ xs va) (rb:IsL s.heap ρ ys vb) (hl:xs.length+ys.length≤maxLen) (e:P (.fl (xs++ys),st)) (h:Post K C env P ρ s Q):wpAny (model prog w) A (binaryOp .Add va vb) Q E s:=by
  obtain @⟨l,⟨cls,dd,data,sl⟩,is,n,rfl,ho,hc,hd,r1⟩:=ra
  obtain @⟨l',⟨cls2,dd2,data2,sl2⟩,is',n2,rfl,ho2,hc2,hd2,r2⟩:=rb
  cases hc;cases hd;cases hc2;cases hd2
  exact concat_meets ⟨_,ho,rfl⟩ ⟨_,ho2,rfl⟩ noFill_list_add seq_list_add PySem.F.slot_list_add PySem.F.entry_list_add (PySem.F.args_list_add_2 _ _) (list_addW l l' is is' n n2 dd dd2 sl sl2 (by rw[r1.size,r2.size];exact Nat.le_trans hl maxLen_le))
    ⟨ho,ho2,h.new (t:=s.toks) R e (by rw[Array.toList_append];exact r1.app r2)⟩
theorem wp_addV (R:Rel K C env st ρ s) (e:Hd (addV st.objs a b) fun v=>P (v,st)) (ra:VR K s.heap ρ a va) (rb:VR K s.heap ρ b vb) (h:Post K C env P ρ s Q):wpAny (model prog w) A (binaryOp .Add va vb) Q E s:=
  e.el (fun e=>e.int ra fun x t q e=>Hd.int e.m rb fun y u q' e=>q ▸ q' ▸ PySem.P.add_int (Post.i h R e)) fun e=>
  e.el (fun e=>e.str ra fun x t q e=>Hd.str e.b rb fun y u q' e=>e.gd fun hl e=>q ▸ q' ▸ wp_add_str hl fun t' tk=>Post.x h R e) fun e=>
    Hd.list R.w.store e.b ra fun xs e l=>Hd.list R.w.store e.b rb fun ys e l'=>e.gd fun hl e=>wp_add_list R l l' hl e h
theorem foldl_app {α:Type} (xs:Array α):∀(n:Nat) (acc:Array α),((List.replicate n xs).foldl (·++·) acc).toList=acc.toList++(List.replicate n xs.toList).flatten
  |0,acc=>(List.append_nil _).symm
  |n+1,acc=>by rw[List.replicate_succ,List.foldl_cons,foldl_app xs n (acc++xs),List.replicate_succ,List.flatten_cons,Array.toList_append,List.append_assoc]
theorem Rds.rep {F:Addr→Obj→Prop} {xs:List PyData} {vs:List Value} (r:Rds F xs vs):∀n,Rds F (List.replicate n xs).flatten (List.replicate n vs).flatten
  |0=>rfl
  |n+1=>by rw[List.replicate_succ,List.replicate_succ,List.flatten_cons,List.flatten_cons];exact r.app (r.rep n)
theorem rep_ok {n:Int} {k:Nat} (h:repOk n k=true):0≤n∧n≤1000000∧k * n.toNat≤1000000:=let⟨a,b,c⟩:=of_decide_eq_true h;⟨a,b,Nat.mul_comm .. ▸ c⟩
theorem sizeLine_16:(1000000:Nat)≤sizeLine:=by decide
theorem wp_mul_str {x:Str} {n:Int} {t u:Tok} (hr:repOk n (strL x).length=true) (h:∀t' tk,Q (.str (mkS (repL n (strL x))) t') {s with toks:=tk}):wpAny (model prog w) A (binaryOp .Mult (.str x t) (.int n u)) Q E s:=by
  obtain⟨h0,h1,h2⟩:=rep_ok hr
  have hl:x.length=(strL x).length:=str_len x
  have e {l:List Nat} (q:repL n (strL x)=l) (t') (tk):Q (.str (mkS l) t') {s with toks:=tk}:=q ▸ h t' tk
  refine P.mul_str (by rw[decide_eq_false (by omega),decide_eq_false (by omega)];rfl) (fun h3 _=>?_) (fun _ _=>?_) ?_
  · rw[hl]
    have hq:((strL x).length:Int)≤1000000:=Int.ofNat_le.mpr (Nat.le_trans (Nat.le_mul_of_pos_right _ (by omega)) h2)
    have h4:(1000000:Int)≤(2 ^ 63 - 1) / n:=(Int.le_ediv_iff_mul_le (by omega)).mpr (by omega)
    exact Int.not_lt.mpr (Int.le_trans hq h4)
  · rw[hl];exact decide_eq_false (Nat.not_lt.mpr (Nat.le_trans h2 sizeLine_16))
  · refine iteInduction (motive:=fun m=>Made.post m Q s) (fun hn=>?_) fun hn=>iteInduction (motive:=fun m=>Made.post m Q s) (fun hq=>?_) fun hq=>⟨?_,?_⟩
    · exact⟨by decide,e (l:=[]) (by unfold repL;rw[show n.toNat=0 by omega];rfl) _ _⟩
    · refine(mkS_strL x) ▸ e (l:=strL x) ?_ t s.toks
      unfold repL
      rcases(Bool.or_eq_true _ _ ▸ hq:_∨_)with q |q
      · rw[show n.toNat=1 by rw[eq_of_beq q];rfl];exact List.append_nil _
      · have q:strL x=[]:=List.eq_nil_of_length_eq_zero (hl ▸ eq_of_beq q)
        rw[q]
        exact List.flatten_eq_nil_iff.mpr fun l hl=>List.eq_of_mem_replicate hl
    · show((List.replicate n.toNat x.cps).foldl (·++·) #[]).size≤sizeLine
      rw[←Array.length_toList,foldl_app]
      show((List.replicate n.toNat (strL x)).flatten).length≤_
      rw[List.length_flatten,List.map_replicate,List.sum_replicate_nat]
      exact Nat.le_trans (Nat.mul_comm .. ▸ h2) sizeLine_16
    · have q:mkS (repL n (strL x))=⟨(List.replicate n.toNat x.cps).foldl (·++·) #[]⟩:=congrArg Str.mk (Array.toList_inj.mp (foldl_app x.cps n.toNat #[]).symm)
      exact q ▸ h _ _
theorem wp_mul_list {xs:List PyData} {n:Int} {u:Tok} {l:Addr} (R:Rel K C env st ρ s) (ra:Own s.heap ρ l xs) (hr:repOk n xs.length=true) (e:P (.fl (repL n xs),st)) (h:Post K C env P ρ s Q):wpAny (model prog w) A (binaryOp .Mult (.ref l) (.int n u)) Q E s:=by
  obtain⟨h0,h1,h2⟩:=rep_ok hr
  obtain @⟨is,k,-,g,r⟩:=ra
  have hz:=r.size
  refine wpAny_binaryOp_repeat_ref (T:="list") (U:="int") (by decide) ⟨_,g,rfl⟩ (fun s'=>typeIs_int s' n u) noFill_list_mul PySem.F.fills_int_mul PySem.F.slot_int_rmul repeat_list PySem.F.slot_int_index.lookup
    (call_meets PySem.F.slot_int_rmul (typeIs_int s n u) PySem.F.entry_int_rmul (PySem.F.args_int_rmul_2 _ _) (int___rmul___int_list n u l is k)
      ⟨g,rfl,⟨_,g,rfl⟩,call_meets PySem.F.slot_list_mul ⟨_,g,rfl⟩ PySem.F.entry_list_mul (PySem.F.args_list_mul_2 _ _) (AutoListH.list___mul___list_int_3 l is k n u ?_ ?_ ?_) ⟨g,h.new (t:=s.toks) R e ?_⟩⟩)
  · rw[show Builtin.List.listFitsIndex n=true by unfold Builtin.List.listFitsIndex;simp;omega];exact Bool.false_ne_true
  · rw[hz];omega
  · rw[hz];unfold Builtin.List.listTooLong;exact Bool.eq_false_iff.mp (decide_eq_false (Nat.not_lt.mpr (Nat.le_trans h2 (by decide))))
  · refine iteInduction (motive:=fun m=>Rds (Fz s.heap ρ) (repL n xs) ((List.replicate m is).foldl (fun x1 x2=>x1++x2) #[]).toList) (fun hi=>?_) fun hi=>?_
    · have hx:xs=[]:=List.eq_nil_of_length_eq_zero (hz.symm.trans (Array.size_eq_zero_iff.mpr (Array.isEmpty_iff.mp hi)))
      have hv:repL n xs=[]:=by unfold repL;rw[hx];exact List.flatten_eq_nil_iff.mpr fun l hl=>List.eq_of_mem_replicate hl
      rw[hv];rfl
    · rw[foldl_app];exact r.rep _
theorem wp_mulV (R:Rel K C env st ρ s) (e:Hd (mulV a b) fun v=>P (v,st)) (ra:VR K s.heap ρ a va) (rb:VR K s.heap ρ b vb) (h:Post K C env P ρ s Q):wpAny (model prog w) A (binaryOp .Mult va vb) Q E s:=
  Hd.int e.b rb fun n u q' e=>e.el (fun e=>e.int ra fun x t q e=>q ▸ q' ▸ (show Hd (gd (i64 x||i64 n) (some (x * n))) fun z=>P (.d (.int z),st)from e.m).g fun z e=>PySem.P.mul_int (Post.i h R e) ((Bool.or_eq_true _ _ ▸ z:_∨_).elim (fun q=> .of_left (i64_bits q)) fun q=> .of_right (i64_bits q))) fun e=>
  e.el (fun e=>e.str ra fun x t q e=>e.g fun hl e=>q ▸ q' ▸ wp_mul_str hl fun t' tk=>Post.x h R e) fun e=>
    e.b.get fun xs hx e2=>by
      cases a with
      |fl ys=>exact let⟨l,q,o⟩:=ra;q ▸ q' ▸ e2.g fun hl e=>wp_mul_list R ((Option.some.inj hx:ys=xs) ▸ o) hl e h
      |_=>cases hx
theorem wp_binop {op:Operator} (R:Rel K C env st ρ s) (e:Hd (binop st.objs op a b) fun v=>P (v,st)) (ra:VR K s.heap ρ a va) (rb:VR K s.heap ρ b vb) (h:Post K C env P ρ s Q):wpAny (model prog w) A (binaryOp op va vb) Q E s:=by
  have I:∀{op},isAdd op=false→isMult op=false→Hd (binop st.objs op a b) (fun v=>P (v,st))→(∀x y t u,Hd (binI op x y) (fun z=>∀t tk,Q (.int z t) {s with toks:=tk})→wpAny (model prog w) A (binaryOp op (.int x t) (.int y u)) Q E s)→wpAny (model prog w) A (binaryOp op va vb) Q E s:=
    fun {op} hn hm e k=>e.bif (fun q=>absurd q (hn ▸ nofun)) fun _ e=>e.bif (fun q=>absurd q (hm ▸ nofun)) fun _ e=>Hd.int e.b ra fun x t q e=>Hd.int e.b rb fun y u q' e=>q ▸ q' ▸ k x y t u (e.m.get fun z hz e=> .of hz fun t tk=>Post.i h R e)
  cases op with
  |Add=>exact wp_addV R e ra rb h
  |Sub=>exact I rfl rfl e fun x y t u e=>PySem.P.sub_int (e _ _)
  |Mult=>exact wp_mulV R e ra rb h
  |FloorDiv=>exact I rfl rfl e fun x y t u e=>e.gd fun q e=>floordiv_int q.1 (e _ _) (.inl (PyProof.noPylong_small q.2))
  |Mod=>exact I rfl rfl e fun x y t u e=>e.gd fun q e=>mod_int' q (e _ _)
  |Pow=>exact I rfl rfl e fun x y t u e=>e.gd fun q e=>e.g fun l e=>pow_int_small q.1 (by omega) (of_decide_eq_true l) (e _ _)
  |_=>exact I rfl rfl e fun x y t u e=>e.elim
end
end Mine
end
section
open PySem PySem.W PyProof.Rows
namespace Mine
structure AOK (A:Around) (n:Nat):Prop where
  hand:A.handled=none
  depth:A.depth+4 * n+20<1000
  units:A.units+8 * n+100<9900
theorem AOK.le {A n} (a:AOK A (n+1)):AOK A n:=⟨a.hand,by have:=a.depth;omega,by have:=a.units;omega⟩
theorem AOK.cLine {A n} (a:AOK A n) {k:Nat} (h:k≤60):A.units+k<PySem.cLine:=by have:=a.units;show _<9900;omega
theorem okD_lay {x:PyData} (h:okD x=true):x.canLay0=true∧x.depth≤20:=(Bool.and_eq_true _ _ ▸ h:_∧_).imp_right of_decide_eq_true
theorem okDs_lay:∀{xs:List PyData},okDs xs=true→PyData.canLayAll0 xs=true
  |[],_=>rfl
  | x::xs,h=>by
    rw[okDs,List.all_cons,Bool.and_eq_true]at h
    exact(Bool.and_eq_true _ _).symm ▸ ⟨(okD_lay h.1).1,okDs_lay h.2⟩
theorem type_beq {m n:String}:(Value.type m==Value.type n)=(m==n):=by simp[BEq.beq]
section
variable {prog:Program} {w:World} {A:Around} {E:Value→Shared→Prop} {K:Ctx0} {C:Cx} {env:Env} {st:St} {ρ:Rho} {s:Shared} {a b:V} {va vb:Value} {n:Nat}
section
variable {P:Bool→Prop} {Q:Value→Shared→Prop}
theorem wp_is (e:Hd (isOp a b) P) (ra:VR K s.heap ρ a va) (rb:VR K s.heap ρ b vb) (h:∀r,P r→Q (.bool r) s):wpAny (model prog w) A (compareOp .Is va vb) Q E s:=
  e.el (fun e=>e.ty rb fun n q e=>Hd.ty e.m ra fun m q' e=>q ▸ q' ▸ wpAny_is_plain rfl (type_beq ▸ h _ e)) fun e=>e.g fun hb e=>(none_or rb).elim (fun q=>(none_or ra).elim (fun q'=>by rw[q.2,q'.2];exact wpAny_is_self rfl (q'.1 ▸ h _ e)) fun q'=>q.2 ▸ is_none_ne q'.2 (q'.1 ▸ h _ e)) fun q=>absurd (hb.symm.trans q.1) nofun
theorem wp_isNot (e:Hd (isOp a b) P) (ra:VR K s.heap ρ a va) (rb:VR K s.heap ρ b vb) (h:∀r,P r→Q (.bool (!r)) s):wpAny (model prog w) A (compareOp .IsNot va vb) Q E s:=
  e.el (fun e=>e.ty rb fun n q e=>Hd.ty e.m ra fun m q' e=>q ▸ q' ▸ isnot_type (show Q (.bool (!(Value.type m==Value.type n))) s from type_beq ▸ h _ e)) fun e=>e.g fun hb e=>(none_or rb).elim (fun q=>(none_or ra).elim (fun q'=>by rw[q.2,q'.2];exact wpAny_isNot_self rfl (show Q (.bool !true) s from q'.1 ▸ h _ e)) fun q'=>q.2 ▸ isnot_none_ne q'.2 (show Q (.bool !false) s from q'.1 ▸ h _ e)) fun q=>absurd (hb.symm.trans q.1) nofun
theorem wp_eqOp {T:Prop} (S:Store K s.heap ρ st.objs) (e:Hd (eqOp st.objs a b) P) (ra:VR K s.heap ρ a va) (rb:VR K s.heap ρ b vb)
    (h0:∀x y t u,va= .str x t→vb= .str y u→P (strL x==strL y)→T) (h:∀x y as bs,Reads s.heap va x as→Reads s.heap vb y bs→okD x=true→okD y=true→P (PyData.eqv x y)→T):T:=
  e.el (fun e=>Hd.str e.b ra fun x t q e=>Hd.str e.m rb fun y u q' e=>h0 x y t u q q' e) fun e=>Hd.reads S e.b ra fun x as e r1=>Hd.reads S e.b rb fun y bs e r2=>e.g fun hk e=>(Bool.and_eq_true _ _ ▸ hk:_∧_).elim fun k1 k2=>h x y as bs r1 r2 k1 k2 e
theorem wp_inOp {neg:Bool} (hA:AOK A n) (S:Store K s.heap ρ st.objs) (e:Hd (inOp st.objs a b) P) (ra:VR K s.heap ρ a va) (rb:VR K s.heap ρ b vb) (h:∀r,P r→Q (.bool (bif neg then !r else r)) s):wpAny (model prog w) A (compareOp (bif neg then .NotIn else .In) va vb) Q E s:=
  e.el (fun e=>e.str rb fun y t q e=>Hd.str e.m ra fun x u q' e=>q ▸ q' ▸ (match neg,h with |true,h=>PySem.P.notIn_str (h _ e) |false,h=>PySem.P.in_str (h _ e))) fun e=>
    Hd.reads S e.b ra fun x as e r1=>Hd.list S e.b rb fun ys e l=>e.g fun hk e=>by
      obtain⟨rfl,g,c,d,r⟩:=l
      obtain⟨bs,r2⟩:=r.reads And.right
      obtain⟨k1,k2⟩:=Bool.and_eq_true _ _ ▸ hk
      have hm:1+min (PyData.depthAll ys) x.depth≤60:=by have:=Nat.min_le_right (PyData.depthAll ys) x.depth;have:=(okD_lay k1).2;omega
      have hu:A.units+1+min (PyData.depthAll ys) x.depth<PySem.cLine:=Nat.add_assoc .. ▸ hA.cLine hm
      cases neg with
      |true=>exact SeqAt.notIn_list_reads (.list g c d r2) r1 (okDs_lay k2) (okD_lay k1).1 hu (h _ e)
      |false=>exact SeqAt.in_list_reads (.list g c d r2) r1 (okDs_lay k2) (okD_lay k1).1 hu (h _ e)
theorem AOK.eq (hA:AOK A n) {x y:PyData} (hx:okD x=true):A.units+min x.depth y.depth<PySem.cLine:=hA.cLine (Nat.le_trans (Nat.min_le_left _ _) (Nat.le_trans (okD_lay hx).2 (by decide)))
theorem wp_cmp {op:CmpOp} (hA:AOK A n) (R:Rel K C env st ρ s) (e:Hd (cmpop st.objs op a b) P) (ra:VR K s.heap ρ a va) (rb:VR K s.heap ρ b vb) (h:∀r,P r→Q (.bool r) s):wpAny (model prog w) A (compareOp op va vb) Q E s:=by
  have I:∀{f:Int→Int→Option Bool} {op},Hd ((asI a).bind fun x=>(asI b).bind fun y=>f x y) P→(∀x y t u,Hd (f x y) P→wpAny (model prog w) A (compareOp op (.int x t) (.int y u)) Q E s)→wpAny (model prog w) A (compareOp op va vb) Q E s:=
    fun e k=>Hd.int e.b ra fun x t q e=>Hd.int e.b rb fun y u q' e=>q ▸ q' ▸ k x y t u e
  have S:=R.w.store
  cases op with
  |Is=>exact wp_is e ra rb h
  |IsNot=>exact wp_isNot e.m ra rb fun r q=>h _ q
  |Eq=>exact wp_eqOp S e ra rb (fun x y t u q q' e=>q ▸ q' ▸ PySem.P.eq_str (h _ e)) fun x y as bs r1 r2 k1 k2 e=>SeqAt.compareEq_reads r1 r2 (okD_lay k1).1 (okD_lay k2).1 (hA.eq k1) (h _ e)
  |NotEq=>exact wp_eqOp S e.m ra rb (fun x y t u q q' e=>q ▸ q' ▸ PySem.P.ne_str (h _ e)) fun x y as bs r1 r2 k1 k2 e=>SeqAt.compareNe_reads r1 r2 (okD_lay k1).1 (okD_lay k2).1 (hA.eq k1) (h _ e)
  |In=>exact wp_inOp (neg:=false) hA S e ra rb h
  |NotIn=>exact wp_inOp (neg:=true) hA S e.m ra rb fun r q=>h _ q
  |Lt=>exact I e fun x y t u e=>PySem.P.lt_int (h _ e)
  |LtE=>exact I e fun x y t u e=>PySem.P.le_int (h _ e)
  |Gt=>exact I e fun x y t u e=>PySem.P.gt_int (h _ e)
  |GtE=>exact I e fun x y t u e=>PySem.P.ge_int (h _ e)
end
theorem wp_truth {P:Bool→Prop} {Q:Bool→Shared→Prop} (R:Rel K C env st ρ s) (e:Hd (truthV st.objs a) P) (r:VR K s.heap ρ a va) (h:∀b s',P b→Step K C env st No ρ s ρ s'→Q b s'):wpAny (model prog w) A (truthy va) Q E s:=by
  have ht:∀{b c t},b=c→P b→Q c {s with toks:=t}:=fun q p=>q ▸ h _ _ p (R.tok _)
  refine e.el (fun e=>Hd.list R.w.store e r fun xs e l=>e.gd fun hl e=>?_) fun e=>e.dat r fun x e r=>?_
  · obtain⟨rfl,g,c,d,rr⟩:=l
    have hm:maxLen<2 ^ 63:=by decide
    have hs:=rr.size
    exact wpAny_truthy_list ⟨_,g,c,_,d⟩ (by omega) (ht (by rw[←hs,Bool.eq_iff_iff];simp[Array.isEmpty]) e)
  · cases x with
    |none=>exact(r:va=_) ▸ fun _ _ _=>ht (t:=s.toks) rfl e
    |bool b=>exact(r:va=_) ▸ wpAny_truthy_bool (ht (t:=s.toks) rfl e)
    |int i=>exact let⟨t,q⟩:=r;q ▸ PySem.P.truthy_int (ht (t:=s.toks) rfl e)
    | str x=>
      obtain⟨t,rfl⟩:=r
      refine Hd.gd e fun hl e=>?_
      have hm:maxLen<2 ^ 63:=by decide
      exact PySem.P.truthy_str (by rw[str_len];omega) (ht (by rw[str_len,Bool.eq_iff_iff];simp) e)
    |_=>exact e.elim
end
noncomputable def plainE:Expr→Bool
  | .Set .. =>false
  | .Starred .. =>false
  | .SetComp .. =>false
  | .DictComp .. =>false
  | .Call g _ _ _=>match g with
    | .Name x _=> !(x==("super":Str))
    |_=>true
  |_=>true
section
variable (prog:Program) (w:World) (K:Ctx0) (n:Nat) (C:Cx)
noncomputable def SE (f:Expr→St→Option (V×St)):Prop:=∀{e st P},Hd (f e st) P→plainE e=true∧∀{A s ρ env Q E},AOK A n→EnvOK K C env→Rel K C env st ρ s→Post K C env P ρ s Q→wpAny (model prog w) A (eval e env) Q E s
noncomputable def PostB (K:Ctx0) (C:Cx) (env:Env) (P:Bool×St→Prop) (ρ:Rho) (s:Shared) (Q:Bool→Shared→Prop):Prop:=∀p ρ' s',P p→Step K C env p.2 No ρ s ρ' s'→Q p.1 s'
noncomputable def ST (f:Expr→St→Option (Bool×St)):Prop:=∀{e st P},Hd (f e st) P→∀{A s ρ env Q E},AOK A n→EnvOK K C env→Rel K C env st ρ s→PostB K C env P ρ s Q→wpAny (model prog w) A (isTrue e env (eval e env)) Q E s
end
section
variable {prog:Program} {w:World} {A:Around} {E:Value→Shared→Prop} {K:Ctx0} {C:Cx} {env:Env} {st st₁:St} {ρ ρ₁:Rho} {s s₁:Shared} {a b:V} {va vb:Value} {n:Nat} {f:Expr→St→Option (V×St)} {t:Expr→St→Option (Bool×St)} {P:Bool×St→Prop}
theorem PostB.aft {Q} (h:PostB K C env P ρ s Q) (S:Step K C env st No ρ s ρ₁ s₁):PostB K C env P ρ₁ s₁ Q:=fun p ρ' s' e X=>h p ρ' s' e (S.aft X)
theorem notMarked {op e} (h:plainE e=true):behindInMarks op e=false:=by
  cases e<;>first |rfl |cases h
theorem EP.vr0 {p val} (X:EP K C env p ρ s val ρ₁ s₁) {v u} (r:VR K s.heap ρ v u):VR K s₁.heap ρ₁ v u:=r.mv0 X.step.mv
theorem wp_chain (IE:SE prog w K n C f) {pos:Pos} (hA:AOK A n) (O:EnvOK K C env):∀(ops:List CmpOp) (es:List Expr) {a st s ρ va},Hd (evChain f a ops es st) P→Rel K C env st ρ s→VR K s.heap ρ a va→
    (∀{Q:Value→Shared→Prop},PostB K C env P ρ s (fun b=>Q (.bool b))→wpAny (model prog w) A (compareChain pos va ops (markedEach ops es (evalEach es env))) Q E s)∧
    (∀{Q:Bool→Shared→Prop},PostB K C env P ρ s Q→wpAny (model prog w) A (testChain pos va ops (markedEach ops es (evalEach es env))) Q E s)
  |[],es,_,_,_,_,_,e,_,_=>by cases es<;>exact e.elim
  |op::_,[],_,_,_,_,_,e,_,_=>e.elim
  | [op],[x],a,st,s,ρ,va,e,R,ra=>by
    have I:=IE e.b
    have hm:markedEach [op] [x] (evalEach [x] env)=[eval x env]:=congrArg (fun x=>[x]) (markedBehindIn_of_false (notMarked I.1))
    rw[hm]
    exact⟨fun hQ=>wpAny_bind (wpAny_holding (I.2 hA O R fun p val ρ₁ s₁ e X=>wpAny_bind (wpAny_standAt (wpAny_operate' (wp_cmp hA X.step.rel (Hd.b e) (X.vr0 ra) X.vr fun r e=>hQ _ _ _ e X.step))))),
      fun hQ=>wpAny_bind (wpAny_holding (I.2 hA O R fun p val ρ₁ s₁ e X=>wpAny_bind (wpAny_standAt (wpAny_bind (wpAny_operate' (wp_cmp hA X.step.rel (Hd.b e) (X.vr0 ra) X.vr fun r e=>wpAny_holding (wpAny_truthy_bool (hQ _ _ _ e X.step))))))))⟩
  |[op],_::_::_,_,_,_,_,_,e,_,_=>e.b.get fun _ _ e=>(Hd.b e).get fun _ _ e=>e.elim
  |op::_::_,[x],_,_,_,_,_,e,_,_=>e.b.get fun _ _ e=>(Hd.b e).get fun _ _ e=>e.elim
  | op::op2::ops,x::y::es,a,st,s,ρ,va,e,R,ra=>by
    have I:=IE e.b
    refine⟨fun hQ=>wpAny_bind (wpAny_holding (I.2 hA O R fun p val ρ₁ s₁ e X=>wpAny_bind (wpAny_standAt (wpAny_bind (wpAny_holding (wp_cmp hA X.step.rel (Hd.b e) (X.vr0 ra) X.vr fun r e=>wpAny_bind (wpAny_release' (wpAny_bind (wpAny_holding (wpAny_truthy_bool ?_)))))))))),
      fun hQ=>wpAny_bind (wpAny_holding (I.2 hA O R fun p val ρ₁ s₁ e X=>wpAny_bind (wpAny_standAt (wpAny_bind (wpAny_holding (wp_cmp hA X.step.rel (Hd.b e) (X.vr0 ra) X.vr fun r e=>wpAny_bind (wpAny_release' (wpAny_bind (wpAny_holding (wpAny_truthy_bool ?_))))))))))⟩
    · cases r with
      |true=>exact(wp_chain IE hA O (op2::ops) (y::es) e X.step.rel X.vr).1 (hQ.aft X.step)
      |false=>exact wpAny_pure (hQ _ _ _ e X.step)
    · cases r with
      |true=>exact(wp_chain IE hA O (op2::ops) (y::es) e X.step.rel X.vr).2 (hQ.aft X.step)
      |false=>exact wpAny_pure (hQ _ _ _ e X.step)
theorem wp_and (IT:ST prog w K n C t) (hA:AOK A n) (O:EnvOK K C env):∀(es:List Expr) {st s ρ Q},Hd (evAnd t es st) P→Rel K C env st ρ s→PostB K C env P ρ s Q→wpAny (model prog w) A (allTrue .And es env) Q E s
  |[],_,_,_,_,e,R,h=>wpAny_allTrue_And_nil (h _ _ _ e R.at0)
  | x::es,_,_,_,_,e,R,h=>wpAny_allTrue_And_cons (IT e.b hA O R fun p ρ₁ s₁ e S=>Hd.bif e (fun q e=>Eq.mpr (if_pos q) (wp_and IT hA O es e S.rel (h.aft S)))
    fun q e=>Eq.mpr (if_neg (q ▸ nofun)) (q ▸ h (false,p.2) _ _ e S))
theorem wp_or (IT:ST prog w K n C t) (hA:AOK A n) (O:EnvOK K C env):∀(es:List Expr) {st s ρ Q},Hd (evOr t es st) P→Rel K C env st ρ s→PostB K C env P ρ s Q→wpAny (model prog w) A (allTrue .Or es env) Q E s
  |[],_,_,_,_,e,R,h=>wpAny_allTrue_Or_nil (h _ _ _ e R.at0)
  | x::es,_,_,_,_,e,R,h=>wpAny_allTrue_Or_cons (IT e.b hA O R fun p ρ₁ s₁ e S=>Hd.bif e (fun q e=>Eq.mpr (if_pos q) (q ▸ h (true,p.2) _ _ e S))
    fun q e=>Eq.mpr (if_neg (q ▸ nofun)) (wp_or IT hA O es e S.rel (h.aft S)))
end
end Mine
end
section
open PySem PySem.W PyProof.Rows
namespace Mine
section
variable {prog:Program} {w:World} {A:Around} {E:Value→Shared→Prop} {K:Ctx0} {C:Cx} {env:Env} {st st₁:St} {ρ ρ₁:Rho} {s s₁:Shared} {a b:V} {va vb:Value} {n:Nat} {f:Fs} {P:V×St→Prop} {Q:Value→Shared→Prop} {pos:Pos}
theorem wp_tstV {e:Expr} {P:Bool×St→Prop} {Q:Bool→Shared→Prop} (IE:SE prog w K n C (f.ev C)) (h:Hd (tstV f C e st) P) (hA:AOK A n) (O:EnvOK K C env) (R:Rel K C env st ρ s) (hQ:PostB K C env P ρ s Q):
    wpAny (model prog w) A (do let v←eval e env;standAt e.pos;holding [v] (truthy v)) Q E s:=
  wpAny_bind ((IE h.b).2 hA O R fun p val ρ₁ s₁ h X=>wpAny_bind (wpAny_standAt (wpAny_holding (wp_truth X.step.rel (Hd.m h) X.vr fun b s' h S=>hQ _ _ _ h (X.step.aft S)))))
theorem tst_step (IE:SE prog w K n C (f.ev C)) (IT:ST prog w K n C (f.tst C)):ST prog w K (n+1) C (tstS f C):=by
  intro e st P h A s ρ env Q E hA O R hQ
  have hA:=hA.le
  cases e with
  | UnaryOp op x pos=>
    cases op with
    |Not=>exact wpAny_isTrue_Not (IT (Hd.m h) hA O R fun p ρ₁ s₁ h S=>hQ _ _ _ h S)
    |_=>exact wp_tstV IE h hA O R hQ
  | BoolOp op es pos=>
    cases op with
    |And=>exact wpAny_isTrue_BoolOp (wp_and IT hA O es h R hQ)
    |Or=>exact wpAny_isTrue_BoolOp (wp_or IT hA O es h R hQ)
  | Compare l ops es pos=>
    rw[arm_isTrue_Compare]
    exact wpAny_bind ((IE (Hd.b h)).2 hA O R fun p val ρ₁ s₁ h X=>(wp_chain IE hA O ops es h X.step.rel X.vr).2 (hQ.aft X.step))
  |IfExp _ _ _ _=>exact h.elim
  |_=>exact wp_tstV IE h hA O R hQ
end
noncomputable def Ows:List V→List Value→Addr→Prop
  |v::vs,u::us,a=>Ow v u a∨Ows vs us a
  |_,_,_=>False
inductive VC (K:Ctx0) (h:Heap) (ρ:Rho) (v:V) (vs:List V) (r:List Value→Prop) (vals:List Value):Prop where
  |mk {u:Value} {us:List Value} (e:vals=u::us) (a:VR K h ρ v u) (q:r us) (d:∀b,Ow v u b→¬Ows vs us b):VC K h ρ v vs r vals
noncomputable def VRs (K:Ctx0) (h:Heap) (ρ:Rho):List V→List Value→Prop
  |[],vals=>vals=[]
  |v::vs,vals=>VC K h ρ v vs (VRs K h ρ vs) vals
structure EPs (K:Ctx0) (C:Cx) (env:Env) (p:List V×St) (ρ:Rho) (s:Shared) (vals:List Value) (ρ':Rho) (s':Shared):Prop where
  step:Step K C env p.2 No ρ s ρ' s'
  vrs:VRs K s'.heap ρ' p.1 vals
  new:∀a,Ows p.1 vals a→¬Live s.heap a
noncomputable def PostL (K:Ctx0) (C:Cx) (env:Env) (P:List V×St→Prop) (ρ:Rho) (s:Shared) (Q:List Value→Shared→Prop):Prop:=∀p vals ρ' s',P p→EPs K C env p ρ s vals ρ' s'→Q vals s'
section
variable {prog:Program} {w:World} {A:Around} {E:Value→Shared→Prop} {K:Ctx0} {C:Cx} {env:Env} {st st₁:St} {ow fr:Addr→Prop} {ρ ρ₁ ρ₂:Rho} {h h':Heap} {s s₁ s₂:Shared} {n:Nat} {f:Expr→St→Option (V×St)} {pos:Pos} {vs:List V} {vals:List Value} {v:V} {val:Value} {T:Prop}
theorem VRs.mv (M:Mv ow fr ρ ρ₁ h h'):∀{vs vals},VRs K h ρ vs vals→(∀a,Ows vs vals a→¬ow a)→VRs K h' ρ₁ vs vals
  |[],_,r,_=>r
  | _::_,_,⟨e,a,q,d⟩,no=>by
    subst e
    exact⟨rfl,a.mv M fun b o=>no b (.inl o),VRs.mv M q fun b o=>no b (.inr o),d⟩
theorem VRs.own:∀{vs vals},VRs K h ρ vs vals→∀{b},Ows vs vals b→ρ.k b= .hid∧Live h b
  |[],_,_,_,o=>o.elim
  | _::_,_,⟨e,a,q,d⟩,b,o=>by
    subst e
    exact o.elim a.own (VRs.own q)
theorem VRs.len:∀{vs vals},VRs K h ρ vs vals→vals.length=vs.length
  |[],_,e=>congrArg _ e
  |_::_,_,⟨e,a,q,d⟩=>e ▸ congrArg Nat.succ q.len
theorem EP.cons {p:V×St} {q:List V×St} (X:EP K C env p ρ s val ρ₁ s₁) (Y:EPs K C env q ρ₁ s₁ vals ρ₂ s₂):EPs K C env (p.1::q.1,q.2) ρ s (val::vals) ρ₂ s₂:=
  ⟨X.step.aft Y.step,⟨rfl,X.vr.mv0 Y.step.mv,Y.vrs,fun b o o'=>Y.new b o' (X.vr.own o).2⟩,fun b o l=>o.elim (fun o=>X.new b o l) fun o=>Y.new b o (X.step.mv.live l id)⟩
theorem Rel.nils (R:Rel K C env st ρ s):EPs K C env ([],st) ρ s [] ρ s:=⟨R.at0,rfl,fun _ o=>o.elim⟩
theorem starEach_of {e rest env} (h:plainE e=true):starEach (e::rest) env=(false,eval e env)::starEach rest env:=by
  cases e<;>first |rfl |cases h
theorem wp_evs (IE:SE prog w K n C f) (hA:AOK A n) (O:EnvOK K C env):∀(es:List Expr) {st s ρ P Q},Hd (evs f es st) P→Rel K C env st ρ s→PostL K C env P ρ s Q→wpAny (model prog w) A (spliced (backTo pos (starEach es env))) Q E s
  |[],_,_,_,_,_,e,R,h=>wpAny_items_nil (h _ _ _ _ e R.nils)
  |x::es,_,_,_,_,_,e,R,h=>wpAny_items_cons ((IE e.b).2 hA O R fun p val ρ₁ s₁ e X=>wp_evs IE hA O es (Hd.m e) X.step.rel fun q vals ρ₂ s₂ e Y=>h _ _ _ _ e (X.cons Y)) (starEach_of (IE e.b).1)
theorem Hd.data {P:PyData→Prop} (e:Hd (rd0 v) P) (R:Rel K C env st ρ s) (r:VR K s.heap ρ v val) (k:∀x ρ₁,P x→Step K C env st (Ow v val) ρ s ρ₁ s→Rd (Fz s.heap ρ₁) x val→T):T:=by
  cases v with
  |d x=>exact k x ρ e (R.stay fun _ q=>q.elim) r
  | fl xs=>
    obtain⟨a,rfl,o⟩:=r
    obtain⟨S,q⟩:=R.drop o
    exact k _ _ e (S.more (fun b q=>(VR.own (K:=K) (v:= .fl xs) ⟨a,rfl,o⟩ q).1) fun b q=>congrArg _ q.symm) q
  |_=>exact e.elim
theorem Hd.datas:∀{vs:List V} {vals:List Value} {ρ:Rho} {P:List PyData→Prop},Hd (rd0s vs) P→Rel K C env st ρ s→VRs K s.heap ρ vs vals→(∀xs ρ₁,P xs→Step K C env st (Ows vs vals) ρ s ρ₁ s→Rds (Fz s.heap ρ₁) xs vals→T)→T
  |[],_,ρ,_,e,R,r,k=>k [] ρ e (R.stay fun _ q=>q.elim) r
  | v ::vs,_,ρ,_,e,R,r,k=>by
    have ow:=fun b (o:Ows _ _ b)=>(VRs.own r o).1
    obtain⟨rfl,a,q,d⟩:=r
    exact Hd.data (Hd.b e) R a fun x ρ₁ e S dx=>Hd.datas (Hd.m e) S.rel (q.mv S.mv fun b o o'=>d b o' o) fun xs ρ₂ e S' ds=>
      k (x::xs) ρ₂ e ((S.more ow fun _=> .inl).trans S' fun _ _=> .inr) (.cons (dx.mono S'.mv.fz) ds)
theorem EPs.data {p:List V×St} {P:List PyData→Prop} (X:EPs K C env p ρ s vals ρ₁ s₁) (e:Hd (rd0s p.1) P) (k:∀xs ρ₂,P xs→Step K C env p.2 No ρ s ρ₂ s₁→Rds (Fz s₁.heap ρ₂) xs vals→T):T:=
  Hd.datas e X.step.rel X.vrs fun xs ρ₂ e S d=>k xs ρ₂ e (X.step.trans S fun b l o=>(X.new b o l).elim) d
theorem EP.data {p:V×St} {P:PyData→Prop} (X:EP K C env p ρ s val ρ₁ s₁) (e:Hd (rd0 p.1) P) (k:∀x ρ₂,P x→Step K C env p.2 No ρ s ρ₂ s₁→Rd (Fz s₁.heap ρ₂) x val→T):T:=
  Hd.data e X.step.rel X.vr fun xs ρ₂ e S d=>k xs ρ₂ e (X.step.trans S fun b l o=>(X.new b o l).elim) d
end
noncomputable def tObj (vs:List Value):Obj:={cls:= .type "tuple",data:= .seq vs.toArray}
section
variable {prog:Program} {w:World} {A:Around} {E:Value→Shared→Prop} {K:Ctx0} {C:Cx} {env:Env} {st st₁:St} {ρ ρ₁:Rho} {s s₁:Shared} {v:V} {vo:Value} {n:Nat} {f:Fs} {P:V×St→Prop} {Q:Value→Shared→Prop} {pos:Pos}
theorem Post.t (h:Post K C env P ρ s Q) (R:Rel K C env st ρ s) {xs:List PyData} {vals:List Value} {t:Nat} (e:P (.d (.tuple xs),st)) (d:Rds (Fz s.heap ρ) xs vals):Q (.ref s.heap.objs.size) {s with heap:=s.heap.push (tObj vals),toks:=t}:=
  h.go R (.push _) e (LA.mk rfl ⟨R.w.new not_live_size,Heap.get?_push_size _ rfl⟩ rfl rfl (d.mono fun f=>⟨f.1,Up.push _ _ _ f.2⟩) rfl) rfl
theorem triV_ex {vs:List V} {v:V} (h:triV vs=some v):∃i x j,vs=[.obj i,.d x,.hl j]∧v= .tri i x j:=by
  unfold triV at h
  split at h
  · exact⟨_,_,_,rfl,(Option.some.inj h).symm⟩
  · cases h
theorem Post.tri (h:Post K C env P ρ s Q) (R:Rel K C env st ρ s) {vs:List V} {vals:List Value} {t:Nat} {v:V} (q:triV vs=some v) (rs:VRs K s.heap ρ vs vals) (e:P (v,st)):Q (.ref s.heap.objs.size) {s with heap:=s.heap.push (tObj vals),toks:=t}:=by
  obtain⟨i,x,j,rfl,rfl⟩:=triV_ex q
  obtain⟨rfl,⟨b,rfl,hb⟩,⟨rfl,hx,⟨rfl,⟨c,rfl,hc⟩,rfl,-⟩,-⟩,-⟩:=rs
  exact h.go R (.push _) e ⟨_,_,b,c,0,rfl,⟨R.w.new not_live_size,Heap.get?_push_size _ rfl⟩,hb,Rd.mono (fun f=>⟨f.1,Up.push _ _ _ f.2⟩) hx,hc⟩ rfl
theorem wp_Tuple {es:List Expr} {k:Nat} (IE:SE prog w K n C (f.ev C)) (e:Hd (evTup f C es st) P) (hA:AOK A n) (O:EnvOK K C env) (R:Rel K C env st ρ s) (h:Post K C env P ρ s Q):wpAny (model prog w) A (eval (.Tuple es k pos) env) Q E s:=
  wpAny_Tuple (wp_evs IE hA O es e.b R fun p vals ρ₁ s₁ e X=>Hd.gd e fun hl e=>e.el' (fun v q e=>⟨X.vrs.len ▸ Nat.le_trans hl maxLen_le,(h.aft X.step).tri (t:=s₁.toks) X.step.rel q X.vrs e⟩) fun _ e=>X.data (Hd.m e) fun xs ρ₂ e S d=>⟨X.vrs.len ▸ Nat.le_trans hl maxLen_le,(h.aft S).t (t:=s₁.toks) S.rel e d⟩)
theorem wp_List {es:List Expr} (IE:SE prog w K n C (f.ev C)) (e:Hd (evList f C es st) P) (hA:AOK A n) (O:EnvOK K C env) (R:Rel K C env st ρ s) (h:Post K C env P ρ s Q):wpAny (model prog w) A (eval (.List es pos) env) Q E s:=
  wpAny_List (wp_evs IE hA O es e.b R fun p vals ρ₁ s₁ e X=>Hd.gd e fun hl e=>X.data (Hd.m e) fun xs ρ₂ e S d=>⟨X.vrs.len ▸ Nat.le_trans hl maxLen_le,(h.aft S).new (n:=0) (t:=s₁.toks) S.rel e d⟩)
structure IX (i:Int) (n k:Nat):Prop where
  le:n≤maxLen
  seq:seqIndex? i n=some k
  lt:k<n
  pos:0≤i→i=k
  neg:i<0→i+n=k
theorem Hd.idx {i:Int} {n:Nat} {P:Nat→Prop} {T:Prop} (e:Hd (idx? i n) P) (k:∀k,P k→IX i n k→T):T:=by
  have sq:∀j:Int,0≤j→j<n→(if(decide (0≤j)&&decide (j<(n:Int)))=true then some j.toNat else none)=some j.toNat:=fun j h1 h2=>if_pos (by rw[decide_eq_true h1,decide_eq_true h2];rfl)
  refine Hd.gd e fun hn e=>Hd.bif e (fun h0 e=>Hd.gd e fun h1 e=>?_) fun h0 e=>Hd.gd e fun h1 e=>?_
  · have h0:=of_decide_eq_true h0
    exact k i.toNat e ⟨hn,by unfold seqIndex?;dsimp only;rw[if_neg (show ¬i<0 by omega)];exact sq i h0 h1,by omega,fun _=>by omega,fun q=>by omega⟩
  · have h0:=of_decide_eq_false h0
    exact k (i+n).toNat e ⟨hn,by unfold seqIndex?;dsimp only;rw[if_pos (show i<0 by omega)];exact sq (i+n) (by omega) (by omega),by omega,fun q=>absurd q h0,fun q=>by omega⟩
theorem wp_subs {value slice:Expr} {o i:Value} {T id:String} (hT:s.TypeIs o T) (hl:typeLookup (.type T) "__getitem__"=pure (some (.builtin id)))
    (h:wpAny (model prog w) A (getItem o i) Q E s):wpAny (model prog w) A (do standAt pos;let r←subscripted slice (←getitemInPython o) o i;letTemporaryGo value o r;pure r) Q E s:=by
  refine wpAny_bind (wpAny_standAt (wpAny_bind ?_))
  rw[getitemInPython_of_ne hT.not_modules]
  refine wpAny_bind (wpAny_specialOf hT hl (wpAny_pure (wpAny_bind ?_)))
  have k:∀os,wpAny (model prog w) A (operate os (getItem o i)) (fun r s'=>wpAny (model prog w) A (do letTemporaryGo value o r;pure r) Q E s') E s:=fun os=>wpAny_operating (wpAny_mono h (fun r s' h'=>wpAny_bind (wpAny_letTemporaryGo (wpAny_pure h'))) fun _ _ x=>x)
  cases slice with
  |Slice a b c p=>cases c<;>first |exact k [i,o] |exact k [o,i]
  |_=>exact k [o,i]
inductive IsQ (h:Heap) (ρ:Rho) (xs:List PyData) (v:Value):Prop where
  |mk {T:String} {a:Addr} {o:Obj} {items:Array Value} {n:Nat} (e:v= .ref a) (g:h.get? a=some o) (t:T="list"∨T="tuple") (c:o.cls= .type T) (d:o.data= .seq items n) (r:Rds (Fz h ρ) xs items.toList):IsQ h ρ xs v
theorem Hd.tup {h:Heap} {val:Value} {P:List PyData→Prop} {T:Prop} (e:Hd (asT v) P) (r:VR K h ρ v val) (k:∀xs,P xs→LA (Fz h ρ) "tuple" (Rds (Fz h ρ) xs) val→T):T:=Hd.dat e r fun x e r=>by
  cases x with
  |tuple xs=>exact k xs e r
  |_=>exact e.elim
theorem Hd.seq {h:Heap} {val:Value} {objs:Objs} {P:List PyData→Prop} {T:Prop} (S:Store K h ρ objs) (e:Hd ((asT v).elim (listOf objs v) some) P) (r:VR K h ρ v val) (k:∀xs,P xs→IsQ h ρ xs val→T):T:=
  Hd.el e (fun e=>Hd.tup e r fun xs e l=>let⟨a,b,c,d,q,_⟩:=l;k xs e ⟨a,b.2,.inr rfl,c,d,q⟩) fun e=>Hd.list S e r fun xs e l=>let⟨a,b,c,d,q⟩:=l;k xs e ⟨a,b,.inl rfl,c,d,q⟩
theorem wp_item {value slice:Expr} {i:Int} {t:Tok} (R:Rel K C env st ρ s) (ro:VR K s.heap ρ v vo) (e:Hd (itemV st.objs v i) fun v=>P (v,st))
    (h:Post K C env P ρ s Q):wpAny (model prog w) A (do standAt pos;let r←subscripted slice (←getitemInPython vo) vo (.int i t);letTemporaryGo value vo r;pure r) Q E s:=by
  have bd:∀{n k},IX i n k→ -(2 ^ 62)≤i∧i<2 ^ 62:=fun x=>by
    have hm:(maxLen:Int)<2 ^ 62:=by decide
    have:=x.le;have:=x.lt
    by_cases q:0≤i
    · have:=x.pos q;omega
    · have:=x.neg (by omega);omega
  refine Hd.el e (fun e=>Hd.str e ro fun x u q e=>Hd.idx (Hd.b e) fun k e x=>(Hd.m e).get fun c hc e=>?_) fun e=>Hd.seq R.w.store (Hd.b e) ro fun xs e l=>Hd.idx (Hd.b e) fun k e x=>(Hd.m e).get fun y hy ep=>?_
  · subst q
    have b:=bd x
    refine wp_subs (typeIs_str s _ u) F.slot_str_getitem.lookup (PySem.P.getItem_str (c:=c) (by rw[decide_eq_false (by omega),decide_eq_false (by omega)];rfl) ?_ (Post.x h R e))
    rw[str_len,x.seq,Option.bind_some,←hc]
    exact Array.getElem?_toList.symm
  · obtain⟨rfl,g,ht,c,d,r⟩:=l
    obtain⟨val,hv,dv⟩:=r.get hy
    rw[Array.getElem?_toList]at hv
    have hz:=r.size
    have b:=bd x
    rcases ht with rfl |rfl
    · refine wp_subs (T:="list") ⟨_,g,c⟩ slot_list_getitem.lookup ?_
      by_cases hneg:i<0
      · have e:=x.neg hneg
        exact wpAny_getItem_list_neg ⟨_,g,c,_,d⟩ hneg (by omega) (by omega) (by rw[hz,e];exact hv) (h.d (t:=s.toks) R ep dv)
      · have e:=x.pos (by omega)
        exact wpAny_getItem_list ⟨_,g,c,_,d⟩ (by omega) (by omega) (e ▸ hv) (h.d (t:=s.toks) R ep dv)
    · exact wp_subs (T:="tuple") ⟨_,g,c⟩ slot_tuple_getitem.lookup (getItem_tuple ⟨_,g,c,_,d⟩ (by omega) (by omega) (by rw[hz];exact x.seq) hv (h.d (t:=s.toks) R ep dv))
end
end Mine
end
section
open PySem PySem.W PyProof.Rows
namespace Mine
theorem clip_eq (i:Int) (n:Nat):max 0 (min (if i<0 then i+n else i) n)=((clampI i n:Nat):Int):=(Int.toNat_of_nonneg (Int.le_max_left _ _)).symm
theorem high_le (x:Option Int) (n:Nat):highI x n≤n:=by
  cases x with
  |none=>exact Nat.le_refl _
  |some i=>exact Int.toNat_le.mpr (Int.max_le.mpr ⟨Int.natCast_nonneg n,Int.min_le_right _ _⟩)
theorem clip_or (x:Option Int) (d n:Nat):(match x with |none=>(d:Int) |some i=>max 0 (min (if i<0 then i+n else i) n))=((x.elim d fun i=>clampI i n:Nat):Int):=by
  cases x with
  |none=>rfl
  |some i=>exact clip_eq i n
theorem bounds_one (lo hi:Option Int) (n:Nat):sliceBounds lo hi none n=(((lowI lo n:Nat):Int),((highI hi n:Nat):Int),(1:Int)):=Prod.ext (clip_or lo 0 n) (Prod.ext (clip_or hi n n) rfl)
noncomputable def picks (lo hi st:Option Int) (n:Nat):List Nat:=sliceRange (sliceBounds lo hi st n).1 (sliceBounds lo hi st n).2.1 (sliceBounds lo hi st n).2.2
theorem picks_one (lo hi:Option Int) (n:Nat):picks lo hi none n=(List.range (highI hi n - lowI lo n)).map (lowI lo n+·):=by
  unfold picks
  rw[bounds_one];exact sliceRange_one _ _
theorem picks_rev (n:Nat):picks none none (some (-1)) n=(List.range n).reverse:=by
  unfold picks
  rw[krv_bounds];exact(krv_sliceRange n).trans (krv_range n)
theorem picks_tail (n:Nat):picks none (some 0) (some (-1)) n=((List.range (n - 1)).map (1+·)).reverse:=by
  cases n with
  |zero=>decide+kernel
  | succ m=>
    have e:sliceBounds none (some 0) (some (-1)) (m+1)=((m:Int),0,-1):=by
      refine Prod.ext (show((m+1:Nat):Int) - 1=m by omega) (Prod.ext (show max (-1) (min 0 (((m+1:Nat):Int) - 1))=0 by omega) rfl)
    unfold picks
    rw[e]
    show(List.range (if(m:Int)>0 then((m:Int) - 0 - -1 - 1) / (- -1)else 0).toNat).map (fun(k:Nat)=>((m:Int)+ -1 * (k:Int)).toNat)=_
    rw[show(if(m:Int)>0 then((m:Int) - 0 - -1 - 1) / (- -1)else 0).toNat=m by rw[show(- -1:Int)=1 from rfl,Int.ediv_one];split<;>omega]
    refine List.ext_getElem (by rw[List.length_map,List.length_reverse,List.length_map];rfl) fun i h1 h2=>?_
    rw[List.length_map,List.length_range]at h1
    rw[List.getElem_map,List.getElem_range,List.getElem_reverse,List.getElem_map,List.getElem_range,List.length_map,List.length_range]
    omega
theorem pick_tail {α:Type} (xs:Array α):(picks none (some 0) (some (-1)) xs.size).filterMap (xs[·]?)=(xs.toList.drop 1).reverse:=by
  rw[picks_tail,List.filterMap_reverse,pick_run,List.take_of_length_le (by rw[List.length_drop,Array.length_toList];exact Nat.le_refl _)]
theorem Hd.take {α:Type} {xs:Array α} {lo hi st:Option Int} {P:List α→Prop} {T:Prop} (h:Hd (takeL xs.toList lo hi st) P) (k:st≠some 0→((picks lo hi st xs.size).filterMap (xs[·]?)).length≤xs.size→P ((picks lo hi st xs.size).filterMap (xs[·]?))→T):T:=by
  cases st with
  | none=>
    have e:(picks lo hi none xs.size).filterMap (xs[·]?)=sliceL xs.toList lo hi:=by rw[picks_one,pick_run];rfl
    rw[e]at k
    exact k nofun (Nat.le_trans (List.length_take_le' _ _) (List.length_drop ▸ Nat.sub_le _ _)) h
  | some i=>
    refine Hd.gd h fun q h=>?_
    obtain⟨rfl,rfl⟩:=q
    cases hi with
    | none=>
      have e:(picks none none (some (-1)) xs.size).filterMap (xs[·]?)=xs.toList.reverse:=by rw[picks_rev,List.filterMap_reverse,krv_all]
      rw[e]at k
      exact k nofun (Nat.le_of_eq List.length_reverse) h
    | some z=>
      refine Hd.gd h fun q h=>?_
      subst q
      rw[pick_tail]at k
      exact k nofun (by rw[List.length_reverse,List.length_drop];exact Nat.sub_le _ _) h
theorem picks_full {α:Type} (xs:Array α) (lo hi:Option Int) (h:(picks lo hi none xs.size).length=xs.size):(picks lo hi none xs.size).filterMap (xs[·]?)=xs.toList:=by
  have hh:=high_le hi xs.size
  rw[picks_one]at h ⊢
  rw[List.length_map,List.length_range]at h
  rw[pick_run]
  by_cases hz:lowI lo xs.size=0
  · rw[hz,List.drop_zero];exact List.take_of_length_le (by rw[Array.length_toList];omega)
  · have e:xs.size=0:=by omega
    have e:xs.toList=[]:=List.eq_nil_of_length_eq_zero e
    rw[e,List.drop_nil,List.take_nil]
theorem Rds.take {F:Addr→Obj→Prop} {xs:List PyData} {vs:Array Value} {lo hi st:Option Int} {P:List PyData→Prop} {T:Prop} (r:Rds F xs vs.toList) (h:Hd (takeL xs lo hi st) P) (k:∀ys,P ys→st≠some 0→Rds F ys (slicePick vs lo hi st).toList→T):T:=by
  have hz:=r.size
  cases st with
  | none=>
    refine k _ h nofun ?_
    show Rds F _ ((picks lo hi none vs.size).filterMap (vs[·]?))
    rw[picks_one,pick_run,hz];exact(r.drop _).taken _
  | some i=>
    refine Hd.gd h fun q h=>?_
    obtain⟨rfl,rfl⟩:=q
    cases hi with
    |none=>exact k _ h nofun (by rw[krv_pick];exact r.rev)
    | some z=>
      refine Hd.gd h fun q h=>?_
      subst q
      refine k _ h nofun ?_
      show Rds F _ ((picks none (some 0) (some (-1)) vs.size).filterMap (vs[·]?))
      rw[pick_tail];exact(r.drop 1).rev
section
variable {prog:Program} {w:World} {A:Around} {E:Value→Shared→Prop} {K:Ctx0} {C:Cx} {env:Env} {st st₁:St} {ρ ρ₁:Rho} {s s₁:Shared} {v:V} {vo:Value} {n:Nat} {f:Fs} {P:V×St→Prop} {Q:Value→Shared→Prop} {pos:Pos}
noncomputable def Part (ov:Option V) (val:Value):Prop:=∀{P:Option Int→Prop} {T:Prop},Hd (intOpt ov) P→(∀p:Option (Int×Tok),val=partValue p→P (p.map (·.1))→T)→T
theorem wp_part {x:Option Expr} {P:Option V×St→Prop} (IE:SE prog w K n C (f.ev C)) (e:Hd (evPart f C x st) P) (hA:AOK A n) (O:EnvOK K C env) (R:Rel K C env st ρ s) (h:∀p val ρ' s',P p→Step K C env p.2 No ρ s ρ' s'→Part p.1 val→Q val s'):wpAny (model prog w) A (evalPart x env) Q E s:=by
  cases x with
  |none=>exact wpAny_pure (h _ _ _ _ e R.at0 fun e k=>k none rfl e)
  |some x=>exact(IE (Hd.m e)).2 hA O R fun p val ρ₁ s₁ e X=>h _ _ _ _ e X.step fun {P T} e k=>Hd.el (show Hd ((asI p.1).elim _ _) P from e) (fun e=>Hd.int e X.vr fun i t q e=>k (some (i,t)) q e) fun e=>Hd.g e fun q e=>
      (none_or X.vr).elim (fun z=>k none z.2 e) fun z=>absurd (z.1.symm.trans q) nofun
theorem isPart_of {p:Option (Int×Tok)}:IsPart (partValue p) (p.map (·.1)):=by
  cases p with
  |none=>exact .none
  |some q=>exact .int q.1 q.2
noncomputable def sliceObj (l u st:Option (Int×Tok)):Obj:={cls:= .type "slice",data:= .fields #[partValue l,partValue u,partValue st]}
theorem wp_sliceS {x:Str} {t:Tok} {l u d:Option (Int×Tok)} {sl:Addr} (hs:s.heap.get? sl=some (sliceObj l u d)) (hm:(strL x).length≤maxLen) (e0:Hd (takeL (strL x) (l.map (·.1)) (u.map (·.1)) (d.map (·.1))) fun r=>∀t tk,Q (.str (mkS r) t) {s with toks:=tk}):wpAny (model prog w) A (getItem (.str x t) (.ref sl)) Q E s:=by
  refine Hd.take (xs:=x.cps) e0 fun h0 hl e=>?_
  have hd:∀i,d.map (·.1)=some i→i≠1:=fun i q=>by
    rw[q]at e0
    exact Hd.gd e0 fun q _=>q.1 ▸ by decide
  have hst:((d.map (·.1)).getD 1==0)=false:=by
    cases d with
    |none=>rfl
    |some i=>exact beq_false_of_ne fun q=>h0 (congrArg some q)
  refine wpAny_getItem_str_slice (l:=l) (u:=u) (st:=d) ⟨_,hs,rfl,rfl⟩ hst ?_
  unfold sliceMade
  refine iteInduction (motive:=fun m=>Made.post m Q s) (fun hc=>?_) fun _=>⟨?_,e _ _⟩
  · obtain⟨h1,h2⟩:=Bool.and_eq_true _ _ ▸ hc
    cases d with
    | none=>
      have:=picks_full x.cps _ _ (beq_iff_eq.mp h2)
      rw[show Option.map Prod.fst (none:Option (Int×Tok))=none from rfl,this]at e
      exact e t s.toks
    |some i=>exact absurd (beq_iff_eq.mp h1) (hd i.1 rfl)
  · exact Nat.le_trans hl (Nat.le_trans hm maxLen_le)
theorem wp_sliceW {value slice:Expr} {l u d:Option (Int×Tok)} (R:Rel K C env st ρ s) (ro:VR K s.heap ρ v vo) (e:Hd (sliceW st.objs v (l.map (·.1)) (u.map (·.1)) (d.map (·.1))) fun v=>P (v,st)) (h:Post K C env P ρ s Q):
    wpAny (model prog w) A (do standAt pos;let r←subscripted slice (←getitemInPython vo) vo (.ref s.heap.objs.size);letTemporaryGo value vo r;pure r) Q E {s with heap:=s.heap.push (sliceObj l u d)}:=by
  have hk:Up s.heap (s.heap.push (sliceObj l u d)):= .push _
  have S:=R.go (t:=s.toks) hk
  have hs:(s.heap.push (sliceObj l u d)).get? s.heap.objs.size=some (sliceObj l u d):=Heap.get?_push_size _ rfl
  refine Hd.el e (fun e=>Hd.str e ro fun x t q e=>Hd.gd e fun hm e=>?_) fun e=>Hd.list S.rel.w.store (Hd.b e) (ro.mv0 S.mv) fun xs e y=>Hd.gd e fun hm e=>?_
  · subst q
    exact wp_subs (typeIs_str _ x t) F.slot_str_getitem.lookup (wp_sliceS hs hm ((Hd.m e).get fun a ha e=> .of ha fun t tk=>Post.x (h.aft S) S.rel e))
  · obtain⟨rfl,g,c,dd,r⟩:=y
    exact r.take (Hd.m e) fun ys e h0 r'=>wp_subs (T:="list") ⟨_,g,c⟩ slot_list_getitem.lookup (wpAny_getItem_list_slice ⟨_,g,c,_,dd⟩ ⟨_,hs,rfl,rfl⟩ isPart_of isPart_of isPart_of h0 ((h.aft S).new (n:=0) (t:=s.toks) S.rel e r') (by rw[r.size];exact Nat.le_trans hm maxLen_le))
end
end Mine
end
section
open PySem PySem.W PyProof.Rows
namespace Mine
theorem Rds.of {F:Addr→Obj→Prop}:∀{xs:List PyData} {vs:List Value},vs.length=xs.length→(∀{i:Nat} {x v},xs[i]?=some x→vs[i]?=some v→Rd F x v)→Rds F xs vs
  |[],_,e,_=>List.eq_nil_of_length_eq_zero e
  |_::_,[],e,_=>nomatch e
  |_::_,_::_,e,h=> .cons (h (i:=0) rfl rfl) (Rds.of (Nat.succ.inj e) fun {i x v} a b=>h (i:=i+1) (x:=x) (v:=v) a b)
theorem Rds.ints {F:Addr→Obj→Prop} {xs:List PyData} {vs:List Value} (r:Rds F xs vs):∀{P:List Int→Prop} {T:Prop},Hd (ints? xs) P→(∀is,P is→IntsAre vs is→T)→T:=
  Rds.ind (P:=fun xs vs=>∀{P:List Int→Prop} {T:Prop},Hd (ints? xs) P→(∀is,P is→IntsAre vs is→T)→T) (fun e k=>k _ e .nil)
    (fun _ _ _ _ a _ ih _ _ e k=>Hd.rint (Hd.b e) a fun i t q e=>ih (Hd.m e) fun is e l=>k _ e (q ▸ .cons _ _ l)) r
theorem Rds.strs {F:Addr→Obj→Prop} {xs:List PyData} {vs:List Value} (r:Rds F xs vs):∀{P:List Str→Prop} {T:Prop},Hd (strs? xs) P→(∀l:List (Str×Tok),P (l.map Prod.fst)→vs=strValues l→T)→T:=
  Rds.ind (P:=fun xs vs=>∀{P:List Str→Prop} {T:Prop},Hd (strs? xs) P→(∀l:List (Str×Tok),P (l.map Prod.fst)→vs=strValues l→T)→T) (fun e k=>k [] e rfl)
    (fun _ _ _ _ a _ ih _ _ e k=>Hd.rstr (Hd.b e) a fun i t q e=>ih (Hd.m e) fun l e z=>k ((i,t)::l) e (q ▸ z ▸ rfl)) r
section
variable {prog:Program} {w:World} {A:Around} {E:Value→Shared→Prop} {K:Ctx0} {C:Cx} {env:Env} {st st₁:St} {ρ ρ₁:Rho} {h:Heap} {s s₁:Shared} {v:V} {vo:Value} {vs:List V} {vals:List Value} {n:Nat} {P:V×St→Prop} {Q:Value→Shared→Prop} {pos:Pos} {T:Prop}
theorem VRs.one {a:V} (r:VRs K h ρ [a] vals) (k:∀u,vals=[u]→VR K h ρ a u→T):T:=let⟨e,a,q,_⟩:=r;k _ (e.trans (congrArg _ q)) a
theorem Hd.arg1 {β:Type} {k:V→Option β} {P:β→Prop} (e:Hd (Mine.one vs k) P) (rs:VRs K h ρ vs vals) (f:∀a u,vals=[u]→VR K h ρ a u→Hd (k a) P→T):T:=e.one fun a q e=>VRs.one (q ▸ rs) fun u z r=>f a u z r e
theorem Hd.argW {β:Type} {k:V→Option β} {P:β→Prop} (e:Hd (Mine.one vs k) P) (rs:VRs K h ρ vs vals) (f:∀a u,vals=[u]→VR K h ρ a u→(∀b,Ow a u b→Ows vs vals b)→Hd (k a) P→T):T:=e.one fun a q e=>by
  subst q
  exact VRs.one rs fun u z r=>f a u z r (fun b o=>z ▸ .inl o) e
theorem VRs.two {a b:V} (r:VRs K h ρ [a,b] vals) (k:∀u w,vals=[u,w]→VR K h ρ a u→VR K h ρ b w→T):T:=let⟨e,a,q,_⟩:=r;VRs.one q fun w z b=>k _ w (z ▸ e) a b
theorem Hd.arg2 {β:Type} {k:V→V→Option β} {P:β→Prop} (e:Hd (Mine.two vs k) P) (rs:VRs K h ρ vs vals) (f:∀a b u w,vals=[u,w]→VR K h ρ a u→VR K h ρ b w→Hd (k a b) P→T):T:=e.two fun a b q e=>VRs.two (q ▸ rs) fun u w z r r'=>f a b u w z r r' e
theorem call_type_str {x:Str} {t:Tok} (h:Q (.type "str") s):wpAny (model prog w) A (PySem.call (.type "type") [.str x t]) Q E s:=by
  refine wpAny_call (codeAny_of_tree ?_)
  show wpAny _ _ (callAny (.type "type") ⟨[.str x t],[]⟩) _ _ _
  simp only[callAny]
  refine wpAny_pure ⟨Code.quiet_builtin _ (by decide+kernel),codeAny_builtin entry_type_call ?_⟩
  unfold Builtin.«type.__call__»
  dsimp only
  unfold shownTypeOf
  repeat wp_step
  exact h
theorem Post.r (h:Post K C env P ρ s Q) (R:Rel K C env st ρ s) {a b c:Int} {t u z:Tok} {tk:Nat} (e:P (.rng a b c,st)):Q (.ref s.heap.objs.size) {s with heap:=s.heap.push (rObj a b c t u z),toks:=tk}:=
  h.go R (.push _) e ⟨_,t,u,z,rfl,R.w.new not_live_size,Heap.get?_push_size _ rfl⟩ rfl
theorem Post.ty (h:Post K C env P ρ s Q) (R:Rel K C env st ρ s) {n:String} (e:P (.ty n,st)):Q (.type n) s:=h.go (t:=s.toks) R (.refl _) e rfl rfl
theorem wp_range (R:Rel K C env st ρ s) (e:Hd (bRange vs) fun v=>P (v,st)) (rs:VRs K s.heap ρ vs vals) (h:Post K C env P ρ s Q):wpAny (model prog w) A (PySem.call (.type "range") vals) Q E s:=by
  match vs with
  |[]=>exact e.elim
  |[b]=>exact VRs.one rs fun u z r=>Hd.int (Hd.m e) r fun i t q e=>z ▸ q ▸ call_range_1 (Post.r h R e)
  |[a,b]=>exact VRs.two rs fun u w z r r'=>Hd.int (Hd.b e) r fun i t q e=>Hd.int (Hd.m e) r' fun j t q' e=>z ▸ q ▸ q' ▸ call_range_2 (Post.r h R e)
  | [a,b,c]=>
    obtain⟨e1,ra,r,-⟩:=rs
    exact VRs.two r fun u w z r r'=>Hd.int (Hd.b e) ra fun i t q e=>Hd.int (Hd.b e) r fun j t q' e=>Hd.int (Hd.b e) r' fun k t q'' e=>e.gd fun hc e=>e1 ▸ z ▸ q ▸ q' ▸ q'' ▸ call_range_3 hc.1 (Post.r h R e) (.inl (PyProof.noPylong_small hc.2))
  |_::_::_::_::_=>exact e.elim
theorem wp_len (R:Rel K C env st ρ s) (e:Hd (bLen st.objs v) fun v=>P (v,st)) (r:VR K s.heap ρ v vo) (h:Post K C env P ρ s Q):wpAny (model prog w) A (PySem.call (.builtin "len") [vo]) Q E s:=by
  have hm:maxLen<2 ^ 62:=by decide
  refine e.el (fun e=>Hd.str e r fun x t q e=>Hd.gd e fun hl e=>?_) fun e=>Hd.seq R.w.store e.b r fun xs e l=>Hd.gd e fun hl e=>?_
  · subst q
    exact PySem.P.len_str (by rw[str_len];omega) (by rw[str_len];exact Post.i h R e)
  · obtain⟨rfl,g,ht,c,d,rr⟩:=l
    have hz:=rr.size
    rw[←hz]at e
    rcases ht with rfl |rfl
    · exact Calls.call_len_list ⟨_,g,c,_,d⟩ (by omega) (Post.i h R e)
    · exact len_tuple ⟨_,g,c,_,d⟩ (by omega) (Post.i h R e)
theorem wp_callB {f:Bf} (hA:AOK A n) (R:Rel K C env st ρ s) (e:Hd (callB st.objs f vs) fun v=>P (v,st)) (rs:VRs K s.heap ρ vs vals) (h:Post K C env P ρ s Q):wpAny (model prog w) A (PySem.call f.val vals) Q E s:=by
  cases f with
  |len=>exact Hd.arg1 e rs fun a u z r e=>z ▸ wp_len R e r h
  | ord=>
    exact Hd.arg1 e rs fun a u z r e=>Hd.str (Hd.b e) r fun x t q e=>Hd.one e fun c hx e=>by
      obtain rfl:x=⟨#[c]⟩:=by rw[←mkS_strL x,hx];rfl
      exact z ▸ q ▸ PySem.P.ord_of_char (Post.i h R e)
  |chr=>exact Hd.arg1 e rs fun a u z r e=>Hd.int (Hd.b e) r fun i t q e=>Hd.gd e fun hi e=>z ▸ q ▸ PySem.P.chr_of_int (by rw[decide_eq_false (Int.not_lt.mpr hi.1),decide_eq_false (Int.not_lt.mpr hi.2)];rfl) (Post.x h R e)
  |range=>exact wp_range R e rs h
  | list=>
    exact Hd.arg1 e rs fun a u z r e=>by
      cases a with
      | rng a b c=>
        obtain⟨l,t,u,x,rfl,f⟩:=r
        refine Hd.gd (Hd.m e:Hd (rangeL a b c) _) fun hc e=>Hd.g e fun hh e=>?_
        obtain⟨hsm,hle⟩:=Bool.and_eq_true _ _ ▸ hh
        exact z ▸ call_list_range hA.hand (r:=l) f.2 hsm (rangeSize_toNat _ _ _) (Int.toNat_le.mpr (Int.le_trans (of_decide_eq_true hle) (by decide))) fun h' tk acc' c' k g d=>h.l R not_live_size k g e (.of ((d.1:_=_).trans (by simp)) fun {i x v} hx hv=>by
          obtain⟨t,rfl⟩:=d.2 i v (by rw[←Array.getElem?_toList];exact hv)
          rw[List.getElem?_map]at hx
          obtain⟨j,hj,rfl⟩:=Option.map_eq_some_iff.mp hx
          obtain⟨hi,rfl⟩:=List.getElem?_eq_some_iff.mp hj
          rw[List.getElem_range];exact⟨t,rfl⟩)
      |_=>exact e.elim
  | sum=>
    exact Hd.arg1 e rs fun a u z r e=>Hd.list R.w.store (Hd.b e) r fun xs e l=>by
      obtain @⟨a,o,items,n',rfl,g,c,d,rr⟩:=l
      refine rr.ints (Hd.m e) fun is e hi=>?_
      have hall:AllInts items:=by have:=hi.allInts;simpa using this
      obtain⟨ys,rfl⟩:=hall.items
      refine z ▸ sum_intListG hA.hand ⟨_,g,c,_,d⟩ fun h' tk t' hk=>?_
      have e3:numsOf (intItems ys).toList=is:=hi.numsOf
      rw[nums_intItems]at e3
      rw[preSum_eq,List.take_of_length_le (by simp),e3]
      exact h.go R hk e ⟨_,rfl⟩ rfl
  | min=>
    exact Hd.arg2 e rs fun a b u w z r r' e=>Hd.int (Hd.b e) r fun x t q e=>Hd.int (Hd.m e) r' fun y t' q' e=>by
      subst z q q'
      refine min_two_ints hA.hand fun h' tk hk=>?_
      by_cases hab:y<x
      · rw[if_pos hab];rw[decide_eq_true hab]at e;exact h.go R hk e ⟨_,rfl⟩ rfl
      · rw[if_neg hab];rw[decide_eq_false hab]at e;exact h.go R hk e ⟨_,rfl⟩ rfl
  | abs =>
    exact Hd.arg1 e rs fun a u z r e=>Hd.int (Hd.m e) r fun i t q e=>by
      subst z q
      refine call_abs_int fun u tk=>?_
      by_cases hi:i<0
      · rw[if_pos hi,←Int.ofNat_natAbs_of_nonpos (Int.le_of_lt hi)];exact Post.i h R e
      · rw[if_neg hi]
        have e2:((i.natAbs:Nat):Int)=i:=Int.natAbs_of_nonneg (Int.not_lt.mp hi)
        rw[e2]at e
        exact Post.i h R e
  | max =>
    match vs with
    | [a, b,c]=>
      obtain⟨e1,ra,r,-⟩:=rs
      exact VRs.two r fun u w z r r'=>Hd.int (Hd.b e) ra fun i t q e=>Hd.int (Hd.b e) r fun j t q' e=>Hd.int (Hd.m e) r' fun k t q'' e=>by
        subst e1 z q q' q''
        refine max_three_ints hA.hand fun h' tk hk=>?_
        have e:P (.d (.int (max3 i j k)),st):=e
        unfold max3 at e
        by_cases h1:i<j
        · rw[if_pos h1]
          rw[decide_eq_true h1]at e
          by_cases h2:j<k
          · rw[if_pos h2];rw[show decide ((bif true then j else i)<k)=true from decide_eq_true h2]at e;exact h.go R hk e ⟨_,rfl⟩ rfl
          · rw[if_neg h2];rw[show decide ((bif true then j else i)<k)=false from decide_eq_false h2]at e;exact h.go R hk e ⟨_,rfl⟩ rfl
        · rw[if_neg h1]
          rw[decide_eq_false h1]at e
          by_cases h2:i<k
          · rw[if_pos h2];rw[show decide ((bif false then j else i)<k)=true from decide_eq_true h2]at e;exact h.go R hk e ⟨_,rfl⟩ rfl
          · rw[if_neg h2];rw[show decide ((bif false then j else i)<k)=false from decide_eq_false h2]at e;exact h.go R hk e ⟨_,rfl⟩ rfl
    |[]=>exact e.elim
    |[_]=>exact e.elim
    |[_,_]=>exact e.elim
    |_::_::_::_::_=>exact e.elim
  | isinstance=>
    exact Hd.arg2 e rs fun a b u w z r r' e=>Hd.ty (Hd.b e) r' fun n q e=>Hd.g e fun hn e=>by
      obtain rfl:=eq_of_beq hn
      exact Hd.el e (fun e=>Hd.bool e r fun x q' e=>z ▸ q ▸ q' ▸ IsiPair.bool_bool (Post.b (t:=s.toks) h R e)) fun e=>Hd.int (Hd.m e) r fun x t q' e=>z ▸ q ▸ q' ▸ IsiPair.int_bool (Post.b h R e)
  |int=>exact Hd.arg1 e rs fun a u z r e=>Hd.str (Hd.b e) r fun x t q e=>Hd.gd e fun hl e=>(Hd.m e).get fun i e1 e=>z ▸ q ▸ KIN.call_text e1 hl (Post.i h R e)
  | str =>
    exact Hd.arg1 e rs fun a u z r e=>Hd.int (Hd.b e) r fun i t q e=>Hd.gd e fun hi e=>z ▸ q ▸ PySem.P.str_of_int (by
      by_cases h0:i.natAbs=0
      · rw[h0];decide
      · have:i.natAbs.log2<30:=(Nat.log2_lt h0).mpr (by omega)
        omega) (Post.x h R e)
  | type=>
    exact Hd.arg1 e rs fun a u z r e=>Hd.el e (fun e=>Hd.str e r fun x t q e=>z ▸ q ▸ call_type_str (h.ty R e)) fun e=>Hd.list R.w.store (Hd.m e) r fun xs e l=>by
      obtain⟨rfl,g,c,d,rr⟩:=l
      obtain⟨hp,gg,dd,t,os⟩:=s
      exact z ▸ call_type_obj g (by rw[c];rfl) (by rw[c];exact h.ty R e)
theorem wp_lower {x:Str} {t:Tok} (R:Rel K C env st ρ s) (hl:(strL x).length≤maxLen) (e:P (.d (.str (Txt.lower x)),st)) (h:Post K C env P ρ s Q):wpAny (model prog w) A (PySem.call (.builtin "str.lower") [.str x t]) Q E s:=by
  have hm:maxLen=1000000:=rfl
  have h1:=str_len x
  refine call_gives F.slot_str_lower (typeIs_str _ _ _) F.entry_str_lower (F.args_str_lower_1 _) (gives_str_lower x t (fit_lower (by omega))) ⟨?_,Post.x h R e⟩
  have h2:=len_lower x
  show(Txt.lower x).length≤16777216
  omega
theorem wp_join {x:Str} {t:Tok} {l:V} (R:Rel K C env st ρ s) (e:Hd ((listOf st.objs l).bind fun xs=>(strs? xs).bind fun ys=>gd (JoinOk x ys) (some (V.d (.str (Txt.join x ys))))) fun v=>P (v,st)) (r:VR K s.heap ρ l vo) (h:Post K C env P ρ s Q):wpAny (model prog w) A (PySem.call (.builtin "str.join") [.str x t,vo]) Q E s:=
  Hd.list R.w.store (Hd.b e) r fun xs e l=>by
    obtain⟨rfl,g,c,d,rr⟩:=l
    exact rr.strs (Hd.b e) fun l e hl=>Hd.g e fun hok e=>SC.join ⟨_,g,c,_,(by rw[←hl];exact d)⟩ rfl hok fun t' k=>Post.x h R e
end
end Mine
end
section
open PySem PySem.W PyProof.Rows
namespace Mine
structure Names (K:Ctx0) (G:Env'):Prop where
  hg:K.h₀.Ns K.gl K.gm
  hb:K.h₀.Ns builtinsNs K.bm
  glob:∀x v,G.glob x=some v→∃val,(K.gm x=some val∨(K.gm x=none∧K.bm x=some val))∧v.fl?=none∧∀{h ρ},(∀{b o},K.h₀.get? b=some o→Fz h ρ b o)→VR K h ρ v val
section
variable {prog:Program} {w:World} {G:Env'} {A:Around} {E:Value→Shared→Prop} {K:Ctx0} {C:Cx} {env:Env} {st st₁:St} {ρ ρ₁ ρ₂:Rho} {h:Heap} {s s₁ s₂:Shared} {v:V} {val vo:Value} {vs us:List V} {vals uvals:List Value} {n:Nat} {f:Expr→St→Option (V×St)} {P:V×St→Prop} {Q:Value→Shared→Prop} {pos:Pos} {T:Prop} {x:Str}
theorem Names.load {M:Model} (N:Names K G) (O:EnvOK K C env) (R:Rel K C env st ρ s) (hx:C.sc.names.lookup x=some .globalImplicit) (hv:K.gm x=some val∨(K.gm x=none∧K.bm x=some val)) (h:Q val s):wpAny M A (loadName env x) Q E s:=by
  rw[loadName_read O.kind (O.kd hx nofun)]
  unfold loadGlobal
  have hg:s.heap.Ns env.globals K.gm:=O.glob ▸ N.hg.at' fun o e=>(R.w.base e).2
  have hb:s.heap.Ns env.builtins K.bm:=O.bui ▸ N.hb.at' fun o e=>(R.w.base e).2
  refine wpAny_bind (wpAny_nsGet hg ?_)
  rcases hv with hv | ⟨h1,h2⟩
  · rw[hv];exact wpAny_pure h
  · rw[h1]
    show wpAny M A (do
      if let some v←nsGet env.builtins x then return v
      rule "name.global.undefined"
      raiseNameError x s!"name '{x.toString}' is not defined") Q E s
    refine wpAny_bind (wpAny_nsGet hb ?_)
    rw[h2];exact wpAny_pure h
theorem nfl {p:V×St} (n:p.1.fl?=none) {a:Addr} (q:Ow p.1 val a):False:=by
  obtain⟨v,st⟩:=p
  cases v<;>first |exact q |cases n
theorem wp_evVar {P:V→Prop} (N:Names K G) (e:Hd (evVar G C x st) P) (O:EnvOK K C env) (R:Rel K C env st ρ s) (h:∀v val,P v→v.fl?=none→VR K s.heap ρ v val→Q val s):wpAny (model prog w) A (loadName env x) Q E s:=by
  refine e.g fun hn e=>e.bif (fun hk e=>e.get fun v hv e=>?_) fun hg e=>e.g fun hk e=>(Hd.b e).get fun k hx e=>(Hd.b e).get fun ov hv e=>e.get fun v hov e=>?_
  · obtain⟨val,hl,nf,r⟩:=N.glob x v hv
    exact N.load O R (of_decide_eq_true hk) hl (h v val e nf (r R.w.base))
  · have hn:(x==("__classdict__":Str))=false:=Bool.not_eq_true' _ ▸ hn
    obtain rfl:ov=some v:=hov
    obtain⟨m,hns,hvs⟩:=R.f.vars
    obtain⟨v1,v2⟩:=hvs hv
    cases k with
    |«local»=>exact let⟨val,hm,r,nf⟩:=v1 hx;wpAny_loadName_local O.kind (O.kd hx nofun) hns hm (h _ _ e nf r)
    | cell=>
      obtain⟨c,w,hc,hi,val,rfl,r,nf⟩:=v2 (.inl hx)
      exact wpAny_loadName_cell O.kind (O.kd hx nofun) hc hi (h _ _ e nf r)
    | free=>
      obtain⟨c,w,hc,hi,val,rfl,r,nf⟩:=v2 (.inr hx)
      exact(O.kinds hx).elim (fun q=>wpAny_loadName_free O.kind q hc hi (h _ _ e nf r) hn) fun q=>wpAny_loadName_cell O.kind q.2 hc hi (h _ _ e nf r)
    |globalExplicit=>exact absurd hx (of_decide_eq_false (Bool.not_eq_true' _ ▸ hk))
    |globalImplicit=>exact absurd hx (of_decide_eq_false hg)
theorem wp_Name (N:Names K G) (e:Hd ((evName G C x st).map fun v=>(v,st)) P) (O:EnvOK K C env) (R:Rel K C env st ρ s) (h:Post K C env P ρ s Q):wpAny (model prog w) A (eval (.Name x pos) env) Q E s:=
  (Hd.m e).bif (fun hd e=>by
    obtain rfl:=eq_of_beq hd
    rw[show eval (.Name "__debug__" pos) env=(do standAt pos;rule "name.__debug__";pure (.bool true))from rfl]
    exact wpAny_bind (wpAny_standAt (wpAny_bind (wpAny_rule (wpAny_pure (Post.b (t:=s.toks) h R e))))))
    fun hd e=>wpAny_Name (wp_evVar N e O R fun v val e nf r=>h.ep e ⟨R.at0,r,fun a q=>(nfl (p:=(v,st)) nf q).elim⟩) hd
theorem Ows.app:∀{vs:List V} {vals:List Value} {us uvals a},vals.length=vs.length→Ows (vs++us) (vals++uvals) a→Ows vs vals a∨Ows us uvals a
  |[],[],_,_,_,_,o=> .inr o
  |[],_::_,_,_,_,l,_=>nomatch l
  |_::_,[],_,_,_,l,_=>nomatch l
  |_::_,_::_,_,_,_,l,o=>o.elim (fun o=> .inl (.inl o)) fun o=>(Ows.app (Nat.succ.inj l) o).imp .inr id
theorem VRs.app:∀{vs vals},VRs K h ρ vs vals→VRs K h ρ us uvals→(∀a,Ows vs vals a→¬Ows us uvals a)→VRs K h ρ (vs++us) (vals++uvals)
  |[],_,e,b,_=>(e:_=[]) ▸ b
  | _::_,_,⟨e,a,q,d⟩,b,no=>by
    subst e
    exact⟨rfl,a,VRs.app q b fun x o=>no x (.inr o),fun x o o'=>(Ows.app q.len o').elim (d x o) (no x (.inl o))⟩
theorem EPs.app {p q:List V×St} (X:EPs K C env p ρ s vals ρ₁ s₁) (Y:EPs K C env q ρ₁ s₁ uvals ρ₂ s₂):EPs K C env (p.1++q.1,q.2) ρ s (vals++uvals) ρ₂ s₂:=
  ⟨X.step.aft Y.step,VRs.app (X.vrs.mv Y.step.mv fun _ _ q=>q) Y.vrs fun b o o'=>Y.new b o' (X.vrs.own o).2,fun b o l=>(Ows.app X.vrs.len o).elim (fun o=>X.new b o l) fun o=>Y.new b o (X.step.mv.live l id)⟩
noncomputable abbrev kwE (pos:Pos) (ks:List Keyword) (env:Env):List (Option Str×Sem Value):=backToKw pos (keywordEach ks env)
structure KwOK (W:List (Option Str×Sem Value)) (ks:List Keyword):Prop where
  all:W.all (·.1.isSome)=true
  fm:W.filterMap (·.1)=ks.filterMap (·.arg)
  any:W.any (·.1.isNone)=false
  len:W.length=ks.length
theorem kwOK:∀{ks:List Keyword} {st} {P:List (Str×V)×St→Prop},Hd (evKws f ks st) P→KwOK (kwE pos ks env) ks
  |[],_,_,_=>⟨rfl,rfl,rfl,rfl⟩
  | ⟨k,x,p⟩::ks,st,P,e=>(Hd.b e).get fun nm hn e=>(Hd.b e).get fun p _ e=>by
    obtain⟨a,b,c,d⟩:=kwOK (Hd.m e)
    obtain rfl:k=some nm:=hn
    exact⟨a,congrArg (nm::·) b,c,congrArg Nat.succ d⟩
theorem wp_evKws (IE:SE prog w K n C f) (hA:AOK A n) (O:EnvOK K C env):∀(ks:List Keyword) {st s ρ} {P:List (Str×V)×St→Prop} {Q:List Value→Shared→Prop},Hd (evKws f ks st) P→Rel K C env st ρ s→
    (∀p vals ρ' s',P p→p.1.map Prod.fst=ks.filterMap (·.arg)→EPs K C env (p.1.map Prod.snd,p.2) ρ s vals ρ' s'→Q vals s')→wpAny (model prog w) A (evalAll ((kwE pos ks env).map (·.2))) Q E s
  |[],_,_,_,_,_,e,R,h=>wpAny_evalAll_nil (h _ _ _ _ e rfl R.nils)
  | ⟨k,x,p⟩::ks,_,_,_,_,_,e,R,h=>(Hd.b e).get fun nm (hn:k=some nm) e=>wpAny_evalAll_cons (wpAny_bind ((IE (Hd.b e)).2 hA O R fun p val ρ₁ s₁ e X=>wpAny_bind (wpAny_standAt (wpAny_pure
      (wp_evKws IE hA O ks (Hd.m e) X.step.rel fun q vals ρ₂ s₂ e hq Y=>h _ _ _ _ e (hn ▸ congrArg (nm::·) hq) (X.cons Y))))))
theorem plain_args:∀{es:List Expr} {st} {P:List V×St→Prop},(∀{e st} {P:V×St→Prop},Hd (f e st) P→plainE e=true)→Hd (evs f es st) P→(backTo pos (starEach es env)).any (·.1)=false∧(backTo pos (starEach es env)).all (!·.1)=true
  |[],_,_,_,_=>⟨rfl,rfl⟩
  | x::es,_,_,pl,e=>(Hd.b e).get fun p hp e=>by
    rw[starEach_of (pl (Hd.of hp trivial:Hd _ fun _=>True))]
    exact plain_args (es:=es) pl (Hd.m e)
theorem wp_argsC {fv:Value} {args:List Expr} {kw:List (Option Str×Sem Value)} {P:List V×St→Prop} {Q:Args→Shared→Prop} (IE:SE prog w K n C f) (ka:kw.all (·.1.isSome)=true) (e:Hd (evs f args st) P) (hA:AOK A n) (O:EnvOK K C env) (R:Rel K C env st ρ s)
    (h:∀p vals ρ' s',P p→EPs K C env p ρ s vals ρ' s'→wpAny (model prog w) A (evalAll (kw.map (·.2))) (fun kv s₂=>Q ⟨vals,(kw.filterMap (·.1)).zip kv⟩ s₂) E s'):wpAny (model prog w) A (evalArgs fv true (backTo pos (starEach args env)) kw) Q E s:=by
  cases args with
  |nil=>exact evalArgs_kw_nil ka (h _ _ _ _ e R.nils)
  | cons x xs=>
    have hs:=wp_evs (pos:=pos) (E:=E) IE hA O (x::xs) e R fun p vals ρ' s' e X=>h p vals ρ' s' e X
    rw[starEach_of (IE (Hd.b e)).1]at hs ⊢
    exact evalArgs_kw ka hs
theorem wp_args {fv:Value} {args:List Expr} {P:List V×St→Prop} {Q:Args→Shared→Prop} (IE:SE prog w K n C f) (e:Hd (evs f args st) P) (hA:AOK A n) (O:EnvOK K C env) (R:Rel K C env st ρ s) (h:∀p vals ρ' s',P p→EPs K C env p ρ s vals ρ' s'→Q ⟨vals,[]⟩ s'):
    wpAny (model prog w) A (evalArgs fv true (backTo pos (starEach args env)) []) Q E s:=
  wp_argsC IE rfl e hA O R fun p vals ρ' s' e X=>wpAny_evalAll_nil (h p vals ρ' s' e X)
theorem wp_argsK {fv:Value} {args:List Expr} {kws:List Keyword} {P:List V×St→List (Str×V)×St→Prop} {Q:Args→Shared→Prop} (IE:SE prog w K n C f) (e:Hd (evs f args st) fun p=>Hd (evKws f kws p.2) (P p)) (hA:AOK A n) (O:EnvOK K C env) (R:Rel K C env st ρ s)
    (h:∀p q vals kvals ρ' s',P p q→vals.length=p.1.length→kvals.length=q.1.length→EPs K C env (p.1++q.1.map Prod.snd,q.2) ρ s (vals++kvals) ρ' s'→Q ⟨vals,(q.1.map Prod.fst).zip kvals⟩ s'):
    wpAny (model prog w) A (evalArgs fv true (backTo pos (starEach args env)) (kwE pos kws env)) Q E s:=by
  have ok:KwOK (kwE pos kws env) kws:=e.get fun p _ e=>kwOK e
  refine wp_argsC IE ok.all e hA O R fun p vals ρ₁ s₁ e X=>wp_evKws IE hA O kws e X.step.rel fun q kvals ρ₂ s₂ e hq Y=>?_
  rw[ok.fm,←hq]
  exact h p q _ _ _ _ e X.vrs.len (Y.vrs.len.trans (List.length_map _)) (X.app Y)
theorem base_of {o:Expr} {m:Str} (h:plainE o=true):attributeBase o m env (eval o env)=eval o env:=by
  generalize eval o env=W
  cases o with
  | Call g args kws p=>
    cases g with
    | Name x p=>
      cases args with
      |cons _ _=>rfl
      | nil=>
        cases kws with
        |cons _ _=>rfl
        | nil=>
          show(if(x !="super"||m=="__class__"||env.kindOf "super" !=some .globalImplicit||env.kindOf "__class__" !=some .free)=true then _ else _)=_
          rw[if_pos (by rw[show(x !="super")=true from h];rfl)]
    |_=>rfl
  |_=>rfl
theorem wp_method {o:Expr} {m:Str} {apos:Pos} {args:List Expr} {kws:List Keyword} (ho:plainE o=true) (ha:(backTo pos (starEach args env)).all (!·.1)=true) (ok:KwOK (kwE pos kws env) kws) (hl:(apos.endLine==pos.line)=true) (hn:args.length+kws.length≤20)
    (h:wpAny (model prog w) A (eval o env) (fun ov s₁=>∀pl,wpAny (model prog w) A (getMethod ov m pl) (fun x s₂=>wpAny (model prog w) A (callWith pos x.1 x.2 (backTo pos (starEach args env)) (kwE pos kws env)) Q E s₂) E s₁) E s):
    wpAny (model prog w) A (eval (.Call (.Attribute o m apos) args kws pos) env) Q E s:=by
  rw[arm_eval_Call,base_of ho]
  have hform:methodCallForm (args.length+kws.length) (backTo pos (starEach args env)) (kwE pos kws env)=true:=by
    unfold methodCallForm
    rw[ha,ok.all]
    exact decide_eq_true (by split<;>omega)
  have hpos:methodCallPos true o env apos pos=pure pos:=by unfold methodCallPos;rw[hl];rfl
  refine wpAny_bind (wpAny_mono h (fun ov s₁ h₁=>wpAny_bind (wpAny_standAt ?_)) fun _ _ e=>e)
  unfold methodCall
  rw[hform]
  exact wpAny_bind (wpAny_holding (wpAny_mono (h₁ _) (fun x s₂ h₂=>wpAny_bind (wpAny_of_eq hpos h₂)) fun _ _ e=>e))
end
end Mine
end
section
open PySem PySem.W PyProof.Rows
namespace Mine
structure WStep (K:Ctx0) (objs':Objs) (ow:Addr→Prop) (ρ:Rho) (s:Shared) (ρ':Rho) (s':Shared):Prop where
  rel:RelW K objs' ρ' s'
  mv:Mv ow No ρ ρ' s.heap s'.heap
section
variable {K:Ctx0} {C:Cx} {env:Env} {st st₁:St} {objs objs₁ objs₂:Objs} {ow ow':Addr→Prop} {ρ ρ₁ ρ₂:Rho} {s s₁ s₂:Shared}
theorem Rel.back (R:Rel K C env st ρ s) (W:WStep K objs ow ρ s ρ₁ s₁):Step K C env ⟨st.vars,objs⟩ ow ρ s ρ₁ s₁:=⟨⟨W.rel,R.f.mv W.mv id fun _=>id⟩,W.mv.mono W.mv.own (fun _=>id) fun _ q=>q.elim⟩
theorem WStep.trans (a:WStep K objs₁ ow ρ s ρ₁ s₁) (b:WStep K objs₂ ow' ρ₁ s₁ ρ₂ s₂) (h:∀x,Live s.heap x→ow' x→ow x):WStep K objs₂ ow ρ s ρ₂ s₂:=⟨b.rel,a.mv.trans b.mv h fun _ _ q=>q⟩
theorem WStep.more (a:WStep K objs₁ ow ρ s ρ₁ s₁) (o:∀b,ow' b→ρ.k b= .hid) (h:∀b,ow b→ow' b):WStep K objs₁ ow' ρ s ρ₁ s₁:=⟨a.rel,a.mv.mono o h fun _ q=>q⟩
theorem Step.out (S:Step K C env st ow ρ₁ s₁ ρ₂ s₂) (M:Mv No No ρ ρ₁ s.heap s₁.heap) (o:∀b,ow' b→ρ.k b= .hid) (h:∀b,Live s.heap b→ow b→ow' b) (n:∀b,Live s.heap b→Fe C env b→False):WStep K st.objs ow' ρ s ρ₂ s₂:=
  ⟨S.rel.w,(M.mono o (fun _ q=>q.elim) fun _=>id).trans S.mv h fun b l q=>(n b l q).elim⟩
theorem EPs.call {p:List V×St} {vals:List Value} (X:EPs K C env p ρ s vals ρ₁ s₁) (W:WStep K objs (Ows p.1 vals) ρ₁ s₁ ρ₂ s₂):Step K C env ⟨p.2.vars,objs⟩ No ρ s ρ₂ s₂:=X.step.trans (X.step.rel.back W) fun b l o=>X.new b o l
end
theorem lk_cons {α:Type} {x y:Str} {v:α} {r:List (Str×α)}:((y,v)::r).lookup x=if x=y then some v else r.lookup x:=by
  rw[List.lookup_cons]
  by_cases h:x=y
  · subst h;rw[beq_self_eq_true,if_pos rfl]
  · rw[beq_false_of_ne h,if_neg h]
theorem lk_mem {α:Type} {x:Str} {v:α}:∀{r:List (Str×α)},r.lookup x=some v→(x,v)∈r
  | (y,u)::r,e=>by
    rw[lk_cons]at e
    by_cases h:x=y
    · subst h;rw[if_pos rfl]at e;cases e;exact .head _
    · rw[if_neg h]at e;exact .tail _ (lk_mem e)
theorem scOk.kind {sc:Scope} (h:scOk sc=true):sc.kind= .function:=of_decide_eq_true (Bool.and_eq_true _ _ ▸ h:_∧_).1
theorem scOk.mem {sc:Scope} (h:scOk sc=true) {n:Str} {k:NameKind}:(n,k)∈sc.names↔sc.names.lookup n=some k:=⟨fun q=>of_decide_eq_true (List.all_eq_true.mp (Bool.and_eq_true _ _ ▸ h:_∧sc.names.all (fun x=>decide (sc.names.lookup x.1=some x.2))=true).2 _ q),lk_mem⟩
noncomputable def InjL (cs:List (Str×Addr)):Prop:=∀{x y c},cs.lookup x=some c→cs.lookup y=some c→x=y
structure CS (names:List (Str×NameKind)) (h:Heap) (acc cs:List (Str×Addr)) (h':Heap):Prop where
  inj:InjL cs
  new:∀{x},(x,.cell)∈names→∃c,cs.lookup x=some c∧h.objs.size≤c∧h'.IsCell c none
  old:∀{x},(x,.cell)∉names→cs.lookup x=acc.lookup x
theorem cells_spec:∀(names:List (Str×NameKind)) (h:Heap) (acc:List (Str×Addr)),(∀{x c},acc.lookup x=some c→c<h.objs.size)→InjL acc→CS names h acc (cellsFrom h.objs.size names acc) (pushCells h names)
  |[],h,acc,hl,hi=>⟨hi,nofun,fun _=>rfl⟩
  | (nm,k)::r,h,acc,hl,hi=>by
    by_cases hk:k= .cell
    · subst hk
      have hs:(h.push {cls:= .type "cell",data:= .cell none}).objs.size=h.objs.size+1:=Heap.size_push ..
      obtain⟨a,b,c⟩:=cells_spec r (h.push {cls:= .type "cell",data:= .cell none}) ((nm,h.objs.size)::acc)
        (fun {x c} q=>by
          rw[lk_cons]at q;rw[hs]
          by_cases e:x=nm
          · rw[if_pos e]at q;cases q;exact Nat.lt_succ_self _
          · rw[if_neg e]at q;exact Nat.lt_succ_of_lt (hl q))
        (fun {x y c} p q=>by
          rw[lk_cons]at p q
          by_cases e:x=nm<;>by_cases e':y=nm
          · exact e.trans e'.symm
          · rw[if_pos e]at p;rw[if_neg e']at q;cases p;exact absurd (hl q) (Nat.lt_irrefl _)
          · rw[if_neg e]at p;rw[if_pos e']at q;cases q;exact absurd (hl p) (Nat.lt_irrefl _)
          · rw[if_neg e]at p;rw[if_neg e']at q;exact hi p q)
      rw[hs]at a b c
      refine⟨a,fun {x} q=>?_,fun {x} q=>?_⟩
      · by_cases m:(x,NameKind.cell)∈r
        · exact let⟨c,h1,h2,h3⟩:=b m;⟨c,h1,Nat.le_of_succ_le h2,h3⟩
        · obtain rfl:x=nm:=(List.mem_cons.mp q).elim (fun e=>(Prod.mk.inj e).1) fun e=>absurd e m
          exact⟨_,(c m).trans (lk_cons.trans (if_pos rfl)),Nat.le_refl _,_,pushCells_keeps r _ _ _ (Heap.get?_push_size _ rfl),rfl⟩
      · exact(c fun m=>q (.tail _ m)).trans (lk_cons.trans (if_neg fun e=>q (by subst e;exact .head _)))
    · obtain⟨a,b,c⟩:=cells_spec r h acc hl hi
      have e1:cellsFrom h.objs.size ((nm,k)::r) acc=cellsFrom h.objs.size r acc:=if_neg (by cases k<;>first |exact absurd rfl hk |decide)
      have e2:pushCells h ((nm,k)::r)=pushCells h r:=if_neg (by cases k<;>first |exact absurd rfl hk |decide)
      rw[e1,e2]
      exact⟨a,fun q=>b ((List.mem_cons.mp q).elim (fun e=>absurd (Prod.mk.inj e).2.symm hk) id),fun q=>c fun m=>q (.tail _ m)⟩
theorem localNames_mem {sc:Scope} (h:scOk sc=true) {x:Str}:x∈localNames sc↔sc.names.lookup x=some .local∨sc.names.lookup x=some .cell:=by
  unfold localNames
  rw[List.mem_filterMap]
  constructor
  · rintro⟨⟨n,k⟩,hm,hk⟩
    have:=(scOk.mem h).mp hm
    cases k<;>cases hk
    · exact .inl this
    · exact .inr this
  · rintro(q |q)
    · exact⟨_,lk_mem q,rfl⟩
    · exact⟨_,lk_mem q,rfl⟩
theorem lookup_nones:∀(l:List Str) (r:Vars) (x:Str),((l.map fun x=>(x,(none:Option V)))++r).lookup x=if x∈l then some none else r.lookup x
  |[],r,x=>(if_neg List.not_mem_nil).symm
  | y::l,r,x=>by
    rw[List.map_cons,List.cons_append,lk_cons,lookup_nones l r x]
    by_cases h:x=y
    · subst h;rw[if_pos rfl,if_pos (.head _)]
    · rw[if_neg h];simp[h]
open Classical in
noncomputable def Rho.frame (ρ:Rho) (L:Addr) (cs:List (Str×Addr)):Rho:=⟨fun b=>if b=L∨∃x,cs.lookup x=some b then .frm else ρ.k b,ρ.c⟩
noncomputable def VsOK (K:Ctx0) (C:Cx) (cl:List (Str×Addr)) (h:Heap) (ρ:Rho) (vs:Vars):Prop:=∀{x ov},vs.lookup x=some ov→((C.sc.names.lookup x=some .local∨C.sc.names.lookup x=some .cell)∧ov=none)∨(C.sc.names.lookup x=some .free∧∃c w,cl.lookup x=some c∧h.IsCell c w∧OR K h ρ ov w)
structure NF (K:Ctx0) (C:Cx) (env:Env) (st:St) (ρ ρ₁:Rho) (s s₁:Shared):Prop where
  rel:Rel K C env st ρ₁ s₁
  mv:Mv No No ρ ρ₁ s.heap s₁.heap
  new:∀b,Live s.heap b→Fe C env b→False
  loc:¬Live s.heap env.locals
  one:InjL env.cells
  has:∀{x},C.sc.names.lookup x=some .cell∨C.sc.names.lookup x=some .free→(env.cells.lookup x).isSome=true
theorem RelW.newFrame {K:Ctx0} {objs:Objs} {ρ:Rho} {s:Shared} (W:RelW K objs ρ s) {C:Cx} {env:Env} {vs:Vars} {cl:List (Str×Addr)} {cls:Value} {tk:Nat} (hsc:scOk C.sc=true) (hfr:∀{x},C.sc.names.lookup x=some .free→(cl.lookup x).isSome=true)
    (hclo:∀{n c},cl.lookup n=some c→ρ.k c= .frm∧∃w,s.heap.IsCell c w) (hinj:InjL cl) (hL:env.locals=s.heap.objs.size) (hcs:env.cells=cellsFrom (s.heap.objs.size+1) C.sc.names cl) (hvs:VsOK K C cl s.heap ρ vs):
    NF K C env ⟨vs,objs⟩ ρ (ρ.frame env.locals env.cells) s {s with heap:=pushCells (s.heap.push {cls:=cls,data:= .dict #[]}) C.sc.names,toks:=tk}:=by
  have hs:(s.heap.push {cls:=cls,data:= .dict #[]}).objs.size=s.heap.objs.size+1:=Heap.size_push ..
  obtain⟨inj,new,old⟩:=cells_spec C.sc.names (s.heap.push {cls:=cls,data:= .dict #[]}) cl (fun q=>by rw[hs];exact Nat.lt_succ_of_lt (let⟨_,w,i⟩:=hclo q;i.lt)) hinj
  rw[hs,←hcs]at inj new old
  have up:Up s.heap (pushCells (s.heap.push {cls:=cls,data:= .dict #[]}) C.sc.names):=fun b o e=>pushCells_keeps _ _ b o (Heap.get?_push_of_some _ e)
  have fo:(pushCells (s.heap.push {cls:=cls,data:= .dict #[]}) C.sc.names).Ns env.locals (fun _=>none):=hL ▸ (Heap.Ns.new s.heap cls).keeps (pushCells_keeps _ _)
  have nL:¬Live s.heap env.locals:=hL ▸ not_live_size
  have newC:∀{x c},env.cells.lookup x=some c→(ρ.k c= .frm∧∃w,s.heap.IsCell c w)∨(¬Live s.heap c∧(pushCells (s.heap.push {cls:=cls,data:= .dict #[]}) C.sc.names).IsCell c none):=fun {x c} q=>by
    by_cases m:(x,NameKind.cell)∈C.sc.names
    · obtain⟨c',h1,h2,h3⟩:=new m
      rw[q]at h1;cases h1
      exact .inr ⟨not_live_ge (Nat.le_of_succ_le h2),h3⟩
    · exact .inl (hclo ((old m).symm.trans q))
  have cel:∀{x c},env.cells.lookup x=some c→∃w,(pushCells (s.heap.push {cls:=cls,data:= .dict #[]}) C.sc.names).IsCell c w:=fun q=>(newC q).elim (fun z=>let⟨w,i⟩:=z.2;⟨w,i.keeps up⟩) fun z=>⟨_,z.2⟩
  have kf:∀{b},b=env.locals∨(∃x,env.cells.lookup x=some b)→(ρ.frame env.locals env.cells).k b= .frm:=fun q=>if_pos q
  have kn:∀{b},¬(b=env.locals∨∃x,env.cells.lookup x=some b)→(ρ.frame env.locals env.cells).k b=ρ.k b:=fun q=>if_neg q
  have ke:∀b,Live s.heap b→(ρ.frame env.locals env.cells).k b=ρ.k b:=fun b l=>by
    by_cases q:b=env.locals∨∃x,env.cells.lookup x=some b
    · obtain rfl | ⟨x,e⟩:=id q
      · exact absurd l nL
      · exact(kf q).trans ((newC e).elim (fun z=>z.1.symm) fun z=>absurd l z.1)
    · exact kn q
  have nc:∀{b i},(ρ.frame env.locals env.cells).k b= .cell i→ρ.k b= .cell i:=fun {b i} e=>by
    by_cases q:b=env.locals∨∃x,env.cells.lookup x=some b
    · rw[kf q]at e;cases e
    · rwa [kn q]at e
  have M:Mv No No ρ (ρ.frame env.locals env.cells) s.heap (pushCells (s.heap.push {cls:=cls,data:= .dict #[]}) C.sc.names):= .grow (fun _ q=>q.elim) up ke fun i a q=>⟨q.1,(ke a (W.kl (by rw[q.2];nofun))).trans q.2⟩
  refine⟨⟨W.mv (s':={s with heap:=pushCells (s.heap.push {cls:=cls,data:= .dict #[]}) C.sc.names,toks:=tk}) M (W.store.same M (fun _ b o _ e=>up b o e) fun q=>W.store.lt (nc q)) (fun {b} n=>?_) rfl rfl,⟨kf (.inl rfl),⟨_,fo,fun {x ov} hx=>?_⟩,fun {x c} hc=>⟨kf (.inr ⟨x,hc⟩),cel hc⟩⟩⟩,M,fun b l q=>?_,nL,inj,fun {x} hx=>?_⟩
  · by_cases q:b=env.locals∨∃x,env.cells.lookup x=some b
    · obtain rfl | ⟨x,e⟩:=q
      · exact let⟨o,_,_,e,_⟩:=fo;⟨o,e⟩
      · exact let⟨w,o,e,_⟩:=cel e;⟨o,e⟩
    · exact M.live (W.kl fun e=>n ((kn q).trans e)) id
  · rcases hvs hx with⟨hk,rfl⟩ | ⟨hk,c,w,hc,hi,ho⟩
    · refine⟨fun _=>rfl,fun q=>?_⟩
      obtain⟨c,h1,_,h3⟩:=new ((scOk.mem hsc).mpr (q.elim id fun q=>by rw[q]at hk;exact hk.elim nofun nofun))
      exact⟨c,none,h1,h3,rfl⟩
    · exact⟨fun q=>(by rw[hk]at q;cases q),fun _=>⟨c,w,(old fun q=>by rw[(scOk.mem hsc).mp q]at hk;cases hk).trans hc,hi.keeps up,ho.mv M⟩⟩
  · rcases q with rfl | ⟨x,hk,hx⟩
    · exact nL l
    · obtain⟨c',h1,h2,_⟩:=new ((scOk.mem hsc).mpr hk)
      rw[hx]at h1;cases h1
      exact not_live_ge (Nat.le_of_succ_le h2) l
  · rcases hx with hx |hx
    · obtain⟨c,h1,_⟩:=new ((scOk.mem hsc).mpr hx);rw[h1];rfl
    · rw[old fun q=>by rw[(scOk.mem hsc).mp q]at hx;cases hx];exact hfr hx
end Mine
end
section
open PySem PySem.W PyProof.Rows
namespace Mine
noncomputable def FlowOK (K:Ctx0) (h₀ h:Heap) (ρ:Rho) (fl:Fl) (f:Flow):Prop:=match fl with
  | .next=>f= .next
  | .brk=>f= .brk
  | .cont=>f= .cont
  | .ret v=>∃val,f= .ret val∧VR K h ρ v val∧∀a,Ow v val a→¬Live h₀ a
structure FP (K:Ctx0) (C:Cx) (env:Env) (p:Fl×St) (ρ:Rho) (s:Shared) (f:Flow) (ρ':Rho) (s':Shared):Prop where
  step:Step K C env p.2 No ρ s ρ' s'
  flow:FlowOK K s.heap s'.heap ρ' p.1 f
noncomputable def PostF (K:Ctx0) (C:Cx) (env:Env) (P:Fl×St→Prop) (ρ:Rho) (s:Shared) (Q:Flow→Shared→Prop):Prop:=∀p f ρ' s',P p→FP K C env p ρ s f ρ' s'→Q f s'
section
variable {K:Ctx0} {C:Cx} {env:Env} {st st₁:St} {P:Fl×St→Prop} {ρ ρ₁ ρ₂:Rho} {s s₁ s₂:Shared} {Q:Flow→Shared→Prop}
theorem FP.aft {p:Fl×St} {f:Flow} (S:Step K C env st No ρ s ρ₁ s₁) (X:FP K C env p ρ₁ s₁ f ρ₂ s₂):FP K C env p ρ s f ρ₂ s₂:=by
  refine⟨S.aft X.step,?_⟩
  have:=X.flow
  revert this
  cases p.1 with
  |ret v=>exact fun⟨val,e,r,n⟩=>⟨val,e,r,fun a o l=>n a o (S.mv.live l id)⟩
  |_=>exact id
theorem PostF.aft (h:PostF K C env P ρ s Q) (S:Step K C env st No ρ s ρ₁ s₁):PostF K C env P ρ₁ s₁ Q:=fun p f ρ' s' e X=>h p f ρ' s' e (X.aft S)
theorem PostF.next (h:PostF K C env P ρ s Q) (S:Step K C env st No ρ s ρ₁ s₁) (e:P (.next,st)):Q .next s₁:=h (.next,st) _ _ _ e ⟨S,rfl⟩
end
section
variable (prog:Program) (w:World) (G:Env') (K:Ctx0)
noncomputable def SX (n:Nat) (C:Cx) (f:Stmt→St→Option (Fl×St)):Prop:=∀{b st P},Hd (f b st) P→∀{A s ρ env Q E},AOK A n→EnvOK K C env→Rel K C env st ρ s→PostF K C env P ρ s Q→wpAny (model prog w) A (exec b env) Q E s
structure FnOK (F:Fn) (a:Addr) (o:Obj) (fd:FuncData):Prop where
  at_:K.h₀.get? a=some o
  data:o.data= .func fd
  scope:fd.scope=F.scope
  body:fd.body= .stmts F.body
  clo:fd.closure=[]
  glob:fd.globals=K.gl
  bui:fd.builtins=builtinsNs
  code:K.h₀.CodeRec fd.code fd.qualname
  noco:fd.scope.isCoroutine=false
  nogen:fd.scope.isGenerator=false
  ok:scOk F.scope=true
  nofree:∀{x},F.scope.names.lookup x≠some .free
  cls:o.cls= .type "function"
  bind:∀{objs ρ s vs ks vals kvals} {P:List (Str×V)→Prop},RelW K objs ρ s→VRs K s.heap ρ (vs++ks.map Prod.snd) (vals++kvals)→vals.length=vs.length→kvals.length=ks.length→Hd (bindFn F vs ks) P→∀{A E} {Q:List (Str×Value)→Shared→Prop},
    (∀bs bvals ρ' s',P bs→WStep K objs No ρ s ρ' s'→VRs K s'.heap ρ' (bs.map Prod.snd) bvals→(∀a,Ows (bs.map Prod.snd) bvals a→Ows (vs++ks.map Prod.snd) (vals++kvals) a)→Q ((bs.map Prod.fst).zip bvals) s')→wpAny (model prog w) A (bindArgs fd ⟨vals,(ks.map Prod.fst).zip kvals⟩) Q E s
structure Defs (fa:Str→Addr):Prop where
  lim:K.h₀.NoLimit
  fns:∀{f F},G.fn f=some F→∃o fd,FnOK prog w K F (fa f) o fd
noncomputable def PostC (P:V×Objs→Prop) (ow:Addr→Prop) (ρ:Rho) (s:Shared) (Q:Value→Shared→Prop):Prop:=∀p val ρ' s',P p→WStep K p.2 ow ρ s ρ' s'→VR K s'.heap ρ' p.1 val→(∀a,Ow p.1 val a→¬Live s.heap a)→Q val s'
noncomputable def SC (fa:Str→Addr) (n:Nat) (f:Str→List V→List (Str×V)→Objs→Option (V×Objs)):Prop:=∀{g vs ks o P},Hd (f g vs ks o) P→(∃F,G.fn g=some F)∧
  ∀{A s ρ vals kvals Q E},AOK A n→RelW K o ρ s→VRs K s.heap ρ (vs++ks.map Prod.snd) (vals++kvals)→vals.length=vs.length→kvals.length=ks.length→PostC K P (Ows (vs++ks.map Prod.snd) (vals++kvals)) ρ s Q→wpAny (model prog w) A (PySem.call (.ref (fa g)) vals ((ks.map Prod.fst).zip kvals)) Q E s
end
section
variable {prog:Program} {w:World} {G:Env'} {K:Ctx0} {A:Around} {E:Value→Shared→Prop} {C:Cx} {env:Env} {n:Nat}
theorem wp_exs {f:Stmt→St→Option (Fl×St)} (X:SX prog w K n C f) (hA:AOK A n) (O:EnvOK K C env):∀(b:List Stmt) {st P s ρ Q},Hd (exs f b st) P→Rel K C env st ρ s→PostF K C env P ρ s Q→wpAny (model prog w) A (execs b env) Q E s
  |[],_,_,_,_,_,e,R,h=>wpAny_execs_nil (h.next R.at0 e)
  | x ::b,_,_,_,_,_,e,R,h=>wpAny_execs_cons (X (Hd.b e) hA O R fun p f ρ₁ s₁ e Y=>by
      obtain⟨fl,st₁⟩:=p
      have S:=Y.step
      have fw:=Y.flow
      cases fl with
      |next=>cases(fw:f=_);exact wp_exs X hA O b e S.rel (h.aft S)
      |brk=>cases(fw:f=_);exact h _ _ _ _ e Y
      |cont=>cases(fw:f=_);exact h _ _ _ _ e Y
      |ret v=>obtain⟨val,rfl,-⟩:=fw;exact h _ _ _ _ e Y)
theorem fold_hd {bs:List (Str×V)} {P:St→Prop}:∀{x:Option St},Hd (bs.foldl (fun(s:Option St) (b:Str×V)=>s.bind fun st=>bindN C b.1 b.2 st) x) P→Hd x fun st=>Hd (bs.foldl (fun(s:Option St) (b:Str×V)=>s.bind fun st=>bindN C b.1 b.2 st) (some st)) P
  |some _,h=>h
  | none,h=>by
    induction bs with
    |nil=>exact h
    |cons b bs ih=>exact absurd (ih h) id
theorem wp_binds (O:EnvOK K C env) (f:Str×Value→PUnit→Sem (ForInStep PUnit)) (hf:∀n v u,f (n,v) u=(do storeName env n v;pure (.yield ⟨⟩))):∀(bs:List (Str×V)) {vals st P ρ s} {Q:PUnit→Shared→Prop},Rel K C env st ρ s→
    Hd (bs.foldl (fun(s:Option St) (b:Str×V)=>s.bind fun st=>bindN C b.1 b.2 st) (some st)) P→VRs K s.heap ρ (bs.map Prod.snd) vals→
    (∀st' ρ' s',P st'→Step K C env st' (Ows (bs.map Prod.snd) vals) ρ s ρ' s'→(∀b,Live s.heap b→Live s'.heap b)→Q ⟨⟩ s')→wpAny (model prog w) A (forIn ((bs.map Prod.fst).zip vals) ⟨⟩ f) Q E s
  |[],_,st,_,ρ,s,_,R,e,rs,h=>wpAny_pure (h st ρ s e (R.stay fun b o=>(VRs.own rs o).1) fun _ l=>l)
  | (x,v)::bs,_,_,_,_,_,_,R,e,rs,h=>by
    have own:=fun b o=>(VRs.own rs (b:=b) o).1
    obtain⟨rfl,a,r,d⟩:=rs
    show wpAny _ A (forIn ((x,_)::(bs.map Prod.fst).zip _) _ _) _ E _
    rw[List.forIn_cons,hf]
    exact wpAny_bind (wpAny_bind (wp_bindN O R (fold_hd e:Hd (bindN C x v _) _) a fun st₁ ρ₁ s₁ e S l=>wpAny_pure (wp_binds O f hf bs S.rel e (r.mv S.mv fun b o o'=>d b o' o) fun st' ρ' s' e S' l'=>
      h st' ρ' s' e ((S.more own fun _=> .inl).trans S' fun _ _=> .inr) fun b q=>l' b (l b q))))
theorem wp_newFn {objs:Objs} {ρ:Rho} {s:Shared} (W:RelW K objs ρ s) {cl:List (Str×Addr)} {qual:Str} {func:Option Addr} {code:Value} {around:Option Env} {builtins:Addr} {vs:Vars} {bs:List (Str×V)} {vals:List Value} {P:St→Prop} {Q:Env→Shared→Prop}
    (hsc:scOk C.sc=true) (hfr:∀{x},C.sc.names.lookup x=some .free→(cl.lookup x).isSome=true) (hclo:∀{n c},cl.lookup n=some c→ρ.k c= .frm∧∃w,s.heap.IsCell c w) (hinj:InjL cl) (hbu:(match around with |none=>builtins |some o=>o.builtins)=builtinsNs) (hvs:VsOK K C cl s.heap ρ vs)
    (e:Hd (bs.foldl (fun(s:Option St) (b:Str×V)=>s.bind fun st=>bindN C b.1 b.2 st) (some ⟨vs,objs⟩)) P) (rs:VRs K s.heap ρ (bs.map Prod.snd) vals)
    (h:∀env st' ρ₁ s₁ ρ' s',P st'→EnvOK K C env→NF K C env ⟨vs,objs⟩ ρ ρ₁ s s₁→Step K C env st' (Ows (bs.map Prod.snd) vals) ρ₁ s₁ ρ' s'→(∀b,Live s₁.heap b→Live s'.heap b)→Q env s'):
    wpAny (model prog w) A (newFunctionEnv C.sc K.gl cl ((bs.map Prod.fst).zip vals) qual func code around builtins) Q E s:=by
  unfold newFunctionEnv
  refine wpAny_bind (wpAny_alloc ?_)
  refine wpAny_bind (wpAny_layCells _ (fun name kind cells=>by cases hkc:kind==NameKind.cell<;>simp[hkc]) _ _ _ _ ?_)
  have hs:({s with heap:=s.heap.push {cls:= .type (if around.isSome then "dict" else "frame"),data:= .dict #[]}}:Shared).heap.objs.size=s.heap.objs.size+1:=Heap.size_push ..
  rw[hs]
  have N:=W.newFrame (C:=C) (vs:=vs) (cl:=cl) (cls:= .type (if around.isSome then "dict" else "frame")) (tk:=s.toks)
    (env:=newEnv C.sc s.heap.objs.size K.gl (cellsFrom (s.heap.objs.size+1) C.sc.names cl) qual func code around builtins) hsc hfr hclo hinj (by cases around<;>rfl) (by cases around<;>rfl) hvs
  have O:EnvOK K C (newEnv C.sc s.heap.objs.size K.gl (cellsFrom (s.heap.objs.size+1) C.sc.names cl) qual func code around builtins):=by
    refine⟨?_,?_,?_,fun hx=> .inl ?_,N.one,N.has⟩
    · cases around<;>exact scOk.kind hsc
    · cases around<;>rfl
    · cases around<;>exact hbu
    · cases around<;>exact hx
  exact wpAny_bind (wp_binds O _ (fun n v u=>by cases around<;>rfl) bs N.rel e (rs.mv N.mv fun _ _ q=>q) fun st' ρ' s' e S l=>wpAny_pure (by cases around<;>exact h _ _ _ _ _ _ e O N S l))
theorem AOK.deeper {A:Around} (a:AOK A (n+1)) (env:Env):AOK (A.deeper env) n:=⟨a.hand,by have:=a.depth;show A.depth+1+_+_<_;omega,by have:=a.units;simp only[Around.deeper_units];omega⟩
theorem call_body {F:Fn} {a:Addr} {ob:Obj} {fd:FuncData} {vs:List V} {ks:List (Str×V)} {o:Objs} {ρ:Rho} {s:Shared} {vals kvals:List Value} {P:V×Objs→Prop} {P₀:St→Prop} {P₁:Fl×St→Prop} {Q:Value→Shared→Prop} (lim:K.h₀.NoLimit) (FO:FnOK prog w K F a ob fd) (hA:AOK A (n+1)) (W:RelW K o ρ s)
    (rs:VRs K s.heap ρ (vs++ks.map Prod.snd) (vals++kvals)) (hl:vals.length=vs.length) (hkl:kvals.length=ks.length) (h:Hd (bindFn F vs ks) fun bs=>Hd (bindAs F bs o) P₀)
    (X:∀{A st env s ρ Q E},P₀ st→AOK A n→EnvOK K ⟨F.scope,F.mv⟩ env→Rel K ⟨F.scope,F.mv⟩ env st ρ s→PostF K ⟨F.scope,F.mv⟩ env P₁ ρ s Q→wpAny (model prog w) A (execs F.body env) Q E s)
    (hP:∀p,P₁ p→Hd (p.1.val.map fun v=>(v,p.2.objs)) P) (hQ:PostC K P (Ows (vs++ks.map Prod.snd) (vals++kvals)) ρ s Q):wpAny (model prog w) A (PySem.call (.ref a) vals ((ks.map Prod.fst).zip kvals)) Q E s:=by
  refine wpAny_call (codeAny_call_function (by have:=hA.depth;show _<1000;omega) (W.base FO.at_).2 FO.data FO.noco FO.nogen FO.body (FO.code.keeps fun _ _ e=>(W.base e).2) ?_)
  refine FO.bind W rs hl hkl h fun bs bvals ρ₁ s₁ h WS brs hos=>?_
  rw[FO.clo,FO.glob,FO.scope]
  have hvs:VsOK K ⟨F.scope,F.mv⟩ [] s₁.heap ρ₁ ((localNames F.scope).map fun x=>(x,none)):=fun {x ov} hx=>by
    rw[←List.append_nil ((localNames F.scope).map _),lookup_nones]at hx
    split at hx
    · rename_i q;cases hx;exact .inl ⟨(localNames_mem FO.ok).mp q,rfl⟩
    · cases hx
  refine wp_newFn (C:=⟨F.scope,F.mv⟩) WS.rel FO.ok (fun hx=>absurd hx FO.nofree) nofun (fun q=>nomatch q) FO.bui hvs h brs fun env st₀ ρ₂ s₂ ρ₃ s₃ h O N S lS=>⟨lim.keeps fun _ _ e=>(S.rel.w.base e).2,codeAny_func ?_⟩
  have own:∀b,Ows _ _ b→ρ.k b= .hid:=fun b o=>(rs.own o).1
  have fin:∀{st' ρ' s'},Step K ⟨F.scope,F.mv⟩ env st' No ρ₃ s₃ ρ' s'→WStep K st'.objs (Ows (vs++ks.map Prod.snd) (vals++kvals)) ρ s ρ' s':=fun S'=>
    (WS.more own fun _ q=>q.elim).trans ((S.aft S').out N.mv (fun b o=>(brs.own o).1) (fun _ _ o=>o) N.new) fun b _ o=>hos b o
  refine X h (hA.deeper env) O S.rel fun p fw ρ' s' h Y=>?_
  have h:=hP p h
  obtain⟨fl,st'⟩:=p
  have flow:=Y.flow
  cases fl with
  |next=>cases(flow:fw=_);exact hQ (.d .none,st'.objs) _ _ _ h (fin Y.step) rfl fun _ q=>q.elim
  |ret v=>exact let⟨val,e,r,nv⟩:=flow;e ▸ hQ (v,st'.objs) _ _ _ h (fin Y.step) r fun a q l=>nv a q (lS a (N.mv.live (WS.mv.live l id) id))
  |_=>exact h.elim
theorem call_step {fa:Str→Addr} {f:Fs} (D:Defs prog w G K fa) (X:∀C,SX prog w K n C (f.ex C)):SC prog w G K fa (n+1) (callS G f):=fun {g vs ks o P} h=>
  (Hd.b h).get fun F hF h=>⟨⟨F,hF⟩,fun {A s ρ vals kvals Q E} hA W rs hl hkl hQ=>
    let⟨ob,fd,FO⟩:=D.fns hF
    call_body (P₁:=fun p=>Hd (p.1.val.map fun v=>(v,p.2.objs)) P) D.lim FO hA W rs hl hkl ((Hd.b h).get fun bs hb e=> .of hb (Hd.b e)) (fun e hA O R hQ=>wp_exs (X _) hA O F.body (Hd.b e) R hQ) (fun _ e=>e) hQ⟩
end
end Mine
end
section
open PySem PySem.W PyProof.Rows
namespace Mine
inductive PatOK (h:Heap) (a:Addr) (code:Array Nat):Prop where
  | mk {o:Obj} {vs:Array Value} {c:Addr} {oc:Obj} {its:Array Value} {n:Nat} (g:h.get? a=some o) (k:o.cls= .type "re.Pattern") (dn:o.dict=none) (d:o.data= .fields vs) (e5:vs.getD 5 .none= .ref c) (gc:h.get? c=some oc) (dc:oc.data= .seq its n)
    (ei:its.map (fun v=>(Builtin.Re.reRawOf v).toNat)=code) (e6:Builtin.Re.reRawNat (vs.getD 6 .none)=0):PatOK h a code
theorem PatOK.keeps {h h':Heap} {a code} (p:PatOK h a code) (k:Up h h'):PatOK h' a code:=let⟨a,b,c,d,e,f,g,i,j⟩:=p;⟨k _ _ a,b,c,d,e,k _ _ f,g,i,j⟩
noncomputable def nameCode:Array Nat:=#[14,10,4,1,1,22,0,31,16,127,0,13,7,22,0,31,16,127,0,1]
noncomputable def valueCode:Array Nat:=#[14,14,4,1,1,9,4294966783,0,0,2147483648,0,0,0,0,0,13,11,9,4294966783,0,0,2147483648,0,0,0,0,0,1]
theorem name_no {c:Nat} (h1:32≤c) (h2:c≠127) (seen:Sre.Seen):∃s',Sre.inSet nameCode c 20 5 true seen= .ok (false,s'):=
  ⟨_,Eq.trans (b:=ite ((decide (0≤c)&&decide (c≤31))=true) (.ok (true,seen.add 22)) (Sre.inSet nameCode c 19 8 true (seen.add 22))) rfl ((if_neg fun q=>absurd (of_decide_eq_true (Bool.and_eq_true _ _ ▸ q:_∧_).2) (Nat.not_le.mpr h1)).trans
    (Eq.trans (b:=ite ((c==127)=true) (.ok (true,(seen.add 22).add 16)) (Sre.inSet nameCode c 18 10 true ((seen.add 22).add 16))) rfl ((if_neg fun q=>h2 (eq_of_beq q)).trans rfl)))⟩
theorem value_bits:∀c:Fin 256,32≤c.val→c.val≠127→(valueCode.getD (5+(1+c.val / 32)) 0).testBit (c.val % 32)=false:=by decide+kernel
theorem value_no {c:Nat} (h1:32≤c) (h2:c≠127) (seen:Sre.Seen):∃s',Sre.inSet valueCode c 28 5 true seen= .ok (false,s'):=
  ⟨_,Eq.trans (b:=ite ((decide (c<256)&&(valueCode.getD (5+(1+c / 32)) 0).testBit (c % 32))=true) (.ok (true,seen.add 9)) (Sre.inSet valueCode c 27 14 true (seen.add 9))) rfl ((if_neg fun q=>
    have q:=(Bool.and_eq_true _ _ ▸ q:_∧_)
    absurd (q.2.symm.trans (value_bits ⟨c,of_decide_eq_true q.1⟩ h1 h2)) nofun).trans rfl)⟩
noncomputable def Refuses (code:Array Nat) (c:Nat):Prop:=∀seen,∃s',Sre.inSet code c code.size 5 true seen= .ok (false,s')
theorem admitted_none (m:Sre.M) (h:∀i,i<m.lim→Refuses m.code (m.text.getD i 0)):∀(fuel s:Nat) (seen:Sre.Seen),∃s',Sre.M.admitted m fuel s seen= .ok (none,s')
  |0,s,seen=>⟨seen,rfl⟩
  | fuel+1,s,seen=>by
    rw[Sre.M.admitted]
    by_cases hs:s≥m.lim
    · exact⟨_,if_pos hs⟩
    · obtain⟨s',e⟩:=h s (Nat.lt_of_not_le hs) seen
      rw[if_neg hs,e]
      exact admitted_none m h fuel (s+1) s'
noncomputable def endM (m:Sre.M):Sre.M:=Sre.M.say {m with frames:=[],outcome:=none} false
theorem endM_of (m:Sre.M) (h1:m.frames=[]) (h2:m.outcome=none):Sre.M.say m false=endM m:=by unfold endM;rw[←h1,←h2]
theorem attemptFrom_no (m:Sre.M) (hf:m.hasFirstSet=true) (h:∀i,i<m.lim→Refuses m.code (m.text.getD i 0)) (h1:m.frames=[]) (h2:m.outcome=none):∃m',m.attemptFrom 0 true=endM m':=by
  obtain⟨s',e⟩:=admitted_none m h (m.lim+1 - 0) 0 m.seen
  refine⟨{m with seen:=s'},?_⟩
  unfold Sre.M.attemptFrom endM
  rw[hf,e,←h1,←h2]
  rfl
theorem search_no {code text:Array Nat} {groups lim:Nat} (hc:code=nameCode∨code=valueCode) (h:∀i,i<lim→Refuses code (text.getD i 0)):∃m,Sre.forSearch code text groups 0 lim false=endM m:=by
  unfold Sre.forSearch
  dsimp only
  split
  · exact⟨_,endM_of _ rfl rfl⟩
  · rcases hc with rfl |rfl<;>exact attemptFrom_no _ rfl h rfl rfl
theorem run_no (m:Sre.M):((endM m).runFor Builtin.Re.reTurnSteps).outcome=some .failed:=rfl
namespace Pt
theorem plainAttrs:PlainAttrs "re.Pattern":=
  ⟨⟨"object.__getattribute__",by rw[typeLookup_type,builtinLookup_eq_fast];rfl',by decide+kernel⟩,by rw[typeLookup_type,builtinLookup_eq_fast];rfl'⟩
theorem slot:Slot "re.Pattern" "search" "re.Pattern.search":=
  .of (owner:="re.Pattern") (n:="search") (by rw[typeLookup_type,builtinLookup_eq_fast];rfl') (by decide+kernel) (by decide+kernel) (by decide+kernel)
    (by first |exact .inl (by decide+kernel) |exact .inr (by decide+kernel)) (by rw[isSubtype_type];rfl')
theorem ty:typeOf (.builtin "re.Pattern.search")=pure (.type "method_descriptor"):=by show builtinType _=_;rw[builtinType_eq_fast];rfl'
theorem entry:entryFor table "re.Pattern.search"=some Builtin.«re.Pattern.search»:=entryFor_of_tree ⋯
theorem args (a b:Value):argsOk "re.Pattern.search" ⟨[a,b],[]⟩:=by
  unfold argsOk;rfl'
end Pt
section
variable {prog:Program} {w:World} {A:Around} {E:Value→Shared→Prop}
theorem wp_rules {M:Model} (f:Nat→PUnit→Sem (ForInStep PUnit)) (hf:∀i u,(∃s,f i u=(do rule s;pure (.yield ⟨⟩)))∨f i u=pure (.yield ⟨⟩)):∀(l:List Nat) {s:Shared} {Q:PUnit→Shared→Prop},Q ⟨⟩ s→wpAny M A (forIn l ⟨⟩ f) Q E s
  |[],s,Q,h=>wpAny_pure h
  | i::l,s,Q,h=>by
    rw[List.forIn_cons]
    rcases hf i ⟨⟩with⟨r,e⟩ |e<;>rw[e]
    · exact wpAny_bind (wpAny_bind (wpAny_rule (wpAny_pure (wp_rules f hf l h))))
    · exact wpAny_bind (wpAny_pure (wp_rules f hf l h))
theorem drive_no (m:Sre.M):Builtin.Re.reDrive (18446744073709551615+1) (endM m)=pure ((endM m).runFor Builtin.Re.reTurnSteps):=by
  rw[Builtin.Re.reDrive]
  exact if_pos (congrArg Option.isSome (run_no m))
theorem wp_runToEnd {M:Model} {m:Sre.M} {s:Shared} {Q:Option Sre.M→Shared→Prop} (h:Q none s):wpAny M A (Builtin.Re.reRunToEnd (endM m)) Q E s:=by
  unfold Builtin.Re.reRunToEnd
  refine wpAny_bind (m:=Builtin.Re.reDrive (2 ^ 64) (endM m)) (wpAny_of_eq (drive_no m) ?_)
  refine wpAny_bind (wp_rules _ (fun i u=>?_) _ ?_)
  · by_cases hq:((endM m).runFor Builtin.Re.reTurnSteps).seen.has i=true
    · exact .inl ⟨_,if_pos hq⟩
    · exact .inr (if_neg hq)
  · rw[run_no];exact wpAny_pure h
theorem wp_search {a:Addr} {code:Array Nat} {x:Str} {t:Tok} {s:Shared} {Q:Value→Shared→Prop} (hp:PatOK s.heap a code) (hc:code=nameCode∨code=valueCode) (hx:((strL x).all fun c=>decide (32≤c)&&c !=127)=true) (h:Q .none s):
    wpAny (model prog w) A (PySem.call (.builtin "re.Pattern.search") [.ref a,.str x t]) Q E s:=by
  obtain @⟨o,vs,c,oc,its,n,h1,h2,h3,h4,h5,h6,h7,h8,h9⟩:=hp
  refine wpAny_call_entry Pt.slot ⟨o,h1,h2⟩ Pt.entry ?_ (Pt.args _ _)
  show wpAny _ _ (Builtin.Re.reTarget "re.Pattern.search" "search" ⟨[.ref a,.str x t],[]⟩>>=fun t=>Builtin.Re.reAnswer t (Sre.forSearch t.code t.text t.groups t.pos t.lim false)) _ _ s
  refine wpAny_bind ?_
  unfold Builtin.Re.reTarget
  dsimp only
  refine wpAny_bind (wpAny_of_eq (show Builtin.Re.reNamed "re.Pattern.search" "search" ["string","pos","endpos"] 1 [Value.str x t] []=pure [some (.str x t),none,none]from rfl) ?_)
  refine wpAny_bind (wpAny_pure (wpAny_bind (wpAny_pure (wpAny_bind (wpAny_fieldsOf h1 h4 (wpAny_bind (wpAny_of_eq (show Builtin.Re.reTextOf (.str x t)=pure (x.cps,0)from rfl) ?_)))))))
  rw[h9]
  refine wpAny_bind (m:=Builtin.Re.reNoCollectionInside (.str x t) 0) (wpAny_of_eq (show _=pure ()from rfl) ?_)
  refine wpAny_bind (m:=Builtin.Re.reRawItems (vs.getD 5 .none)) ?_
  unfold Builtin.Re.reRawItems
  rw[h5]
  refine wpAny_bind (wpAny_seqItems h6 h7 (wpAny_pure (wpAny_pure ?_)))
  unfold Builtin.Re.reAnswer
  have hcode:(Array.map (fun x=>x.toNat) (Array.map Builtin.Re.reRawOf ((some its).getD #[])))=code:=h8 ▸ Array.map_map
  dsimp only
  rw[hcode,show min (Int.toNat 0) x.cps.size=0 from Nat.zero_min _]
  obtain⟨m,e⟩:=search_no (groups:=Builtin.Re.reRawNat (vs.getD 2 .none)) (lim:=min (Int.toNat (2 ^ 63 - 1)) x.cps.size) (text:=x.cps) hc fun i hi=>by
    have hi':i<x.cps.size:=Nat.lt_of_lt_of_le hi (Nat.min_le_right _ _)
    have hm:x.cps.getD i 0∈strL x:=by
      rw[Array.getD_eq_getD_getElem?,Array.getElem?_eq_getElem hi',Option.getD_some]
      exact Array.mem_toList_iff.mpr (Array.getElem_mem _)
    have q:=(Bool.and_eq_true _ _ ▸ List.all_eq_true.mp hx _ hm:_∧_)
    have q1:=of_decide_eq_true q.1
    have q2:=bne_iff_ne.mp q.2
    rcases hc with rfl |rfl
    · exact name_no q1 q2
    · exact value_no q1 q2
  rw[e]
  exact wpAny_bind (wp_runToEnd (wpAny_pure ⟨_,rfl,h⟩))
end
end Mine
end
section
open PySem PySem.W PyProof.Rows
namespace Mine
structure Wd (prog:Program) (w:World) (K:Ctx0) (G:Env') (fa:Str→Addr):Prop where
  N:Names K G
  D:Defs prog w G K fa
  fnName:∀{f F},G.fn f=some F→isMeth f=false→K.gm f=some (.ref (fa f))
  co:∀{h:Heap} {T:Prop},(∀b o,K.h₀.get? b=some o→h.get? b=some o)→(∀cN nm q bs sn sub col dd k0 k1 k2 k3 k5,h.get? K.cls=some (excClassObj nm q K.cls cN bs [.type "object"] true sn sub false col dd k0 k1 k2 k3 k5 "object.__new__")→h.Ns cN K.mN→T)→T
  nga:K.mN "__getattribute__"=none
  ngx:K.mN "__getattr__"=none
  nsa:K.mN "__setattr__"=none
  nhd:K.mN "_headers"=none
  meth:∀{m F},G.fn ("Headers."++m)=some F→K.mN m=some (.ref (fa ("Headers."++m)))∧m≠"_headers"∧∃y,typeLookup (.type "object") m=pure y
  clsName:K.gm "Headers"=some (.ref K.cls)
  pat:∀b,PatOK K.h₀ (K.pa b) (if b then nameCode else valueCode)
  prim:∀{f g},G.prim f=some g→∃a o fd,K.gm f=some (.ref a)∧K.h₀.get? a=some o∧o.data= .func fd∧∀{x y objs ρ s val A Q E},g x=some y→AOK A 8→RelW K objs ρ s→Rd (Fz s.heap ρ) x val→
    (∀val' ρ' s',WStep K objs No ρ s ρ' s'→Rd (Fz s'.heap ρ') y val'→Q val' s')→wpAny (model prog w) A (PySem.call (.ref a) [val]) Q E s
  bui:∀{f b},bTab.lookup f=some b→K.gm f=none∧K.bm f=some b.val
  sysm:∃o,K.h₀.get? sysModules=some o∧∀ep,o.data≠ .dict #[] ep
  zip:K.gm "zip"=none∧K.bm "zip"=some (.type "zip")
section
variable {prog:Program} {w:World} {G:Env'} {K:Ctx0} {fa:Str→Addr} {A:Around} {E:Value→Shared→Prop} {C:Cx} {env:Env} {st st₁:St} {ρ ρ₁ ρ₂:Rho} {h:Heap} {s s₁ s₂:Shared} {v:V} {val vo:Value} {vs:List V} {vals:List Value} {n:Nat} {f:Fs} {P:V×St→Prop} {Q:Value→Shared→Prop} {pos:Pos} {T:Prop} {m:Str} {i:Nat} {a:Addr}
theorem Rel.up0 (R:Rel K C env st ρ s):Up K.h₀ s.heap:=fun _ _ e=>(R.w.base e).2
inductive IV (K:Ctx0) (h:Heap) (ρ:Rho) (a:Addr) (k:Option Nat):Prop where
  |mk {mA:Str→Option Value} (I:h.Inst a K.cls mA) (hm:∀x:Str,x≠"_headers"→mA x=none) (hk:k.elim (∀x,mA x=none) fun k=>∃l,At ρ k l∧mA "_headers"=some (.ref l)):IV K h ρ a k
theorem InstOK.iv {k:Option Nat} (ha:At ρ i a) (r:InstOK K h ρ i a k):IV K h ρ a k:=by
  obtain⟨g,c,hd,nc,kd,hi⟩:=r
  have ne:∀{d},ρ.k d= .dct i→d≠a:=fun e q=>by rw[q,ha.2]at e;cases e
  cases k with
  |none=>exact⟨⟨_,g,c,nc,.inr ⟨_,hd,ne kd,hi⟩⟩,fun _ _=>rfl,fun _=>rfl⟩
  |some k=>exact let⟨l,hl,hn⟩:=hi;⟨⟨_,g,c,nc,.inr ⟨_,hd,ne kd,hn⟩⟩,fun x hx=>if_neg hx,l,hl,if_pos rfl⟩
theorem instAt_ok {objs:Objs} {P:Option Nat→Prop} (S:Store K h ρ objs) (ha:At ρ i a) (e:Hd (instAt objs i) P) (k:∀k,P k→InstOK K h ρ i a k→T):T:=
  e.b.get fun c hc e=>by
    obtain⟨a',q,r⟩:=S.ok hc
    obtain rfl:a'=a:=q.1.symm.trans ha.1
    cases c with
    |list _=>exact e.elim
    |inst k'=>exact k k' e r
theorem Hd.isSome {α:Type} {x:Option α} (h:x.isSome=true):Hd x fun _=>True:=by
  cases x with
  |none=>cases h
  |some _=>trivial
theorem wp_getMeth (W:Wd prog w K G fa) {F:Fn} {pl:Sem Bool} {Q:Value×List Value→Shared→Prop} (R:Rel K C env st ρ s) (ha:At ρ i a) (hi:Hd (instAt st.objs i) fun _=>True) (hf:G.fn ("Headers."++m)=some F)
    (h:∀o fd,o.data= .func fd→K.h₀.get? (fa ("Headers."++m))=some o→Q (.ref (fa ("Headers."++m)),[.ref a]) s):wpAny (model prog w) A (getMethod (.ref a) m pl) Q E s:=by
  obtain⟨h1,h2,y,hy⟩:=W.meth hf
  obtain⟨ob,fd,FO⟩:=W.D.fns hf
  refine instAt_ok R.w.store ha hi fun k _ r=>W.co R.up0 fun _ _ _ _ _ _ _ _ _ _ _ _ _ hC hN=>?_
  obtain⟨I,hm,-⟩:=r.iv ha
  exact method_of hC hN W.nga W.ngx h1 (R.up0 _ _ FO.at_) FO.cls hy I (hm m h2) (h ob fd FO.data FO.at_)
theorem wp_callObj {g:Str} {p:List V×St} {ks:List (Str×V)} {kvals:List Value} (IC:SC prog w G K fa n f.call) (hA:AOK A n) (Y:EPs K C env (p.1++ks.map Prod.snd,p.2) ρ s (vals++kvals) ρ₁ s₁) (hl:vals.length=p.1.length) (hk:kvals.length=ks.length)
    (hv:At ρ₁ i a) (e:Hd (f.call g (.obj i::p.1) ks p.2.objs) fun r=>P (r.1,⟨p.2.vars,r.2⟩)) (h:Post K C env P ρ s Q):wpAny (model prog w) A (PySem.call (.ref (fa g)) (.ref a::vals) ((ks.map Prod.fst).zip kvals)) Q E s₁:=
  (IC e).2 hA Y.step.rel.w ⟨rfl,⟨a,rfl,hv⟩,Y.vrs,fun _ q=>q.elim⟩ (congrArg Nat.succ hl) hk fun r val ρ' s' e WS rv nv=>
    h.ep e ⟨Y.step.trans (Y.step.rel.back WS) fun b l o=>o.elim id fun o=>Y.new b o l,rv,fun b o l=>nv b o (Y.step.mv.live l id)⟩
theorem wp_append {xs:List PyData} {x:PyData} (R:Rel K C env st ρ s) (ha:At ρ i a) {items:Array Value} {n:Nat} (g:s.heap.get? a=some (lObj items n)) (rr:Rds (Fz s.heap ρ) xs items.toList) (hx:xs.length<maxLen) (d:Rd (Fz s.heap ρ) x val)
    (e:P (.d .none,setCell i (.list (xs++[x])) st)) (h:Post K C env P ρ s Q):wpAny (model prog w) A (PySem.call (.builtin "list.append") [.ref a,val]) Q E s:=by
  have hz:=rr.size
  have hm:=maxLen_le
  refine wpAny_call_entry slot_list_append ⟨_,g,rfl⟩ entry_list_append ?_ (args_list_append _ _)
  show wpAny _ _ (updateSeq a (·.push val)>>=fun _=>ret .none) _ _ s
  obtain⟨n',hd'⟩:∃n',(lObj items n).mapSeq (·.push val)=lObj (items.push val) n':=⟨_,rfl⟩
  refine wpAny_bind (wpAny_updateSeq g rfl (wpAny_pure ⟨.none,rfl,?_⟩) (by omega) (by rw[Array.size_push];omega))
  exact h.ep e ⟨R.setList (items:=items.push val) (n:=n') (t:=s.toks) ha (Heap.SameBut.update ..) ((Heap.get?_update_self _ g (by rw[hd'];rfl)).trans (congrArg some hd')) (by rw[Array.toList_push];exact rr.app (.one d)),rfl,fun _ q=>q.elim⟩
theorem Hd.nilK {α β:Type} {l:List α} {k:Option β} {P:β→Prop} (h:Hd (Mine.nil l k) P):l=[]∧Hd k P:=h.nil fun q e=>⟨q,e⟩
theorem meth_facts {args:List Expr} {kws:List Keyword} {P:List V×St→List (Str×V)×St→Prop} (IE:SE prog w K n C (f.ev C)) (e:Hd (evs (f.ev C) args st) fun p=>Hd (evKws (f.ev C) kws p.2) (P p)):(backTo pos (starEach args env)).any (·.1)=false∧(backTo pos (starEach args env)).all (!·.1)=true∧KwOK (kwE pos kws env) kws:=
  have a:=plain_args (env:=env) (pos:=pos) (fun e=>(IE e).1) e
  ⟨a.1,a.2,e.get fun p _ e=>kwOK e⟩
theorem kws_nil {f:Expr→St→Option (V×St)} {kws:List Keyword} {P:List (Str×V)×St→Prop} (e:Hd (evKws f kws st) P) (h:∀q,P q→q.1=[]):kws=[]:=by
  cases kws with
  |nil=>rfl
  |cons k ks=>exact(Hd.b e).get fun nm _ e=>(Hd.b e).get fun p _ e=>(Hd.m e).get fun q _ e=>nomatch h _ e
theorem wp_methB {args:List Expr} {kws:List Keyword} {id:String} {P:List V×St→List (Str×V)×St→Prop} (IE:SE prog w K n C (f.ev C)) (e:Hd (evs (f.ev C) args st) fun p=>Hd (evKws (f.ev C) kws p.2) (P p)) (hk:∀p q,P p q→q.1=[]) (hA:AOK A n) (O:EnvOK K C env) (R:Rel K C env st ρ s)
    (h:∀p vals ρ' s',P p ([],p.2)→EPs K C env p ρ s vals ρ' s'→wpAny (model prog w) A (PySem.call (.builtin id) (val::vals)) Q E s'):wpAny (model prog w) A (callWith pos (.builtin id) [val] (backTo pos (starEach args env)) (kwE pos kws env)) Q E s:=by
  obtain rfl:kws=[]:=e.get fun p _ e=>kws_nil e (hk p)
  exact Calls.callWith_builtin (meth_facts IE e).1 (wp_args IE e hA O R fun p vals ρ' s' e X=>h p vals ρ' s' e X)
theorem wp_upper {x:Str} {t:Tok} (R:Rel K C env st ρ s) (hl:(strL (Txt.upper x)).length≤maxLen) (e:P (.d (.str (Txt.upper x)),st)) (h:Post K C env P ρ s Q):wpAny (model prog w) A (PySem.call (.builtin "str.upper") [.str x t]) Q E s:=by
  have h2:(Txt.upper x).length≤sizeLine:=str_len (Txt.upper x) ▸ Nat.le_trans hl maxLen_le
  exact call_gives F.slot_str_upper (typeIs_str _ _ _) F.entry_str_upper (F.args_str_upper_1 _) (gives_str_upper x t (decide_eq_false (Nat.not_lt.mpr h2))) ⟨h2,Post.x h R e⟩
theorem wp_count {x:Str} {t:Tok} (R:Rel K C env st ρ s) (e:Hd ((asS v).map fun y=>V.d (.int (Builtin.Str.occurrences x y 0 x.length (x.length+1)).length)) fun v=>P (v,st)) (r:VR K s.heap ρ v vo) (h:Post K C env P ρ s Q):wpAny (model prog w) A (PySem.call (.builtin "str.count") [.str x t,vo]) Q E s:=
  Hd.str (Hd.m e) r fun y u q e=>q ▸ call_gives F.slot_str_count (typeIs_str _ _ _) F.entry_str_count (F.args_str_count_2 _ _) (gives_str_count x y t u) (Post.i h R e)
theorem wp_index {xs:List PyData} {y:PyData} {o:Obj} {items:Array Value} {m:Nat} (hA:AOK A n) (R:Rel K C env st ρ s) (g:s.heap.get? a=some o) (c:o.cls= .type "list") (d:o.data= .seq items m) (rr:Rds (Fz s.heap ρ) xs items.toList) (ry:Rd (Fz s.heap ρ) y val) (hl:xs.length≤maxLen) (e:Hd (idxL y xs) fun i=>P (.d (.int i),st)) (h:Post K C env P ρ s Q):
    wpAny (model prog w) A (PySem.call (.builtin "list.index") [.ref a,val]) Q E s:=by
  refine e.g fun hk e=>e.get fun j hj e=>?_
  obtain⟨k1,k2⟩:=Bool.and_eq_true _ _ ▸ hk
  obtain⟨bs,r1⟩:=ry.reads And.right
  obtain⟨cs,r2⟩:=rr.reads And.right
  obtain⟨hlt,hit,hno⟩:=List.findIdx?_eq_some_iff_getElem.mp hj
  have hz:=rr.size
  have em:=SeqAt.readsAll_map xs _ _ (okDs_lay k2) r2
  have at_ {i:Nat} (hi:i<items.size) (hx:i<xs.length):SeqAt.readOf s.heap items[i]=xs[i]:=by
    have q:(items.toList.map (SeqAt.readOf s.heap))[i]?=xs[i]?:=congrArg (·[i]?) em
    rw[List.getElem?_map,List.getElem?_eq_getElem hx,List.getElem?_eq_getElem (show i<items.toList.length from hi)]at q
    exact Option.some.inj q
  have hm:1+min (PyData.depthAll xs) y.depth≤60:=by have:=Nat.min_le_right (PyData.depthAll xs) y.depth;have:=(okD_lay k1).2;omega
  have hu:A.units+1+min (PyData.depthAll xs) y.depth<PySem.cLine:=Nat.add_assoc .. ▸ hA.cLine hm
  obtain⟨cls,dd,data,sl⟩:=o
  cases c;cases d
  refine call_meets F.slot_list_index ⟨_,g,rfl⟩ F.entry_list_index (F.args_list_index_2 _ _) (SeqAt.list_indexAt a items m dd sl val (fun v=>PyData.eqv (SeqAt.readOf s.heap v) y) j (hz ▸ hlt) ?_ ?_ ?_) ⟨g,SeqAt.items_eqAt r2 r1 (okDs_lay k2) (okD_lay k1).1 hu,Post.i h R e⟩
  · have hj':=Nat.lt_of_lt_of_le hlt hl
    have:maxLen=1000000:=rfl
    omega
  · show PyData.eqv (SeqAt.readOf s.heap items[j]) y=true
    rw[at_ (hz ▸ hlt) hlt];exact hit
  · intro i hi lt
    show PyData.eqv (SeqAt.readOf s.heap items[i]) y=false
    rw[at_ hi (Nat.lt_trans lt hlt)];exact Bool.eq_false_iff.mpr (hno i lt)
theorem cm_lower {o:Objs} {y:Str}:callM o y "lower" vs=nil vs (gd (decide ((strL y).length≤maxLen)) (some (.d (.str (Txt.lower y))))):=⋯
theorem cm_upper {o:Objs} {y:Str}:callM o y "upper" vs=nil vs (gd (decide ((strL (Txt.upper y)).length≤maxLen)) (some (.d (.str (Txt.upper y))))):=⋯
theorem cm_join {o:Objs} {y:Str}:callM o y "join" vs=one vs fun l=>(listOf o l).bind fun xs=>(strs? xs).bind fun ys=>gd (JoinOk y ys) (some (.d (.str (Txt.join y ys)))):=⋯
theorem cm_count {o:Objs} {y:Str}:callM o y "count" vs=one vs fun v=>(asS v).map fun z=> .d (.int (Builtin.Str.occurrences y z 0 y.length (y.length+1)).length):=⋯
theorem of_cm {o:Objs} {y:Str} {α:Type} {g:V→α} {P:α→Prop} {r:Option V} (q:callM o y m vs=r) (e:Hd ((callM o y m vs).map g) P):Hd r fun v=>P (g v):=q ▸ Hd.m e
theorem wp_txt {y:Str} {args:List Expr} {kws:List Keyword} {pl:Sem Bool} (IE:SE prog w K n C (f.ev C)) (hr:recvOk st.objs m (.d (.str y))=true) (e:Hd (evs (f.ev C) args st) fun p=>Hd (evKws (f.ev C) kws p.2) fun q=>Hd (methApp f m p.1 q.1 q.2 (.d (.str y))) P) (r:Rd (Fz s.heap ρ) (.str y) val)
    (hA:AOK A n) (O:EnvOK K C env) (R:Rel K C env st ρ s) (h:Post K C env P ρ s Q):wpAny (model prog w) A (getMethod val m pl) (fun x s₂=>wpAny (model prog w) A (callWith pos x.1 x.2 (backTo pos (starEach args env)) (kwE pos kws env)) Q E s₂) E s:=by
  have hk (p:List V×St) (q:List (Str×V)×St) (e:Hd (methApp f m p.1 q.1 q.2 (.d (.str y))) P):q.1=[]:=(Hd.nilK (k:=(callM q.2.objs y m p.1).map fun r=>(r,q.2)) e).1
  obtain⟨t,rfl⟩:=r
  have hm:((((m==("lower":Str))||(m==("join":Str)))||(m==("upper":Str)))||(m==("count":Str)))=true:=(Bool.or_false _).symm.trans (show(((((m==("lower":Str))||(m==("join":Str)))||(m==("upper":Str)))||(m==("count":Str)))||false)=true from hr)
  rcases Bool.or_eq_true _ _ ▸ hm with hm |hm
  · rcases Bool.or_eq_true _ _ ▸ hm with hm |hm
    · rcases Bool.or_eq_true _ _ ▸ hm with hm |hm
      · obtain rfl:=eq_of_beq hm
        exact getMethod_builtin (typeIs_str _ _ _) F.plainAttrs_str F.slot_str_lower F.type_str_lower nofun (wp_methB IE e hk hA O R fun p vals ρ' s' e X=>
          Hd.nil (of_cm cm_lower e) fun q e=>Hd.gd e fun hl e=>by
            have z:vals=[]:=List.eq_nil_of_length_eq_zero (X.vrs.len.trans (congrArg List.length q))
            exact z ▸ wp_lower X.step.rel hl e (h.aft X.step))
      · obtain rfl:=eq_of_beq hm
        exact getMethod_builtin (typeIs_str _ _ _) F.plainAttrs_str F.slot_str_join F.type_str_join nofun (wp_methB IE e hk hA O R fun p vals ρ' s' e X=>
          Hd.arg1 (of_cm cm_join e) X.vrs fun a u z r e=>z ▸ wp_join X.step.rel e r (h.aft X.step))
    · obtain rfl:=eq_of_beq hm
      exact GM.upper (wp_methB IE e hk hA O R fun p vals ρ' s' e X=>
        Hd.nil (of_cm cm_upper e) fun q e=>Hd.gd e fun hl e=>by
          have z:vals=[]:=List.eq_nil_of_length_eq_zero (X.vrs.len.trans (congrArg List.length q))
          subst z;exact wp_upper X.step.rel hl e (h.aft X.step))
  · obtain rfl:=eq_of_beq hm
    exact GM.count (wp_methB IE e hk hA O R fun p vals ρ' s' e X=>
      Hd.arg1 (of_cm cm_count e) X.vrs fun a u z r e=>z ▸ wp_count X.step.rel e r (h.aft X.step))
theorem wp_lst {xs:List PyData} {args:List Expr} {kws:List Keyword} {pl:Sem Bool} (IE:SE prog w K n C (f.ev C)) (hr:recvOk st.objs m (.d (.list xs))=true) (e:Hd (evs (f.ev C) args st) fun p=>Hd (evKws (f.ev C) kws p.2) fun q=>Hd (methApp f m p.1 q.1 q.2 (.d (.list xs))) P) (r:Rd (Fz s.heap ρ) (.list xs) val)
    (hA:AOK A n) (O:EnvOK K C env) (R:Rel K C env st ρ s) (h:Post K C env P ρ s Q):wpAny (model prog w) A (getMethod val m pl) (fun x s₂=>wpAny (model prog w) A (callWith pos x.1 x.2 (backTo pos (starEach args env)) (kwE pos kws env)) Q E s₂) E s:=by
  have hk (p:List V×St) (q:List (Str×V)×St) (e:Hd (methApp f m p.1 q.1 q.2 (.d (.list xs))) P):q.1=[]:=(Hd.nilK (k:=gd (decide (xs.length≤maxLen)) (one p.1 fun v=>v.dat.bind fun y=>(idxL y xs).map fun(i:Nat)=>(V.d (.int (i:Int)),q.2))) e).1
  obtain rfl:=eq_of_beq (show(m==("index":Str))=true from hr)
  obtain @⟨a,o,items,k,rfl,fz,c,d,q,nd⟩:=(show LA (Fz s.heap ρ) "list" (Rds (Fz s.heap ρ) xs) val from r)
  exact getMethod_builtin ⟨_,fz.2,c⟩ F.plainAttrs_list F.slot_list_index F.type_list_index (fun b e=>by cases e;exact⟨_,fz.2,nd⟩) (wp_methB IE e hk hA O R fun p vals ρ' s' e X=>
    Hd.gd e fun hl e=>Hd.arg1 e X.vrs fun v u z r e=>Hd.dat e r fun y e ry=>z ▸ wp_index hA X.step.rel (X.step.mv.fz fz).2 c d (q.mono X.step.mv.fz) ry hl (Hd.m e) (h.aft X.step))
theorem wp_text {x:PyData} {args:List Expr} {kws:List Keyword} {pl:Sem Bool} (IE:SE prog w K n C (f.ev C)) (hr:recvOk st.objs m (.d x)=true) (e:Hd (evs (f.ev C) args st) fun p=>Hd (evKws (f.ev C) kws p.2) fun q=>Hd (methApp f m p.1 q.1 q.2 (.d x)) P) (r:Rd (Fz s.heap ρ) x val)
    (hA:AOK A n) (O:EnvOK K C env) (R:Rel K C env st ρ s) (h:Post K C env P ρ s Q):wpAny (model prog w) A (getMethod val m pl) (fun x s₂=>wpAny (model prog w) A (callWith pos x.1 x.2 (backTo pos (starEach args env)) (kwE pos kws env)) Q E s₂) E s:=by
  cases x with
  |str y=>exact wp_txt IE hr e r hA O R h
  |list xs=>exact wp_lst IE hr e r hA O R h
  |_=>cases hr
theorem wp_list {args:List Expr} {kws:List Keyword} {pl:Sem Bool} (IE:SE prog w K n C (f.ev C)) (hr:recvOk st.objs m (.hl i)=true) (e:Hd (evs (f.ev C) args st) fun p=>Hd (evKws (f.ev C) kws p.2) fun q=>Hd (methApp f m p.1 q.1 q.2 (.hl i)) P) (ha:At ρ i a)
    (hA:AOK A n) (O:EnvOK K C env) (R:Rel K C env st ρ s) (h:Post K C env P ρ s Q):wpAny (model prog w) A (getMethod (.ref a) m pl) (fun x s₂=>wpAny (model prog w) A (callWith pos x.1 x.2 (backTo pos (starEach args env)) (kwE pos kws env)) Q E s₂) E s:=by
  obtain⟨hm,hi⟩:=Bool.and_eq_true _ _ ▸ hr
  obtain rfl:=eq_of_beq hm
  refine listAt_ok R.w.store (Hd.isSome hi) fun a' xs items n _ q g d=>?_
  obtain rfl:a'=a:=q.1.symm.trans ha.1
  refine Calls.getMethod_list_append g rfl rfl (wp_methB IE e (fun p q e=>(Hd.nilK e).1) hA O R fun p vals ρ' s' e X=>Hd.argW e X.vrs fun v u z r o e=>Hd.data (Hd.b e) X.step.rel r fun y ρ₃ e S d=>listAt_ok S.rel.w.store (Hd.b e) fun a₂ ys items₂ n₂ e q₂ g₂ d₂=>Hd.gd e fun hx e=>?_)
  have hat:=S.mv.at_ i _ (X.step.mv.at_ i _ ha)
  obtain rfl:a₂=a':=q₂.1.symm.trans hat.1
  exact z ▸ wp_append S.rel hat g₂ d₂ hx d e (h.aft (X.step.trans S fun b l q=>X.new b (o b q) l))
theorem wp_patt (W:Wd prog w K G fa) {b:Bool} {args:List Expr} {kws:List Keyword} {pl:Sem Bool} (IE:SE prog w K n C (f.ev C)) (hr:recvOk st.objs m (.pat b)=true) (e:Hd (evs (f.ev C) args st) fun p=>Hd (evKws (f.ev C) kws p.2) fun q=>Hd (methApp f m p.1 q.1 q.2 (.pat b)) P)
    (hA:AOK A n) (O:EnvOK K C env) (R:Rel K C env st ρ s) (h:Post K C env P ρ s Q):wpAny (model prog w) A (getMethod (.ref (K.pa b)) m pl) (fun x s₂=>wpAny (model prog w) A (callWith pos x.1 x.2 (backTo pos (starEach args env)) (kwE pos kws env)) Q E s₂) E s:=by
  obtain rfl:=eq_of_beq hr
  obtain⟨g1,g2,g3,-⟩:=(W.pat b).keeps R.up0
  exact getMethod_builtin (T:="re.Pattern") ⟨_,g1,g2⟩ Pt.plainAttrs Pt.slot Pt.ty (fun a' q=>by cases q;exact⟨_,g1,g3⟩) (wp_methB IE e (fun p q e=>(Hd.nilK e).1) hA O R fun p vals ρ' s' e X=>Hd.arg1 e X.vrs fun v u z r e=>Hd.str (Hd.b e) r fun y t q e=>Hd.g e fun hall e=>
    z ▸ q ▸ wp_search ((W.pat b).keeps X.step.rel.up0) (by cases b<;>first |exact .inl rfl |exact .inr rfl) hall ((h.aft X.step).d (t:=s'.toks) X.step.rel e rfl))
theorem wp_CallM (W:Wd prog w K G fa) {o:Expr} {apos:Pos} {args:List Expr} {kws:List Keyword} (IE:SE prog w K n C (f.ev C)) (IC:SC prog w G K fa n f.call) (e:Hd (evCallM f C o m apos args kws pos st) P) (hA:AOK A n) (O:EnvOK K C env) (R:Rel K C env st ρ s) (h:Post K C env P ρ s Q):
    wpAny (model prog w) A (eval (.Call (.Attribute o m apos) args kws pos) env) Q E s:=by
  refine e.g fun hg e=>?_
  obtain⟨hl,hn⟩:=Bool.and_eq_true _ _ ▸ hg
  have I:=IE e.b
  obtain⟨fa1,fa2,ok⟩:(backTo pos (starEach args env)).any (·.1)=false∧(backTo pos (starEach args env)).all (!·.1)=true∧KwOK (kwE pos kws env) kws:=e.b.get fun p _ e=>Hd.g e fun _ e=>meth_facts IE ((Hd.b e).get fun p hp e=> .of hp (Hd.b e))
  refine wp_method I.1 fa2 ok hl (of_decide_eq_true hn) (I.2 hA O R fun p val ρ₁ s₁ e X pl=>Hd.g e fun hr e=>?_)
  replace e:Hd (evs (f.ev C) args p.2) fun q=>Hd (evKws (f.ev C) kws q.2) fun r=>Hd (methApp f m q.1 r.1 r.2 p.1) P:=(Hd.b e).get fun p hp e=> .of hp (Hd.b e)
  obtain⟨v,st₁⟩:=p
  have h:=h.aft X.step
  have R:=X.step.rel
  have r:=X.vr
  cases v with
  |d x=>exact wp_text IE hr e r hA O R h
  |hl i=>exact let⟨a,q,ha⟩:=r;q ▸ wp_list IE hr e ha hA O R h
  |pat b=>exact(r:val=_) ▸ wp_patt W IE hr e hA O R h
  | obj i=>
    obtain⟨a,rfl,ha⟩:=r
    obtain⟨F,hF⟩:∃F,G.fn ("Headers."++m)=some F:=e.get fun p _ e=>e.get fun q _ e=>(IC (Hd.m e)).1
    exact wp_getMeth W R ha (Hd.isSome hr) hF fun ob fd hdat hat=>callWith_function_kw (o:=ob) (fd:=fd) (wp_argsK IE e hA O R fun p q vals kvals ρ₂ s₂ e hl hk Y=>⟨⟨Y.step.rel.up0 _ _ hat,hdat⟩,
      wp_callObj (p:=(p.1,q.2)) IC hA Y hl hk (Y.step.mv.at_ _ _ ha) (Hd.m e) h⟩)
  |_=>cases hr
end
end Mine
end
section
open PySem PySem.W PyProof.Rows
namespace Mine
section
variable {prog:Program} {w:World} {G:Env'} {K:Ctx0} {fa:Str→Addr} {A:Around} {E:Value→Shared→Prop} {C:Cx} {env:Env} {st st₁:St} {objs:Objs} {ρ ρ₁ ρ₂:Rho} {h':Heap} {s s₁ s₂:Shared} {v:V} {val vo:Value} {vs:List V} {vals:List Value} {n:Nat} {f:Fs} {P:V×St→Prop} {Q:Value→Shared→Prop} {pos:Pos} {T:Prop} {g:Str} {i:Nat} {a x dx:Addr} {args:List Expr}
theorem RelW.addInst (W:RelW K objs ρ s) (M:Heap.MadeObj s.heap h' x dx K.cls):
    WStep K (objs++[.inst none]) No ρ s ((ρ.set dx (.dct objs.length)).add objs.length x) {s with heap:=h'}∧At ((ρ.set dx (.dct objs.length)).add objs.length x) objs.length x:=by
  obtain⟨o,hx,hc,hnc,hd⟩:=M.inst
  have hdd:=M.dict o hx
  have hns:h'.Ns1 dx (fun _=>none)∧dx≠x:=by
    rcases hd with⟨hn0,_⟩ | ⟨d',hd',hne,hns⟩
    · rw[hn0]at hdd;cases hdd
    · obtain rfl:=Option.some.inj (hd'.symm.trans hdd);exact⟨hns,hne⟩
  have nx:¬Live s.heap x:=fun⟨o,e⟩=>by rw[M.newX]at e;cases e
  have nd:¬Live s.heap dx:=fun⟨o,e⟩=>by rw[M.newD]at e;cases e
  have ke:∀{b},b≠x→b≠dx→((ρ.set dx (.dct objs.length)).add objs.length x).k b=ρ.k b:=fun h1 h2=>(set_ne h1).trans (set_ne h2)
  have kx:((ρ.set dx (.dct objs.length)).add objs.length x).k x= .cell objs.length:=set_self
  have kd:((ρ.set dx (.dct objs.length)).add objs.length x).k dx= .dct objs.length:=(set_ne hns.2).trans set_self
  have lv:∀{b},Live s.heap b→((ρ.set dx (.dct objs.length)).add objs.length x).k b=ρ.k b:=fun l=>ke (fun q=>nx (q ▸ l)) fun q=>nd (q ▸ l)
  have Mm:Mv No No ρ ((ρ.set dx (.dct objs.length)).add objs.length x) s.heap h':= .grow (fun _ q=>q.elim) M.keeps (fun b l=>lv l) fun i b q=>
    ⟨(if_neg (Nat.ne_of_lt (W.store.lt q.2))).trans q.1,(lv (W.kl (by rw[q.2];nofun))).trans q.2⟩
  have len:(objs++[Cell.inst none]).length=objs.length+1:=List.length_append
  refine⟨⟨W.mv (s':={s with heap:=h'}) Mm (W.store.mv Mm (fun e=>?_) fun {b i} q=>?_) (fun {b} n=>?_) rfl rfl,Mm⟩,.new⟩
  · rcases get_app e with⟨rfl,rfl⟩ |e
    · exact .inl ⟨x,.new,.mk hx hc hdd hnc kd hns.1⟩
    · exact .inr ⟨e,fun b o _ e=>M.keeps b o e⟩
  · rw[len]
    by_cases h1:b=x
    · subst h1;rw[kx]at q;cases q;exact Nat.lt_succ_self _
    · by_cases h2:b=dx
      · subst h2;rw[kd]at q;cases q
      · exact Nat.lt_succ_of_lt (W.store.lt ((ke h1 h2).symm.trans q))
  · by_cases h1:b=x
    · exact h1 ▸ ⟨o,hx⟩
    · by_cases h2:b=dx
      · exact h2 ▸ let⟨o,_,_,e,_⟩:=hns.1;⟨o,e⟩
      · exact Mm.live (W.kl fun e=>n ((ke h1 h2).trans e)) id
theorem callWith_val {M:Model} {args:List (Bool×Sem Value)} {b:Value} (hf:(∃id,b= .builtin id)∨∃T,b= .type T) (hplain:args.any (·.1)=false)
    (h:wpAny M A (evalArgs b true args []) (fun a s₁=>wpAny M A (PySem.call b ([]++a.pos) a.kw) Q E s₁) E s):wpAny M A (callWith pos b [] args []) Q E s:=by
  rcases hf with⟨id,rfl⟩ | ⟨T,rfl⟩
  · exact Calls.callWith_builtin hplain h
  · exact PySem.callWith_type hplain h
theorem Bf.val_of (b:Bf):(∃id,b.val= .builtin id)∨∃T,b.val= .type T:=by
  cases b<;>first |exact .inl ⟨_,rfl⟩ |exact .inr ⟨_,rfl⟩
theorem callWith_class {args:List (Bool×Sem Value)} (W:Wd prog w K G fa) (hplain:args.any (·.1)=false)
    (h:wpAny (model prog w) A (evalArgs (.ref K.cls) true args []) (fun a s₁=>Up K.h₀ s₁.heap∧a.kw=[]∧wpAny (model prog w) A (PySem.call (.ref K.cls) a.pos) Q E s₁) E s):
    wpAny (model prog w) A (callWith pos (.ref K.cls) [] args []) Q E s:=by
  have hst:(args.any (fun x=>x.fst)||([]:List (Option Str×Sem Value)).any fun x=>x.fst.isNone)=false:=by
    rw[hplain];rfl
  unfold callWith
  refine wpAny_bind (wpAny_holding (wpAny_mono h (fun a s₁ h₁=>?_) fun _ _ x=>x))
  obtain⟨hh,g,d,t,os⟩:=s₁
  obtain⟨pa,ka⟩:=a
  obtain⟨k,rfl,h₁⟩:=h₁
  refine W.co k fun _ _ _ _ _ _ _ _ _ _ _ _ _ hC hN=>?_
  have f1:=tc_lookup
  have hT:(⟨hh,g,d,t,os⟩:Shared).TypeIs (.ref K.cls) "type":=⟨_,hC,rfl⟩
  refine wpAny_bind (wpAny_standAt ?_)
  show wpAny _ _ (keeperOf (.ref K.cls)>>=_) _ _ _
  unfold keeperOf specialOf
  repeat (any_goals (first |assumption |with_reducible refine wpAny_loadPart_at hC ?_ |with_reducible refine wpAny_load' hC ?_ |wp_step))
  rw[if_pos (by rfl),hst]
  show wpAny _ _ (PySem.call (.ref K.cls) pa []>>=fun r=>do holding [r] point;pure r) _ _ _
  exact wpAny_bind (wpAny_mono h₁ (fun r s' hr=>wpAny_bind (wpAny_holding (wpAny_point (wpAny_pure hr)))) fun _ _ x=>x)
theorem SC.call0 {c:Str→List V→List (Str×V)→Objs→Option (V×Objs)} {P:V×Objs→Prop} (IC:SC prog w G K fa n c) (e:Hd (c g vs [] objs) P) (hA:AOK A n) (W:RelW K objs ρ s) (rs:VRs K s.heap ρ vs vals) (h:PostC K P (Ows vs vals) ρ s Q):wpAny (model prog w) A (PySem.call (.ref (fa g)) vals) Q E s:=by
  refine(IC e).2 (kvals:=[]) hA W ?_ rs.len rfl ?_<;>rw[List.map_nil,List.append_nil,List.append_nil]
  · exact rs
  · exact h
theorem Post.call (h:Post K C env P ρ s Q) {p:List V×St} (X:EPs K C env p ρ s vals ρ₁ s₁):PostC K (fun r=>P (r.1,⟨p.2.vars,r.2⟩)) (Ows p.1 vals) ρ₁ s₁ Q:=fun r val ρ' s' e WS rv nv=>h.ep e ⟨X.call WS,rv,fun b o l=>nv b o (X.step.mv.live l id)⟩
theorem wp_CallF {p:Pos} {P':List V×St→Prop} {o:Obj} {fd:FuncData} (W:Wd prog w K G fa) (IE:SE prog w K n C (f.ev C)) (hdbg:(g==("__debug__":Str))=false) (hk:C.sc.names.lookup g=some .globalImplicit) (g1:K.gm g=some (.ref a)) (g2:K.h₀.get? a=some o) (g3:o.data= .func fd)
    (e:Hd (evs (f.ev C) args st) P') (hA:AOK A n) (O:EnvOK K C env) (R:Rel K C env st ρ s) (h:∀p vals ρ' s',P' p→EPs K C env p ρ s vals ρ' s'→wpAny (model prog w) A (PySem.call (.ref a) vals) Q E s'):
    wpAny (model prog w) A (eval (.Call (.Name g p) args [] pos) env) Q E s:=
  wpAny_Call_NameR (wpAny_Name (W.N.load O R hk (.inl g1) (Calls.callWith_function (o:=o) (fd:=fd) (wp_args IE e hA O R fun p vals ρ₁ s₁ e X=>⟨⟨X.step.rel.up0 _ _ g2,g3⟩,h p vals ρ₁ s₁ e X⟩))) hdbg)
theorem no_ow:∀{vs:List V} {vals:List Value} {b:Addr},(vs.all fun v=>(asS v).isSome)=true→Ows vs vals b→False
  |[],_,_,_,o=>o
  | v ::vs,val::vals,b,h,o=>by
    obtain⟨h1,h2⟩:=Bool.and_eq_true _ _ ▸ h
    rcases o with o |o
    · cases v with
      |fl xs=>cases h1
      |_=>exact o
    · exact no_ow h2 o
theorem objCall_gd {g:Str} (e:Hd (objCall f g i vs st) P) (k:Hd (instAt st.objs i) (fun _=>True)→(vs.all fun v=>(asS v).isSome)=true→Hd (f.call g (.obj i::vs) [] st.objs) (fun r=>P (r.1,⟨st.vars,r.2⟩))→T):T:=
  (Hd.b e).get fun q hq e=>e.g fun hs e=>k (.of hq trivial) hs e.m
theorem wp_objF (IC:SC prog w G K fa n f.call) (e:Hd (objCall f g i vs st) P) (hA:AOK A n) (R:Rel K C env st ρ s) (ha:At ρ i a) (rs:VRs K s.heap ρ vs vals) (h:Post K C env P ρ s Q):wpAny (model prog w) A (PySem.call (.ref (fa g)) (.ref a::vals)) Q E s:=
  objCall_gd e fun _ hs e=>IC.call0 e hA R.w ⟨rfl,⟨a,rfl,ha⟩,rs,fun _ q=>q.elim⟩ fun r val ρ' s' e WS rv nv=>h.ep e ⟨R.back ⟨WS.rel,WS.mv.mono (fun _ q=>q.elim) (fun b q=>q.elim id (no_ow hs)) fun _=>id⟩,rv,nv⟩
theorem own_of {m:Str} (W:Wd prog w K G fa) (IC:SC prog w G K fa n f.call) (e:Hd (objCall f ("Headers."++m) i vs st) P) (R:Rel K C env st ρ s) (ha:At ρ i a) (k:s.heap.OwnSpecial a K.cls (fa ("Headers."++m)) "object" m→(∃ob fd,s.heap.get? (fa ("Headers."++m))=some ob∧ob.data= .func fd)→(∃o,s.heap.get? a=some o∧o.cls= .ref K.cls)→T):T:=
  objCall_gd e fun hi _ e=>by
    obtain⟨Fc,hF⟩:=(IC e).1
    obtain⟨ob,fd,FO⟩:=W.D.fns hF
    obtain⟨m1,-,yy,hyy⟩:=W.meth hF
    refine instAt_ok R.w.store ha hi fun k' _ r=>?_
    obtain⟨g,c,-,-,-,-⟩:=r
    refine W.co R.up0 fun cN nm q bs sn sub col dd k0 k1 k2 k3 k5 hC hN=>?_
    exact k ⟨_,ob,nm,q,cN,bs,_,true,sn,sub,false,col,dd,k0,k1,k2,k3,k5,_,K.mN,yy,g,c,hC,hN,m1,R.up0 _ _ FO.at_,FO.cls,PySem.F.mro_object,hyy⟩ ⟨ob,fd,R.up0 _ _ FO.at_,FO.data⟩ ⟨_,g,c⟩
theorem AOK.in1 (a:AOK A (n+1)):AOK A.in1 n:=⟨a.hand,by have:=a.depth;show A.depth+_+_<_;omega,by have:=a.units;show A.units+1+_+_<_;omega⟩
theorem wp_lenO (W:Wd prog w K G fa) (IC:SC prog w G K fa n f.call) (e:Hd ((objCall f "Headers.__len__" i [] st).bind fun r=>(asI r.1).bind fun n=>gd (decide (0≤n∧n≤maxLen)) (some (V.d (.int n),r.2))) P) (hA:AOK A (n+1)) (R:Rel K C env st ρ s) (ha:At ρ i a) (h:Post K C env P ρ s Q):
    wpAny (model prog w) A (PySem.call (.builtin "len") [.ref a]) Q E s:=
  own_of (m:="__len__") W IC (Hd.b e) R ha fun X _ _=>len_own X (wp_objF IC (Hd.b e) hA.in1 R ha (vals:=[]) rfl fun p val ρ' s' e Y=>Hd.int (Hd.b e) Y.vr fun z t q e=>e.gd fun hz e=>⟨z,t,q,hz.1,Int.lt_of_le_of_lt hz.2 (by decide),h.ep e ⟨Y.step.aft (Y.step.rel.tok _),⟨_,rfl⟩,fun _ q=>q.elim⟩⟩)
theorem lenO_ex {b:Bf} {vs:List V} {k:Nat} (h:lenO b vs=some k):vs=[.obj k]∧b= .len:=by
  unfold lenO at h
  split at h
  · cases b<;>first |(cases h;exact⟨rfl,rfl⟩) |cases h
  · cases h
theorem wp_CallN {p:Pos} {kws:List Keyword} (W:Wd prog w K G fa) (IE:SE prog w K n C (f.ev C)) (IC:SC prog w G K fa n f.call) (e:Hd (evCallN G f C n g args kws st) P) (hA1:AOK A (n+1)) (O:EnvOK K C env) (R:Rel K C env st ρ s) (h:Post K C env P ρ s Q):
    wpAny (model prog w) A (eval (.Call (.Name g p) args kws pos) env) Q E s:=by
  refine e.g fun hg e=>e.nil fun q e=>?_
  subst q
  obtain⟨hg,hk⟩:=Bool.and_eq_true _ _ ▸ hg
  obtain⟨hg,hmeth⟩:=Bool.or_eq_false_iff.mp (Bool.not_eq_true' _ ▸ hg)
  have hdbg:=(Bool.or_eq_false_iff.mp hg).2
  have hk:=of_decide_eq_true hk
  have hA:=hA1.le
  refine e.el (fun e=>e.get fun F hF e=>?_) fun e=>e.el (fun e=>e.get fun pf hp e=>?_) fun e=>e.bif (fun hH e=>?_) fun _ e=>(Hd.b e).get fun b hb e=>?_
  · obtain⟨ob,fd,FO⟩:=W.D.fns hF
    exact wp_CallF W IE hdbg hk (W.fnName hF hmeth) FO.at_ FO.data (Hd.b e) hA O R fun p vals ρ₁ s₁ e X=>IC.call0 (Hd.m e) hA X.step.rel.w X.vrs (h.call X)
  · obtain⟨a,o,fd,g1,g2,g3,g4⟩:=W.prim hp
    exact wp_CallF W IE hdbg hk g1 g2 g3 (Hd.b e) hA O R fun p vals ρ₁ s₁ e X=>Hd.argW e X.vrs fun v u z r o e=>Hd.dat e r fun x e r=>Hd.gd e fun h8 e=>(Hd.m e).get fun y hy e=>
      z ▸ g4 hy ⟨hA.hand,by have:=hA.depth;omega,by have:=hA.units;omega⟩ X.step.rel.w r fun val' ρ' s' WS r'=>(h.aft X.step).ep e ⟨X.step.rel.back WS,r',fun _ q=>q.elim⟩
  · obtain rfl:=eq_of_beq hH
    refine wpAny_Call_NameR (wpAny_Name (W.N.load O R hk (.inl W.clsName) (callWith_class W (plain_args (fun e=>(IE e).1) (Hd.b e)).1 (wp_args IE (Hd.b e) hA O R fun p vals ρ₁ s₁ e X=>⟨X.step.rel.up0,rfl,?_⟩))) hdbg)
    obtain⟨FI,hFI⟩:=(IC (Hd.b e)).1
    obtain⟨oI,fdI,FO⟩:=W.D.fns hFI
    refine W.co X.step.rel.up0 fun _ _ _ _ _ _ _ _ _ _ _ _ _ hC hN=>wpAny_call_obj_init PySem.F.objNew hC hN (W.meth (m:="__init__") hFI).1 (X.step.rel.up0 _ _ FO.at_) FO.cls fun h' x dx Mk=>?_
    obtain⟨WS,hcell⟩:=X.step.rel.w.addInst Mk
    have hAu:AOK (A.under (.builtin "type.__call__" ⟨.ref K.cls::vals,[]⟩)) n:=⟨hA.hand,by have:=hA1.depth;rw[depth_under_make];omega,by have:=hA1.units;have e4:(A.under (.builtin "type.__call__" ⟨.ref K.cls::vals,[]⟩)).units=A.units+1:=rfl;rw[e4];omega⟩
    refine IC.call0 (Hd.b e) hAu WS.rel ⟨rfl,⟨x,rfl,hcell⟩,X.vrs.mv WS.mv fun _ _ q=>q,fun _ q=>q.elim⟩ fun r val ρ' s' e WS' rv nv=>Hd.g e fun hn e=>⟨(none_or rv).elim (·.2) fun q=>absurd (hn.symm.trans q.1) nofun,?_⟩
    have WW:WStep K r.2 (Ows p.1 vals) _ _ ρ' s':=(WS.more (fun b o=>(X.vrs.own o).1) fun _ q=>q.elim).trans WS' fun b _ o=>o.elim False.elim id
    exact h.ep e ⟨X.call WW,⟨x,rfl,WS'.mv.at_ _ _ hcell⟩,fun _ q=>q.elim⟩
  · exact wpAny_Call_NameR (wpAny_Name (W.N.load O R hk (.inr (W.bui hb)) (callWith_val b.val_of (plain_args (fun e=>(IE e).1) (Hd.b e)).1 (wp_args IE (Hd.b e) hA O R fun p vals ρ₁ s₁ e X=>Hd.el' e (fun k hq e=>by
      obtain⟨hp,rfl⟩:=lenO_ex hq
      obtain⟨vs,st₁⟩:=p
      obtain rfl:vs=_:=hp
      exact VRs.one X.vrs fun u z r=>let⟨a,q,ha⟩:=r;z ▸ q ▸ wp_lenO W IC e hA1 X.step.rel ha (h.aft X.step)) fun _ e=>wp_callB hA X.step.rel (Hd.m e) X.vrs (h.aft X.step)))) hdbg)
end
end Mine
end
section
open PySem PySem.W PyProof.Rows
namespace Mine
section
variable {prog:Program} {w:World} {G:Env'} {K:Ctx0} {fa:Str→Addr} {A:Around} {E:Value→Shared→Prop} {C:Cx} {env:Env} {st st₁:St} {ρ ρ₁ ρ₂:Rho} {s s₁ s₂:Shared} {n:Nat} {f:Fs} {P:V×St→Prop} {Q:Value→Shared→Prop} {pos:Pos}
theorem wp_Const {c:Const} {k:Nat} (e:Hd ((evConst c).map fun v=>(v,st)) P) (R:Rel K C env st ρ s) (h:Post K C env P ρ s Q):wpAny (model prog w) A (eval (.Constant c k pos) env) Q E s:=by
  cases c with
  |none=>exact wpAny_Constant_none (h.d (t:=s.toks) R e rfl)
  |bool b=>exact wpAny_Constant_bool (Post.b (t:=s.toks) h R e)
  |int i=>exact wpAny_Constant_int (Post.i h R e)
  |str x=>exact wpAny_Constant_str (Post.x h R e)
  |_=>exact e.elim
theorem wp_Bin {l r:Expr} {op:Operator} (IE:SE prog w K n C (f.ev C)) (e:Hd (evBin f C l op r st) P) (hA:AOK A n) (O:EnvOK K C env) (R:Rel K C env st ρ s) (h:Post K C env P ρ s Q):wpAny (model prog w) A (eval (.BinOp l op r pos) env) Q E s:=
  wpAny_BinOp ((IE e.b).2 hA O R fun p va ρ₁ s₁ e X=>(IE (Hd.b e)).2 hA O X.step.rel fun q vb ρ₂ s₂ e Y=>wp_binop Y.step.rel (Hd.m e) (Y.vr0 X.vr) Y.vr ((h.aft X.step).aft Y.step))
theorem wp_Un {x:Expr} {op:UnaryOp} (IE:SE prog w K n C (f.ev C)) (e:Hd (evUn f C op x st) P) (hA:AOK A n) (O:EnvOK K C env) (R:Rel K C env st ρ s) (h:Post K C env P ρ s Q):wpAny (model prog w) A (eval (.UnaryOp op x pos) env) Q E s:=by
  cases op with
  |Not=>exact wpAny_UnaryOp ((IE (Hd.b e)).2 hA O R fun p val ρ₁ s₁ e X=>not_value (wp_truth X.step.rel (Hd.m e) X.vr fun b s₂ e S=>Post.b (t:=s₂.toks) ((h.aft X.step).aft S) S.rel e))
  |USub=>exact wpAny_UnaryOp ((IE (Hd.b e)).2 hA O R fun p val ρ₁ s₁ e X=>Hd.int (Hd.m e) X.vr fun i t q e=>q ▸ PySem.P.neg_int (Post.i (h.aft X.step) X.step.rel e))
  |_=>exact e.elim
theorem wp_Bool {es:List Expr} {op:BoolOp} (IE:SE prog w K n C (f.ev C)) (e:Hd (evBool f C op es st) P) (hA:AOK A n) (O:EnvOK K C env) (R:Rel K C env st ρ s) (h:Post K C env P ρ s Q):wpAny (model prog w) A (eval (.BoolOp op es pos) env) Q E s:=by
  refine e.two fun a b q e=>?_
  subst q
  show wpAny _ A (boolOp pos op [eval a env,eval b env]) Q E s
  unfold boolOp
  refine wpAny_bind ((IE (Hd.b e)).2 hA O R fun p val ρ₁ s₁ e X=>wpAny_bind (wpAny_standAt (wpAny_bind (wpAny_holding (wp_truth X.step.rel (Hd.b e) X.vr fun c s₂ e S=>?_)))))
  have stop:Hd (some p) P→Q val s₂:=fun e=>h.ep e ⟨X.step.aft S,X.vr.mv0 S.mv,X.new⟩
  have go:Hd (f.ev C b p.2) P→wpAny (model prog w) A (boolOp pos op [eval b env]) Q E s₂:=fun e=>(IE e).2 hA O S.rel ((h.aft X.step).aft S)
  cases op<;>cases c<;>first |exact go e |exact wpAny_pure (stop e)
theorem wp_IfE {t a b:Expr} (IE:SE prog w K n C (f.ev C)) (IT:ST prog w K n C (f.tst C)) (e:Hd ((f.tst C t st).bind fun p=>bif p.1 then f.ev C a p.2 else f.ev C b p.2) P) (hA:AOK A n) (O:EnvOK K C env) (R:Rel K C env st ρ s) (h:Post K C env P ρ s Q):
    wpAny (model prog w) A (eval (.IfExp t a b pos) env) Q E s:=
  wpAny_IfExp (IT e.b hA O R fun p ρ₁ s₁ e S=>Hd.bif e (fun q e=>Eq.mpr (if_pos q) ((IE e).2 hA O S.rel (h.aft S))) fun q e=>Eq.mpr (if_neg (q ▸ nofun)) ((IE e).2 hA O S.rel (h.aft S)))
theorem wp_getO {value slice:Expr} {i:Nat} {a:Addr} {b:V} {iv:Value} (W:Wd prog w K G fa) (IC:SC prog w G K fa n f.call) (e:Hd (objCall f "Headers.__getitem__" i [b] st) P) (hA:AOK A (n+1)) (R:Rel K C env st ρ s) (ha:At ρ i a) (r:VR K s.heap ρ b iv) (nb:∀c,¬Ow b iv c)
    (hsl:subscripted slice true (.ref a) iv=runValue (.builtin "lifetime.subscript" ⟨[.ref a,iv],[]⟩)) (h:Post K C env P ρ s Q):wpAny (model prog w) A (do
        standAt pos
        let r←subscripted slice (←getitemInPython (.ref a)) (.ref a) iv
        letTemporaryGo value (.ref a) r
        pure r) Q E s:=
  own_of (m:="__getitem__") W IC e R ha fun X ⟨ob,fd,go,hd⟩ _=>by
    refine wpAny_bind (wpAny_standAt (wpAny_bind ?_))
    unfold getitemInPython
    refine wpAny_bind (wpAny_specialOf_own X ?_)
    dsimp only
    refine wpAny_bind (wpAny_load go (wpAny_pure ?_))
    rw[hd];dsimp only
    rw[hsl]
    refine wpAny_bind (wpAny_runValue (codeAny_builtin entry_sub ?_))
    unfold Builtin.«lifetime.subscript»
    refine wpAny_bind (wpAny_callSpecial?_own X (wp_objF IC e hA.in1 R ha ⟨rfl,r,rfl,fun c o=>(nb c o).elim⟩ fun p val ρ' s' e Y=>?_))
    refine wpAny_pure ?_
    exact wpAny_bind (wpAny_letTemporaryGo (wpAny_pure (h.ep e Y)))
theorem wp_Sub {o i:Expr} (W:Wd prog w K G fa) (IC:SC prog w G K fa n f.call) (IE:SE prog w K n C (f.ev C)) (e:Hd (evSub f C o i st) P) (hA1:AOK A (n+1)) (O:EnvOK K C env) (R:Rel K C env st ρ s) (h:Post K C env P ρ s Q):wpAny (model prog w) A (eval (.Subscript o i pos) env) Q E s:=by
  rw[eval_Subscript]
  have hA:=hA1.le
  have item : (∀o v,subscripted i true o v=runValue (.builtin "lifetime.subscript" ⟨[o,v],[]⟩))→Hd (evItem f C o i st) P→wpAny (model prog w) A (do
        let ov←eval o env
        let iv←holding [ov] (eval i env)
        standAt pos
        let r←subscripted i (←getitemInPython ov) ov iv
        letTemporaryGo o ov r
        pure r) Q E s:=fun hs e=>wpAny_bind ((IE e.b).2 hA O R fun p vo ρ₁ s₁ e X=>wpAny_bind (wpAny_holding ((IE (Hd.b e)).2 hA O X.step.rel fun q vi ρ₂ s₂ e Y=>Hd.el' (show Hd (p.1.obj?.elim _ _) P from e) (fun k hk e=>by
            obtain⟨v,st₁⟩:=p
            cases v with
            | obj j=>
              obtain rfl:j=k:=Option.some.inj hk
              obtain⟨a,rfl,ha⟩:=Y.vr0 X.vr
              exact wp_getO W IC e hA1 Y.step.rel ha Y.vr (fun c o=>objCall_gd e fun _ hs _=>no_ow (vals:=[vi]) hs (.inl o)) (hs _ _) ((h.aft X.step).aft Y.step)
            |_=>cases hk) fun _ e=>Hd.int (Hd.b e) Y.vr fun k t z e=>
          z ▸ wp_item Y.step.rel (Y.vr0 X.vr) (Hd.m e) ((h.aft X.step).aft Y.step))))
  cases i with
  | Slice lo hi sp p=>
    refine wpAny_bind ((IE (Hd.b e)).2 hA O R fun p vo ρ₁ s₁ e X=>wpAny_bind (wpAny_holding (wpAny_Slice ?_)))
    refine wp_part IE (Hd.b e) hA O X.step.rel fun a la ρ₂ s₂ e Y2 pa=>wp_part IE (Hd.b e) hA O Y2.rel fun b lb ρ₃ s₃ e Y3 pb=>wp_part IE (Hd.b e) hA O Y3.rel fun c lc ρ₄ s₄ e Y4 pc=>pa (Hd.b (Hd.m e)) fun l ql e=>pb (Hd.b e) fun u qu e=>pc (Hd.b e) fun d qd e=>?_
    subst ql qu qd
    exact wp_sliceW Y4.rel (((X.vr.mv0 Y2.mv).mv0 Y3.mv).mv0 Y4.mv) e ((((h.aft X.step).aft Y2).aft Y3).aft Y4)
  |_=>exact item (fun _ _=>rfl) e
theorem wp_Attr {o:Expr} {a:Str} (W:Wd prog w K G fa) (IE:SE prog w K n C (f.ev C)) (e:Hd (evAttr f C o a st) P) (hA:AOK A n) (O:EnvOK K C env) (R:Rel K C env st ρ s) (h:Post K C env P ρ s Q):wpAny (model prog w) A (eval (.Attribute o a pos) env) Q E s:=by
  rw[arm_eval_Attribute,base_of (IE e.b).1]
  refine wpAny_bind ((IE e.b).2 hA O R fun p vo ρ₁ s₁ e X=>wpAny_bind (wpAny_standAt (wpAny_bind (wpAny_holding ?_))))
  obtain⟨v,st₁⟩:=p
  cases v with
  | obj i=>
    refine Hd.g (show Hd (gd (a==("_headers":Str)) ((instAt st₁.objs i).bind fun k=>k.map fun h=>(V.hl h,st₁))) P from e) fun ha e=>?_
    obtain rfl:=eq_of_beq ha
    obtain⟨l,rfl,hl⟩:=X.vr
    refine instAt_ok X.step.rel.w.store hl (Hd.b e) fun k e r=>(Hd.m e).get fun j hj e=>?_
    obtain rfl:k=some j:=hj
    obtain⟨I,hm,b,hb,hq⟩:=r.iv hl
    refine W.co X.step.rel.up0 fun _ _ _ _ _ _ _ _ _ _ _ _ _ hC hN=>load_attr hC hN W.nga W.nhd (by rw[typeLookup_type,builtinLookup_eq_fast];rfl') I hq rfl (wpAny_bind (wpAny_letTemporaryGo (wpAny_pure ?_)))
    exact(h.aft X.step).go (v:= .hl j) (t:=s₁.toks+1) X.step.rel (.refl _) e ⟨b,rfl,hb⟩ rfl
  |_=>exact(Hd.b e:False).elim
theorem wp_InObj {i:Nat} {x:Str} {t:Tok} (W:Wd prog w K G fa) (IC:SC prog w G K fa n f.call) {P:V×Objs→Prop} (e:Hd (f.call "Headers.__contains__" [.obj i,.d (.str x)] [] st.objs) fun r=>Hd (asB r.1) fun b=>P (.d (.bool b),r.2)) (hA:AOK A n) (R:Rel K C env st ρ s) {a:Addr} (ha:At ρ i a) (hi:Hd (instAt st.objs i) fun _=>True)
    (h:∀b o ρ' s',P (.d (.bool b),o)→WStep K o No ρ s ρ' s'→Q (.bool b) s'):wpAny (model prog w) A (compareOp .In (.str x t) (.ref a)) Q E s:=by
  obtain⟨Fc,hF⟩:=(IC e).1
  obtain⟨ob,fd,FO⟩:=W.D.fns hF
  obtain⟨m1,-,yy,hyy⟩:=W.meth (m:="__contains__") hF
  refine instAt_ok R.w.store ha hi fun k _ r=>?_
  obtain⟨g,c,-,-,-,-⟩:=r
  show wpAny _ _ (do return .bool (←contains (.ref a) (.str x t))) Q E s
  refine wpAny_bind ?_
  unfold contains
  refine wpAny_holding ?_
  rw[show stdlibNamesSay? (.ref a) (.str x t)=none by unfold stdlibNamesSay?;rfl]
  refine W.co R.up0 fun cN nm q bs sn sub col dd k0 k1 k2 k3 k5 hC hN=>?_
  have OS:s.heap.OwnSpecial a K.cls (fa "Headers.__contains__") "object" "__contains__":=
    ⟨_,ob,nm,q,cN,bs,_,true,sn,sub,false,col,dd,k0,k1,k2,k3,k5,_,K.mN,yy,g,c,hC,hN,m1,R.up0 _ _ FO.at_,FO.cls,F.mro_object,hyy⟩
  refine wpAny_bind (wpAny_specialOf_own OS ?_)
  rw[if_neg (by simp)]
  refine wpAny_bind ?_
  unfold callSpecialUnlessNone?
  refine wpAny_bind (wpAny_specialOf_own OS (wpAny_holding (wpAny_bind (wpAny_bindSpecial_def (s:=s) (R.up0 _ _ FO.at_) FO.cls ?_))))
  dsimp only
  rw[if_neg (by simp)]
  refine wpAny_bind (IC.call0 e hA R.w ⟨rfl,⟨a,rfl,ha⟩,⟨rfl,⟨t,rfl⟩,rfl,fun _ q=>q.elim⟩,fun _ q=>q.elim⟩ fun r val ρ' s' e WS rv nv=>Hd.bool e rv fun b q e=>?_)
  subst q
  exact wpAny_pure (wpAny_truthy_bool (wpAny_pure (h b _ ρ' s' e ⟨WS.rel,WS.mv.mono (fun _ q=>q.elim) (fun b q=>q.elim id fun q=>q.elim id id) fun _=>id⟩)))
theorem wp_Cmp {l:Expr} {ops:List CmpOp} {es:List Expr} (W:Wd prog w K G fa) (IE:SE prog w K n C (f.ev C)) (IC:SC prog w G K fa n f.call) (e:Hd (evCmp f C l ops es st) P) (hA:AOK A n) (O:EnvOK K C env) (R:Rel K C env st ρ s) (h:Post K C env P ρ s Q):
    wpAny (model prog w) A (eval (.Compare l ops es pos) env) Q E s:=by
  rw[arm_eval_Compare]
  refine wpAny_bind ((IE e.b).2 hA O R fun p va ρ₁ s₁ e X=>Hd.bif e (fun hi e=>?_) fun _ e=>(wp_chain IE hA O ops es (Hd.m e) X.step.rel X.vr).1 fun q ρ₂ s₂ e S=>Post.b (t:=s₂.toks) ((h.aft X.step).aft S) S.rel e)
  have hops:ops=[.In]:=by
    unfold isIn at hi
    split at hi
    · rfl
    · cases hi
  subst hops
  refine Hd.one e fun y q e=>?_
  subst q
  have I:=IE (Hd.b e)
  have hm:markedEach [.In] [y] (evalEach [y] env)=[eval y env]:=congrArg (fun x=>[x]) (markedBehindIn_of_false (notMarked I.1))
  rw[hm]
  refine wpAny_bind (wpAny_holding (I.2 hA O X.step.rel fun q vb ρ₂ s₂ e Y=>wpAny_bind (wpAny_standAt (wpAny_operate' ?_))))
  have h:=(h.aft X.step).aft Y.step
  obtain⟨v,st₂⟩:=q
  have plain:Hd ((cmpop st₂.objs .In p.1 v).map fun r=>(V.d (.bool r),st₂)) P→wpAny (model prog w) A (compareOp .In va vb) Q E s₂:=fun e=>wp_cmp hA Y.step.rel (Hd.m e) (Y.vr0 X.vr) Y.vr fun r e=>Post.b (t:=s₂.toks) h Y.step.rel e
  cases v with
  | obj i=>
    obtain⟨a,rfl,ha⟩:=Y.vr
    exact(Hd.b e:Hd (instAt st₂.objs i) _).get fun k hk e=>Hd.str (Hd.b e) (Y.vr0 X.vr) fun x t z e=>z ▸ wp_InObj (P:=fun r=>P (r.1,⟨st₂.vars,r.2⟩)) W IC ((Hd.b e).get fun r hr e=> .of hr (Hd.m e)) hA Y.step.rel ha (.of hk trivial) fun b o ρ' s' e WS=>h.ep e ⟨Y.step.rel.back WS,rfl,fun _ q=>q.elim⟩
  |_=>exact plain e
end
end Mine
end
section
open PySem PySem.W PyProof.Rows
namespace Mine
noncomputable abbrev tupIters:List String:=["enumerate","zip","dict_itemiterator","dict_reverseitemiterator","odict_iterator","itertools.zip_longest","itertools.pairwise"]
structure Gen (prog:Program) (w:World) (K:Ctx0) (it:It) (I:Addr) (ws:Addr→Prop) (T:Nat→Rho→Heap→Prop) (U:Nat→Value→Rho→Heap→Prop):Prop where
  own:∀{j ρ h},T j ρ h→∀a,ws a→ρ.k a= .hid∧Live h a
  mv:∀{j ow fr ρ ρ' h h'},T j ρ h→Mv ow fr ρ ρ' h h'→(∀a,ws a→¬ow a)→T j ρ' h'
  next:∀{A C env st ρ s j x Q E},A.handled=none→Rel K C env st ρ s→T j ρ s.heap→nextIt st.objs j it=some (some x)→
    (∀v s',Step K C env st ws ρ s ρ s'→Rd (Fz s'.heap ρ) x v→U (j+1) v ρ s'.heap→Q (some v) s')→wpAny (model prog w) A (pyNext (.ref I)) Q E s
  done:∀{A C env st ρ s j Q E},A.handled=none→Rel K C env st ρ s→T j ρ s.heap→nextIt st.objs j it=some none→
    (∀h' tk,(∀b o,¬ws b→s.heap.get? b=some o→h'.get? b=some o)→Q none {s with heap:=h',toks:=tk})→wpAny (model prog w) A (pyNext (.ref I)) Q E s
  go:∀{A C env st ρ s j target v Q E},Rel K C env st ρ s→U j v ρ s.heap→okTarget it target=true→(∀s',Step K C env st ws ρ s ρ s'→T j ρ s'.heap→Q () s')→wpAny (model prog w) A (letOwnedTupleGo target (.ref I) v) Q E s
  iter:∀{A j ρ s Q E},A.handled=none→T j ρ s.heap→Q (.ref I) s→wpAny (model prog w) A (pyIter (.ref I)) Q E s
noncomputable def PostI (prog:Program) (w:World) (K:Ctx0) (C:Cx) (env:Env) (P:It×St→Prop) (ρ:Rho) (s:Shared) (Q:Value→Shared→Prop):Prop:=
  ∀p I ws T U ρ' s',P p→Gen prog w K p.1 I ws T U→T 0 ρ' s'.heap→Step K C env p.2 No ρ s ρ' s'→(∀a,ws a→¬Live s.heap a)→Q (.ref I) s'
structure WT (I:Addr) (fp:List Addr) (xs:List PyData) (P:Nat→Value→Prop) (St:Nat→Heap→Prop) (j:Nat) (ρ:Rho) (h:Heap):Prop where
  le:j≤xs.length
  st:St j h
  k:ρ.k I= .hid
  foot:∀b∈fp,b≠I→∃o,Fz h ρ b o
  data:∀{i x v},xs[i]?=some x→P i v→Rd (Fz h ρ) x v
section
variable {prog:Program} {w:World} {K:Ctx0} {A:Around} {E:Value→Shared→Prop} {C:Cx} {env:Env} {st:St} {ρ ρ' ρ₁:Rho} {h h':Heap} {s s₁:Shared} {n:Nat} {I:Addr} {fp:List Addr} {xs:List PyData} {P:Nat→Value→Prop} {St:Nat→Heap→Prop} {ws:Addr→Prop} {j:Nat} {tk:Nat} {v:V} {val:Value}
theorem Rel.wrote (R:Rel K C env st ρ s) (hw:∀b,ws b→ρ.k b= .hid) (hk:∀b o,¬ws b→s.heap.get? b=some o→h'.get? b=some o) (l:∀b,ws b→Live h' b):Step K C env st ws ρ s ρ {s with heap:=h',toks:=tk}:=
  R.own hw hk (fun _ _=>rfl) rfl (fun b q _=>l b q) fun b i q e=>by rw[hw b q]at e;cases e
theorem wp_noTuple {o:Obj} {n:String} {target:Expr} {v:Value} {Q:Unit→Shared→Prop} (ho:s.heap.get? I=some o) (hc:o.cls= .type n) (hn:tupIters.contains n=false) (h:Q () s):wpAny (model prog w) A (letOwnedTupleGo target (.ref I) v) Q E s:=by
  unfold letOwnedTupleGo
  have key:wpAny (model prog w) A (do
      let(.ref r,.ref a):=((.ref I:Value),v) |return
      let o←load r
      match o.cls,o.data with
      | .type n,.fields vs=>
        if tupIters.contains n&&vs[0]?==some (rawInt a)then
          rule "for.unpacks-the-owned-tuple"
          updateField r 0 .none
      |_,_=>pure ()) Q E s:=by
    cases v with
    | ref a=>
      dsimp only
      refine wpAny_bind (wpAny_load ho ?_)
      rw[hc]
      cases hd:o.data with
      |fields vs=>dsimp only;rw[hn];exact wpAny_pure h
      |_=>exact wpAny_pure h
    |_=>exact wpAny_pure h
  cases target<;>first |exact wpAny_pure h |exact key
theorem WT.mv {ow fr:Addr→Prop} {I':Nat→Heap→Prop} (fr_:∀i h h',St i h→(∀b∈fp,∀o,h.get? b=some o→h'.get? b=some o)→St i h') (t:WT I fp xs P St j ρ h) (M:Mv ow fr ρ ρ' h h') (n:¬ow I) (l:Live h I):WT I fp xs P St j ρ' h':=by
  obtain⟨o,e⟩:=l
  refine⟨t.le,fr_ _ _ _ t.st fun b hb ob eb=>?_,(M.hid t.k e n).1,fun b hb hn=>let⟨o,f⟩:=t.foot b hb hn;⟨o,M.fz f⟩,fun hx hp=>(t.data hx hp).mono M.fz⟩
  by_cases q:b=I
  · subst q;exact(M.hid t.k eb n).2
  · obtain⟨o',f⟩:=t.foot b hb q
    exact(M.fz ⟨f.1,eb⟩).2
theorem Gen.ofWalks (W:∀A:Around,A.handled=none→Walks prog w A I fp [I] xs.length P St) (hst:∀i h,St i h→∃o n,h.get? I=some o∧o.cls= .type n∧tupIters.contains n=false):
    Gen prog w K (.vals xs) I (·=I) (WT I fp xs P St) (fun j _=>WT I fp xs P St j) where
  own:=fun t a q=>q ▸ ⟨t.k,let⟨o,_,e,_⟩:=hst _ _ t.st;⟨o,e⟩⟩
  mv:=fun t M n=>t.mv (I':=St) (W ⟨none,0,none,none,0⟩ rfl).frame M (n I rfl) (let⟨o,_,e,_⟩:=hst _ _ t.st;⟨o,e⟩)
  next:=fun {A C env st ρ s j x Q E} hA R t e hQ=>by
    have hx:xs[j]?=some x:=Option.some.inj e
    have hj:j<xs.length:=(List.getElem?_eq_some_iff.mp hx).1
    refine(W A hA).item j s Q E hj t.st fun v h' tk hp hs hk=>?_
    have S:Step K C env st (·=I) ρ s ρ {s with heap:=h',toks:=tk}:=R.wrote (fun b q=>q ▸ t.k) (fun b o n=>hk b o fun q=>n (List.mem_singleton.mp q)) fun b q=>q ▸ let⟨o,_,e,_⟩:=hst _ _ hs;⟨o,e⟩
    exact hQ v _ S ((t.data hx hp).mono S.mv.fz) ⟨hj,hs,t.k,fun b hb n=>let⟨o,f⟩:=t.foot b hb n;⟨o,S.mv.fz f⟩,fun hx hp=>(t.data hx hp).mono S.mv.fz⟩
  done:=fun {A C env st ρ s j Q E} hA R t e hQ=>by
    have hx:xs[j]?=none:=Option.some.inj e
    obtain rfl:j=xs.length:=Nat.le_antisymm t.le (List.getElem?_eq_none_iff.mp hx)
    exact(W A hA).done s Q E t.st fun h' tk hk=>hQ h' tk fun b o n=>hk b o fun q=>n (List.mem_singleton.mp q)
  go:=fun R t _ hQ=>let⟨o,n,e,c,hn⟩:=hst _ _ t.st;wp_noTuple e c hn (hQ _ (R.stay fun b q=>q ▸ t.k) t)
  iter:=fun hA t hQ=>(W _ hA).self _ _ _ _ t.st hQ
theorem iter_walks {P':It×Mine.St→Prop} {o:Obj} {n:String} {Q:Value→Shared→Prop} (R:Rel K C env st ρ s) (W:∀A:Around,A.handled=none→Walks prog w A s.heap.objs.size fp [s.heap.objs.size] xs.length P St) (h0:St 0 (s.heap.push o)) (hf:o.isFreed=false)
    (h3:tupIters.contains n=false) (hst:∀i h,St i h→∃o,h.get? s.heap.objs.size=some o∧o.cls= .type n) (hfoot:∀b∈fp,b≠s.heap.objs.size→∃o,Fz s.heap ρ b o) (hdata:∀{i x v},xs[i]?=some x→P i v→Rd (Fz s.heap ρ) x v)
    (e:P' (.vals xs,st)) (h:PostI prog w K C env P' ρ s Q):Q (.ref s.heap.objs.size) {s with heap:=s.heap.push o,toks:=tk}:=by
  have S:Step K C env st No ρ s (ρ.set s.heap.objs.size .hid) {s with heap:=s.heap.push o,toks:=tk}:=R.hide not_live_size (.push o) ⟨_,Heap.get?_push_size _ hf⟩
  exact h _ _ _ _ _ _ _ e (Gen.ofWalks W fun i h q=>let⟨o,e,c⟩:=hst i h q;⟨o,n,e,c,h3⟩) ⟨Nat.zero_le _,h0,set_self,fun b hb n=>let⟨o,f⟩:=hfoot b hb n;⟨o,S.mv.fz f⟩,fun hx hp=>(hdata hx hp).mono S.mv.fz⟩ S fun a q=>q ▸ not_live_size
theorem Rds.at_ {F:Addr→Obj→Prop} {xs:List PyData} {vs:Array Value} (d:Rds F xs vs.toList) {i:Nat} {x:PyData} {v:Value} (hx:xs[i]?=some x) (hv:vs[i]?=some v):Rd F x v:=by
  obtain⟨v',h1,h2⟩:=d.get hx
  rw[Array.getElem?_toList,hv]at h1;cases h1;exact h2
theorem iter_list {P':It×Mine.St→Prop} {Q:Value→Shared→Prop} (R:Rel K C env st ρ s) (d:LA (Fz s.heap ρ) "list" (Rds (Fz s.heap ρ) xs) val) (e:P' (.vals xs,st)) (h:PostI prog w K C env P' ρ s Q):wpAny (model prog w) A (pyIter val) Q E s:=by
  obtain @⟨a,o,items,n,rfl,f,c,d,r⟩:=d
  have hne:a≠s.heap.objs.size:=fun q=>not_live_size ⟨o,q ▸ f.2⟩
  exact wpAny_pyIter_list ⟨o,f.2,c,n,d⟩ (iter_walks (tk:=s.toks) (n:="list_iterator") R (fun A hA=>r.size ▸ Walks.list hA s.heap.objs.size a hne items) ⟨⟨_,Heap.get?_push_size _ rfl,rfl,rfl⟩,o,Up.push _ _ _ f.2,c,n,d⟩ rfl (by decide) (fun i h q=>let⟨⟨o,e,c,_⟩,_⟩:=q;⟨o,e,c⟩)
    (fun b hb n=>(List.mem_cons.mp hb).elim (fun q=>absurd q n) fun q=>List.mem_singleton.mp q ▸ ⟨o,f⟩) (fun hx hp=>r.at_ hx hp) e h)
theorem iter_tuple {P':It×Mine.St→Prop} {Q:Value→Shared→Prop} (R:Rel K C env st ρ s) (d:LA (Fz s.heap ρ) "tuple" (Rds (Fz s.heap ρ) xs) val) (e:P' (.vals xs,st)) (h:PostI prog w K C env P' ρ s Q):wpAny (model prog w) A (pyIter val) Q E s:=by
  obtain @⟨a,o,items,n,rfl,f,c,d,r⟩:=d
  have hne:a≠s.heap.objs.size:=fun q=>not_live_size ⟨o,q ▸ f.2⟩
  exact wpAny_pyIter_tuple ⟨o,f.2,c,n,d⟩ (iter_walks (tk:=s.toks) (n:="tuple_iterator") R (fun A hA=>r.size ▸ Walks.tuple hA s.heap.objs.size a hne items) ⟨⟨_,Heap.get?_push_size _ rfl,rfl,rfl⟩,o,Up.push _ _ _ f.2,c,n,d⟩ rfl (by decide) (fun i h q=>let⟨⟨o,e,c,_⟩,_⟩:=q;⟨o,e,c⟩)
    (fun b hb n=>(List.mem_cons.mp hb).elim (fun q=>absurd q n) fun q=>List.mem_singleton.mp q ▸ ⟨o,f⟩) (fun hx hp=>r.at_ hx hp) e h)
theorem sign_at {x:Str} {i:Nat} {y:PyData} {v:Value} {F:Addr→Obj→Prop} (hx:((strL x).map fun c=>PyData.str (mkS [c]))[i]?=some y) (hp:SignAt x i v):Rd F y v:=by
  obtain⟨c,u,h1,rfl⟩:=hp
  rw[List.getElem?_map,show(strL x)[i]?=some c by rw[←h1];exact Array.getElem?_toList]at hx
  cases hx;exact⟨u,rfl⟩
theorem sign_size (x:Str):x.cps.size=((strL x).map fun c=>PyData.str (mkS [c])).length:=(List.length_map _).symm
theorem sign_walks {x:Str} {t:Tok} (hA:A.handled=none) (I:Addr):Walks prog w A I [I] [I] ((strL x).map fun c=>PyData.str (mkS [c])).length (SignAt x) fun i h=>h.IsStrIter I (strIterType x) x t i:=by
  rw[←sign_size]
  unfold strIterType
  cases x.cps.all (·<128)
  · exact Walks.strWide hA _ x t
  · exact Walks.strAscii hA _ x t
theorem sign_type (x:Str):tupIters.contains (strIterType x)=false:=by unfold strIterType;split<;>decide
theorem iter_str {P':It×Mine.St→Prop} {Q:Value→Shared→Prop} {x:Str} {t:Tok} (R:Rel K C env st ρ s) (e:P' (.vals ((strL x).map fun c=>PyData.str (mkS [c])),st)) (h:PostI prog w K C env P' ρ s Q):wpAny (model prog w) A (pyIter (.str x t)) Q E s:=
  wpAny_pyIter_strU (iter_walks (tk:=s.toks) (n:=strIterType x) R (fun A hA=>sign_walks (t:=t) hA _) ⟨_,Heap.get?_push_size _ rfl,rfl,rfl⟩ rfl (sign_type x) (fun i h q=>let⟨o,e,c,_⟩:=q;⟨o,e,c⟩) (fun b hb n=>absurd (List.mem_singleton.mp hb) n) sign_at e h)
theorem iter_range {P':It×Mine.St→Prop} {Q:Value→Shared→Prop} {lo hi sp:Int} {t u z:Tok} {a:Addr} (R:Rel K C env st ρ s) (f:Fz s.heap ρ a (rObj lo hi sp t u z)) (e:Hd (rangeL lo hi sp) fun xs=>P' (.vals xs,st)) (h:PostI prog w K C env P' ρ s Q):wpAny (model prog w) A (pyIter (.ref a)) Q E s:=by
  refine e.gd fun _ e=>e.g fun hq e=>?_
  obtain⟨hsm,-⟩:=Bool.and_eq_true _ _ ▸ hq
  have hlen:((List.range (Builtin.Range.rangeSize lo hi sp).toNat).map fun(i:Nat)=>PyData.int (lo+(i:Int) * sp)).length=(Builtin.Range.rangeSize lo hi sp).toNat:=(List.length_map _).trans List.length_range
  refine wpAny_pyIter_range f.2 hsm (iter_walks (tk:=s.toks) (n:="range_iterator") R (fun A hA=>by rw[hlen];exact Walks.range hA s.heap.objs.size lo sp _) ?_ rfl (by decide) (fun i h q=>⟨_,q,rfl⟩) (fun b hb n=>absurd (List.mem_singleton.mp hb) n) (fun {i x v} hx hp=>?_) e h)
  · rw[show lo+((0:Nat):Int) * sp=lo by simp,show(((Builtin.Range.rangeSize lo hi sp).toNat:Int) - ((0:Nat):Int))=Builtin.Range.rangeSize lo hi sp by rw[rangeSize_toNat];simp]
    exact Heap.get?_push_size _ rfl
  · obtain⟨t,rfl⟩:=hp
    rw[List.getElem?_map]at hx
    obtain⟨j,hj,rfl⟩:=Option.map_eq_some_iff.mp hx
    obtain⟨hi,rfl⟩:=List.getElem?_eq_some_iff.mp hj
    rw[List.getElem_range];exact⟨t,rfl⟩
structure CT (I:Addr) (i:Nat) (a:Addr) (j:Nat) (ρ:Rho) (h:Heap):Prop where
  it:h.IsListIter I a j
  at_:At ρ i a
  k:ρ.k I= .hid
theorem next_list {i a:Nat} {ox:Option PyData} {T:Prop} (R:Rel K C env st ρ s) (ha:At ρ i a) (e:nextIt st.objs j (.cell i)=some ox) (k:∀xs items n,s.heap.get? a=some (lObj items n)→Rds (Fz s.heap ρ) xs items.toList→xs[j]?=ox→T):T:=
  let⟨_,h1,h2⟩:=Option.map_eq_some_iff.mp e
  listAt_ok R.w.store (.of (P:=fun xs:List PyData=>xs[j]?=ox) h1 h2) fun a' xs items n p q g d=>k xs items n ((q.1.symm.trans ha.1:a'=a) ▸ g) d p
theorem Gen.ofCell {i a:Nat} (hne:a≠I):Gen prog w K (.cell i) I (·=I) (CT I i a) (fun j _=>CT I i a j) where
  own:=fun t b q=>q ▸ ⟨t.k,let⟨o,e,_⟩:=t.it;⟨o,e⟩⟩
  mv:=fun t M n=>let⟨o,e,r⟩:=t.it;⟨⟨o,(M.hid t.k e (n I rfl)).2,r⟩,M.at_ _ _ t.at_,(M.hid t.k e (n I rfl)).1⟩
  next:=fun {A C env st ρ s j x Q E} hA R t e hQ=>next_list R t.at_ e fun xs items n g d hx=>by
    obtain⟨v,hv,dv⟩:=d.get hx
    refine wpAny_pyNext_list_item t.it ⟨_,g,rfl,n,rfl⟩ (Array.getElem?_toList ▸ hv) fun h' hit' hs'=>?_
    have S:Step K C env st (·=I) ρ s ρ {s with heap:=h',toks:=s.toks}:=R.wrote (fun b q=>q ▸ t.k) (fun b o n e=>(hs'.2 b n).trans e) fun b q=>q ▸ let⟨o,e,_⟩:=hit';⟨o,e⟩
    exact hQ v _ S (dv.mono S.mv.fz) ⟨hit',t.at_,t.k⟩
  done:=fun {A C env st ρ s j Q E} hA R t e hQ=>next_list R t.at_ e fun xs items n g d hx=>by
    have hj:=List.getElem?_eq_none_iff.mp hx
    exact wpAny_pyNext_list_end hA t.it ⟨_,g,rfl,n,rfl⟩ (Array.getElem?_eq_none (d.size ▸ hj)) fun h' he'=>hQ h' s.toks fun b o n e=>he' b o n e
  go:=fun R t _ hQ=>let⟨o,e,c,_⟩:=t.it;wp_noTuple e c (by decide) (hQ _ (R.stay fun b q=>q ▸ t.k) t)
  iter:=fun hA t hQ=>wpAny_pyIter_listiter t.it hQ
theorem iter_cell {P':It×Mine.St→Prop} {Q:Value→Shared→Prop} {i a:Nat} (R:Rel K C env st ρ s) (ha:At ρ i a) (e:Hd (listAt st.objs i) fun _=>P' (.cell i,st)) (h:PostI prog w K C env P' ρ s Q):wpAny (model prog w) A (pyIter (.ref a)) Q E s:=
  listAt_ok R.w.store e fun a' xs items n e q g d=>by
    obtain rfl:a'=a:=q.1.symm.trans ha.1
    have S:Step K C env st No ρ s (ρ.set s.heap.objs.size .hid) {s with heap:=s.heap.push {cls:= .type "list_iterator",data:= .fields #[.ref a',.int 0 0]}}:=R.hide (t:=s.toks) not_live_size (.push _) ⟨_,Heap.get?_push_size _ rfl⟩
    exact wpAny_pyIter_list ⟨_,g,rfl,n,rfl⟩ (h _ _ _ _ _ _ _ e (Gen.ofCell fun q=>not_live_size ⟨_,q ▸ g⟩) ⟨⟨_,Heap.get?_push_size _ rfl,rfl,rfl⟩,S.mv.at_ _ _ ha,set_self⟩ S fun b q=>q ▸ not_live_size)
theorem wp_iterV {P':It×Mine.St→Prop} {Q:Value→Shared→Prop} (R:Rel K C env st ρ s) (r:VR K s.heap ρ v val) (e:Hd (itIn st.objs v) fun it=>P' (it,st)) (nf:v.fl?=none) (h:PostI prog w K C env P' ρ s Q):wpAny (model prog w) A (pyIter val) Q E s:=by
  cases v with
  |fl xs=>cases nf
  | d x=>
    cases x with
    |list xs=>exact iter_list R r e h
    |tuple xs=>exact iter_tuple R r e h
    |str x=>exact let⟨t,q⟩:=r;q ▸ iter_str R e h
    |_=>exact e.elim
  |hl i=>exact let⟨a,q,ha⟩:=r;q ▸ iter_cell R ha e.m h
  |rng lo hi sp=>exact let⟨a,t,u,z,q,f⟩:=r;q ▸ iter_range R f e.m h
  |_=>exact e.elim
end
section
variable {prog:Program} {w:World} {K:Ctx0} {A:Around} {E:Value→Shared→Prop} {C:Cx} {env:Env} {st:Mine.St} {ρ ρ₁:Rho} {s s₁:Shared} {n:Nat} {f:Fs} {P:It×Mine.St→Prop} {Q:Value→Shared→Prop}
theorem PostI.aft (h:PostI prog w K C env P ρ s Q) (S:Step K C env st No ρ s ρ₁ s₁):PostI prog w K C env P ρ₁ s₁ Q:=fun p I ws T U ρ' s' e g t S' n=>h p I ws T U ρ' s' e g t (S.aft S') fun a q l=>n a q (S.mv.live l id)
theorem wp_iterE {e:Expr} (IE:SE prog w K n C (f.ev C)) (h:Hd (Mine.iterV f C e st) P) (hA:AOK A n) (O:EnvOK K C env) (R:Rel K C env st ρ s) (hQ:PostI prog w K C env P ρ s Q):wpAny (model prog w) A (eval e env) (fun xv s₁=>wpAny (model prog w) A (pyIter xv) Q E s₁) E s:=
  (IE h.b).2 hA O R fun p val ρ₁ s₁ h X=>by
    obtain⟨v,st₁⟩:=p
    have h:=Hd.m h
    cases v with
    |fl xs=>exact X.data (P:=fun x=>Hd (itD x) fun it=>P (it,st₁)) h fun x ρ₂ e S d=>wp_iterV (v:= .d x) S.rel d e rfl (hQ.aft S)
    |_=>exact wp_iterV X.step.rel X.vr h rfl (hQ.aft X.step)
end
end Mine
end
section
open PySem PySem.W PyProof.Rows
namespace Mine
section
variable {prog:Program} {w:World} {A:Around} {E:Value→Shared→Prop} {s:Shared}
theorem setAll {l sl r:Addr} {items new:Array Value} {n:Nat} {Q:Unit→Shared→Prop} (ho:s.heap.get? l=some (lObj items n)) (hr:s.heap.IsList r new) (hlr:l≠r) (hs:s.heap.IsSliceOf sl .none .none .none) (hz:items.size+new.size≤maxLen)
    (hQ:∀h' n',h'.get? l=some (lObj new n')→Heap.SameBut l s.heap h'→Q () {s with heap:=h'}):wpAny (model prog w) A (setItem (.ref l) (.ref sl) (.ref r)) Q E s:=by
  have hl:s.heap.IsList l items:=⟨_,ho,rfl,n,rfl⟩
  obtain⟨os,hos,hcs,hds⟩:=id hs
  have hTs:s.TypeIs (.ref sl) "slice":=⟨os,hos,hcs⟩
  have hm:maxLen≤sizeLine:=by decide
  obtain⟨orr,hor,hcr,nr,hdr⟩:=id hr
  unfold setItem
  refine wpAny_holding ?_
  refine wpAny_bind (wpAny_sequenceKey hl.typeIs (by decide) ?_)
  refine wpAny_bind (wpAny_callSpecial?_slot (name:=Str.ofString "__setitem__") hl.typeIs slot_list_setitem
    (wpAny_call_entry slot_list_setitem hl.typeIs entry_list_setitem ?_ (args_list_setitem _ _ _)))
  show wpAny _ _ (Builtin.List.listSubscript? (.ref sl)>>=_) _ _ s
  refine wpAny_bind ?_
  unfold Builtin.List.listSubscript?
  refine wpAny_bind (wpAny_specialOf hTs slice_no_index ?_)
  simp only[Option.isNone_none,if_true]
  refine wpAny_pure ?_
  show wpAny _ _ (typeOf (.ref sl)>>=_) _ _ s
  refine wpAny_bind (wpAny_typeOf hTs ?_)
  rw[if_neg (by decide)]
  rw[listSliceParts_eq]
  refine wpAny_bind (wpAny_bind (wpAny_field hos hds (x:= .none) rfl (wpAny_bind (wpAny_listPart (k:=none) .none ?_))))
  rw[if_neg (show ¬((rawPart none==rawInt 0)=true)from Bool.false_ne_true)]
  refine wpAny_bind (wpAny_field hos hds (x:= .none) rfl (wpAny_bind (wpAny_listPart (k:=none) .none ?_)))
  refine wpAny_bind (wpAny_field hos hds (x:= .none) rfl (wpAny_bind (wpAny_listPart (k:=none) .none (wpAny_pure ?_))))
  rw[if_neg (show ¬(Builtin.List.listSameRef (.ref l) (.ref r)=true)from fun e=>hlr (eq_of_beq e))]
  refine wpAny_bind ?_
  unfold Builtin.List.listAllItems
  refine wpAny_bind (wpAny_typeOf hr.typeIs ?_)
  rw[if_pos (by decide)]
  unfold Builtin.List.listItems
  refine wpAny_bind (wpAny_seqItems hor hdr (wpAny_pure ?_))
  refine wpAny_bind (wpAny_bind (wpAny_seqItems ho rfl (wpAny_pure ?_)))
  refine wpAny_bind (wpAny_of_eq ((sliceIndices_raw none none none items.size nofun).trans (congrArg pure (show _=((0:Int),(items.size:Int),(1:Int))from rfl))) ?_)
  dsimp only
  have e:∀xs:Array Value,xs.size=items.size→xs.extract 0 (Int.toNat 0)++new++xs.extract (max 0 (items.size:Int)).toNat xs.size=new:=fun xs q=>by
    rw[show(max 0 (items.size:Int)).toNat=xs.size by omega];simp
  rw[if_pos (by rfl)]
  refine wpAny_bind (wpAny_rule ?_)
  rw[if_neg (by simp only[Builtin.List.listTooLong,decide_eq_true_eq];omega)]
  refine wpAny_bind (wpAny_updateSeq ho rfl (wpAny_bind (wpAny_letGo (wpAny_pure ⟨.none,rfl,wpAny_pure (hQ _ (if new.size==items.size then n else n+1) ?_ (Heap.SameBut.update ..))⟩))) (by omega) (by rw[e _ rfl];omega))
  rw[Heap.get?_update_self _ ho rfl]
  simp only[lObj,Obj.mapSeq,e _ rfl]
end
section
variable {prog:Program} {w:World} {G:Env'} {K:Ctx0} {fa:Str→Addr} {A:Around} {E:Value→Shared→Prop} {C:Cx} {env:Env} {st:St} {ρ:Rho} {s:Shared} {n:Nat} {f:Fs} {P:V×St→Prop} {T:Prop} {i:Nat} {a:Addr} {vs:List V} {vals:List Value}
theorem seqk {k:Value} {nm:Str} {o:Obj} {Q:Value→Shared→Prop} (W:Wd prog w K G fa) (R:Rel K C env st ρ s) (ho:s.heap.get? a=some o) (hc:o.cls= .ref K.cls) (h:Q k s):wpAny (model prog w) A (sequenceKey (.ref a) k nm) Q E s:=by
  have up:=R.up0
  obtain⟨hh,g,d,t,os⟩:=s
  refine W.co up fun cN nm q bs sn sub col dd k0 k1 k2 k3 k5 hC hN=>?_
  unfold sequenceKey seqItemTypes isSubtype
  repeat (first |(with_reducible refine wpAny_loadPart_at ho ?_;rw[hc]) |with_reducible refine wpAny_loadPart_at hC ?_ |wp_step)
  exact h
theorem wp_setO {key val:Value} {b x:V} {Q:Unit→Shared→Prop} (W:Wd prog w K G fa) (IC:SC prog w G K fa n f.call) (e:Hd (objCall f "Headers.__setitem__" i [b,x] st) P) (hA:AOK A n) (R:Rel K C env st ρ s) (ha:At ρ i a) (rs:VRs K s.heap ρ [b,x] [key,val]) (h:Post K C env P ρ s fun _ s=>Q () s):wpAny (model prog w) A (setItem (.ref a) key val) Q E s:=
  own_of (m:="__setitem__") W IC e R ha fun X _ ⟨o,ho,hc⟩=>by
    unfold setItem
    refine wpAny_holding (wpAny_bind (seqk W R ho hc ?_))
    exact wpAny_bind (wpAny_callSpecial?_own X (wp_objF IC e hA R ha rs fun p v ρ' s' e Y=>wpAny_pure (h p v ρ' s' e Y)))
theorem wp_delO {key:Value} {b:V} {Q:Unit→Shared→Prop} (W:Wd prog w K G fa) (IC:SC prog w G K fa n f.call) (e:Hd (objCall f "Headers.__delitem__" i [b] st) P) (hA:AOK A n) (R:Rel K C env st ρ s) (ha:At ρ i a) (rs:VRs K s.heap ρ [b] [key]) (h:Post K C env P ρ s fun _ s=>Q () s):wpAny (model prog w) A (delItem (.ref a) key) Q E s:=
  own_of (m:="__delitem__") W IC e R ha fun X _ ⟨o,ho,hc⟩=>by
    unfold delItem
    refine wpAny_holding (wpAny_bind (seqk W R ho hc ?_))
    exact wpAny_bind (wpAny_callSpecial?_own X (wp_objF IC e hA R ha rs fun p v ρ' s' e Y=>wpAny_pure (h p v ρ' s' e Y)))
end
end Mine
end
section
open PySem PySem.W PyProof.Rows
namespace Mine
theorem wpAny_unpackItems_listM {prog:Program} {w:World} {A:Around} {E:Value→Shared→Prop} {s:Shared} {t:Addr} {items:Array Value} {Q:List Value→Shared→Prop} (hh:A.handled=none) (ht:s.heap.IsList t items)
    (hQ:∀h',Heap.ExtBut s.heap.objs.size s.heap h'→Q items.toList {s with heap:=h'}):wpAny (model prog w) A (unpackItems (.ref t) items.size none) Q E s:=by
  have hlt:t≠s.heap.objs.size:=by obtain⟨o,ho,_⟩:=ht;exact Nat.ne_of_lt (Heap.lt_size ho)
  have dr:∀(n i:Nat) (s₁:Shared) (Q:List Value→Shared→Prop),s₁.heap.IsListIter s.heap.objs.size t i→s₁.heap.IsList t items→i+n≤items.size→
      (∀h',h'.IsListIter s.heap.objs.size t (i+n)→Heap.SameBut s.heap.objs.size s₁.heap h'→Q ((items.toList.drop i).take n) {s₁ with heap:=h'})→wpAny (model prog w) A (draw (.ref s.heap.objs.size) n) Q E s₁:=by
    intro n
    induction n with
    | zero=>
      intro i s₁ Q hit _ _ hQ
      show wpAny _ _ (pure []) Q E s₁
      exact wpAny_pure (by simpa using hQ s₁.heap hit (Heap.SameBut.refl ..))
    | succ n ih=>
      intro i s₁ Q hit ht hle hQ
      have hlt':i<items.size:=by omega
      show wpAny _ _ (pyNext (.ref _)>>=_) Q E s₁
      refine wpAny_bind (wpAny_pyNext_list_item hit ht (x:=items[i]) (by simp[hlt']) fun h₁ hit₁ hs₁=>?_)
      refine wpAny_bind (wpAny_holding (ih (i+1) _ _ hit₁ (ht.extBut hs₁.extBut hlt) (by omega) fun h₂ hit₂ hs₂=>wpAny_pure ?_))
      have hd:items.toList.drop i=items[i]::items.toList.drop (i+1):=by simp[List.drop_eq_getElem_cons,hlt']
      have:=hQ h₂ (by rw[show i+(n+1)=i+1+n by omega];exact hit₂) (hs₁.trans hs₂)
      rw[hd,List.take_succ_cons]at this
      exact this
  unfold unpackItems
  refine wpAny_bind ?_
  unfold notIterableAtAll
  refine wpAny_bind (wpAny_specialOf ht.typeIs slot_list_iter.lookup ?_)
  refine wpAny_pure ?_
  simp only[Bool.false_eq_true,if_false]
  have htp:∀o,(s.heap.push o).IsList t items:=fun o=>let⟨ob,ho,r⟩:=ht;⟨ob,Heap.get?_push_of_some _ ho,r⟩
  refine wpAny_bind (wpAny_holding (wpAny_pyIter_list ht ?_))
  refine wpAny_bind (wpAny_holding (dr items.size 0 _ _ ⟨_,Heap.get?_push_size _ rfl,rfl,rfl⟩ (htp _) (by omega) fun h₁ hit₁ hs₁=>?_))
  have hall:List.take items.size (List.drop 0 items.toList)=items.toList:=by
    rw[List.drop_zero];exact List.take_of_length_le (by simp)
  rw[hall]
  rw[if_neg (by simp)]
  have ht₁:h₁.IsList t items:=(htp _).extBut hs₁.extBut hlt
  refine wpAny_bind (wpAny_holding (wpAny_pyNext_list_end hh hit₁ ht₁ (by simp) fun h₂ he₂=>?_))
  simp only[Option.isSome_none,Bool.false_eq_true,if_false]
  exact wpAny_pure (hQ h₂ fun b o hb e=>he₂ b o hb (hs₁.extBut b o hb (Heap.get?_push_of_some _ e)))
theorem wpAny_setItem_listM {prog:Program} {w:World} {A:Around} {E:Value→Shared→Prop} {s:Shared} {l:Addr} {items:Array Value} {n:Nat} {k:Int} {t:Tok} {v:Value} {Q:Unit→Shared→Prop} (ho:s.heap.get? l=some (lObj items n))
    (h0:0≤k) (hfit:k<2 ^ 63) (hn:k<items.size)
    (hQ:∀h' n',h'.get? l=some (lObj (items.setIfInBounds k.toNat v) n')→Heap.SameBut l s.heap h'→Q () {s with heap:=h'}):
    wpAny (model prog w) A (setItem (.ref l) (.int k t) v) Q E s:=by
  have hl:s.heap.IsList l items:=⟨_,ho,rfl,n,rfl⟩
  unfold setItem
  refine wpAny_holding ?_
  refine wpAny_bind (wpAny_sequenceKey hl.typeIs (by decide) ?_)
  refine wpAny_bind (wpAny_callSpecial?_slot (name:=Str.ofString "__setitem__") hl.typeIs slot_list_setitem
    (wpAny_call_entry slot_list_setitem hl.typeIs entry_list_setitem ?_ (args_list_setitem _ _ _)))
  show wpAny _ _ (Builtin.List.listSubscript? (.int k t)>>=_) _ _ s
  refine wpAny_bind (wpAny_listSubscript_int (fitsIndex_of h0 hfit) ?_)
  clear hfit
  obtain⟨j,rfl⟩:=Int.eq_ofNat_of_zero_le h0
  have hj:j<items.size:=by omega
  have hx':items[j]?=some items[j]:=Array.getElem?_eq_getElem hj
  show wpAny _ _ ((seqItemAt l j>>=fun r=>pure (r.map (j,·)))>>=_) _ _ s
  refine wpAny_bind (wpAny_bind (wpAny_seqItemAt ho rfl (wpAny_pure ?_)))
  rw[hx']
  show wpAny _ _ (setSeqItemAt l j v>>=_) _ _ s
  obtain⟨n',hd'⟩:∃n',(lObj items n).mapSeq (·.setIfInBounds j v)=lObj (items.setIfInBounds j v) n':=⟨_,rfl⟩
  have hfin:(s.heap.update l (Obj.mapSeq (·.setIfInBounds j v))).get? l=some (lObj (items.setIfInBounds j v) n'):=by
    rw[Heap.get?_update_self _ ho (by rw[hd'];rfl),hd']
  refine wpAny_bind (wpAny_setSeqItemAt ho rfl ?_)
  first
    |exact wpAny_bind (wpAny_pure (wpAny_pure ⟨.none,rfl,wpAny_pure (hQ _ _ hfin (Heap.SameBut.update ..))⟩))
    |exact wpAny_pure ⟨.none,rfl,wpAny_pure (hQ _ _ hfin (Heap.SameBut.update ..))⟩
section
variable (prog:Program) (w:World) (K:Ctx0) (n:Nat) (C:Cx)
noncomputable def okT (C:Cx):Expr→Bool | .Starred .. =>false | .List .. =>false | .Name x _=>isK C.sc x .local||isK C.sc x .cell |_=>true
noncomputable def PostS (P:St→Prop) (env:Env) (ow:Addr→Prop) (ρ:Rho) (s:Shared) (Q:Unit→Shared→Prop):Prop:=∀st' ρ' s',P st'→Step K C env st' ow ρ s ρ' s'→Q () s'
noncomputable def SB (f:Expr→V→St→Option St):Prop:=∀{t v st P},Hd (f t v st) P→okT C t=true∧∀{A s ρ env val Q E},AOK A n→EnvOK K C env→Rel K C env st ρ s→VR K s.heap ρ v val→PostS K C P env (Ow v val) ρ s Q→wpAny (model prog w) A (assign t env val) Q E s
end
section
variable {prog:Program} {w:World} {G:Env'} {K:Ctx0} {fa:Str→Addr} {A:Around} {E:Value→Shared→Prop} {C:Cx} {env:Env} {st st₁:St} {ρ ρ₁ ρ₂:Rho} {s s₁ s₂:Shared} {n:Nat} {f:Fs} {P:St→Prop} {Q:Unit→Shared→Prop} {pos:Pos} {v:V} {val:Value} {ow ow':Addr→Prop}
theorem PostS.aft (h:PostS K C P env ow ρ s Q) (S:Step K C env st₁ ow ρ s ρ₁ s₁) (hw:∀b,Live s.heap b→ow' b→ow b):PostS K C P env ow' ρ₁ s₁ Q:=fun st' ρ' s' e S'=>h st' ρ' s' e (S.trans S' hw)
theorem wp_bindBy (g:Expr→V→St→Option St) (F:Expr→Value→Sem Unit):∀(ts:List Expr) (vs:List V) {vals st ρ s},(∀t∈ts,∀{v st s ρ val} {P:St→Prop} {Q:Unit→Shared→Prop},Hd (g t v st) P→Rel K C env st ρ s→VR K s.heap ρ v val→PostS K C P env (Ow v val) ρ s Q→wpAny (model prog w) A (F t val) Q E s)→
    ts.length=vs.length→Hd (bindAll g (ts.zip vs) st) P→VRs K s.heap ρ vs vals→Rel K C env st ρ s→PostS K C P env (Ows vs vals) ρ s Q→wpAny (model prog w) A (assignInOrder (ts.map F) vals) Q E s
  | [],[],_,_,_,_,_,_,e,rs,R,h=>by
    cases(rs:_=[])
    exact wpAny_pure (h _ _ _ e (R.stay fun _ q=>q.elim))
  |[],_::_,_,_,_,_,_,l,_,_,_,_=>nomatch l
  |_::_,[],_,_,_,_,_,l,_,_,_,_=>nomatch l
  | t::ts,v::vs,_,st,ρ,s,H,l,e,rs,R,h=>by
    have own:=fun b (o:Ows (v::vs) _ b)=>(VRs.own rs o).1
    obtain⟨rfl,a,r,d⟩:=rs
    show wpAny _ A (do holding _ (F t _);assignInOrder (ts.map F) _) Q E s
    exact wpAny_bind (wpAny_holding (H t (.head _) (Hd.b e) R a fun st₁ ρ₁ s₁ e S=>wp_bindBy g F ts vs (fun t ht=>H t (.tail _ ht)) (Nat.succ.inj l) e (r.mv S.mv fun b o o'=>d b o' o) S.rel (h.aft (S.more own fun _=> .inl) fun _ _=> .inr)))
theorem bindAll_ok {g:Expr→V→St→Option St} (H:∀{t v st} {P:St→Prop},Hd (g t v st) P→okT C t=true):∀{l:List (Expr×V)} {st} {P:St→Prop},Hd (bindAll g l st) P→∀p∈l,okT C p.1=true
  |[],_,_,_,_,h=>nomatch h
  |q::l,st,P,e,p,hp=>(Hd.b e).get fun st₁ h1 e=>(List.mem_cons.mp hp).elim (fun z=>z ▸ H (.of h1 trivial:Hd _ fun _=>True)) (bindAll_ok H e p)
theorem zip_all {α β:Type} {p:α→Prop}:∀{ts:List α} {vs:List β},ts.length=vs.length→(∀q∈ts.zip vs,p q.1)→∀t∈ts,p t
  |[],_,_,_,_,h=>nomatch h
  |_::_,[],l,_,_,_=>nomatch l
  |t::ts,v::vs,l,h,u,hu=>(List.mem_cons.mp hu).elim (fun q=>q ▸ h (t,v) (.head _)) (zip_all (Nat.succ.inj l) (fun q hq=>h q (.tail _ hq)) u)
theorem assignEach_plain (env:Env):∀{ts:List Expr},(∀t∈ts,okT C t=true)→assignEach ts env=ts.map fun t=>(false,assign t env)
  |[],_=>rfl
  | t::ts,h=>by
    have ih:=assignEach_plain env fun t ht=>h t (.tail _ ht)
    have h0:=h t (.head _)
    rw[List.map_cons,←ih]
    cases t<;>first |rfl |cases h0
theorem parts_len {m:Nat} {o:Objs} {P:List V→Prop} {T:Prop} (e:Hd (parts m o v) P) (k:∀vs,m=vs.length→P vs→T):T:=Hd.el e (fun e=>e.get fun q _ e=>e.gd fun h e=>k [.obj _,.d _,.hl _] h.symm e) fun e=>(Hd.b e).get fun xs _ e=>e.gd fun h e=>k (xs.map .d) (h.symm.trans (List.length_map _).symm) e
theorem VRs.ofDatas {h:Heap} {xs:List PyData} {vals:List Value} (r:Rds (Fz h ρ) xs vals):VRs K h ρ (xs.map .d) vals:=Rds.ind (P:=fun xs vals=>VRs K h ρ (xs.map .d) vals) rfl (fun _ _ _ _ a _ b=>⟨rfl,a,b,fun _ q=>q.elim⟩) r
theorem Ows.data:∀{xs:List PyData} {vals:List Value} {b:Addr},¬Ows (xs.map .d) vals b
  |[],_,_,o=>o
  |_::_,[],_,o=>o
  |_::_,_::_,_,o=>o.elim id Ows.data
theorem wp_parts {P:List V→Prop} {Q:List Value→Shared→Prop} {m:Nat} (hA:A.handled=none) (R:Rel K C env st ρ s) (r:VR K s.heap ρ v val) (e:Hd (parts m st.objs v) P)
    (h0:∀(vs:List V) vals ρ' s',P vs→m=vs.length→Step K C env st (Ow v val) ρ s ρ' s'→VRs K s'.heap ρ' vs vals→(∀b,¬Ows vs vals b)→Q vals s'):wpAny (model prog w) A (unpackItems val m none) Q E s:=by
  have h:∀(xs:List PyData) vals ρ' s',P (xs.map .d)→xs.length=m→Step K C env st (Ow v val) ρ s ρ' s'→VRs K s'.heap ρ' (xs.map .d) vals→Q vals s':=fun xs vals ρ' s' e hl S rs=>h0 _ _ _ _ e (hl.symm.trans (List.length_map _).symm) S rs fun b=>Ows.data
  have own:=fun b (o:Ow v val b)=>(r.own o).1
  have lst:∀{xs ρ₁},IsL s.heap ρ₁ xs val→Step K C env st (Ow v val) ρ s ρ₁ s→Hd (gd (decide (xs.length=m)) (some (xs.map V.d))) P→wpAny (model prog w) A (unpackItems val m none) Q E s:=fun l S e=>e.gd fun hm ep=>by
    obtain @⟨a,o,items,n,rfl,g,c,d,rr⟩:=l
    obtain rfl:items.size=m:=rr.size.trans hm
    refine wpAny_unpackItems_listM hA ⟨o,g,c,n,d⟩ fun h' he=>?_
    have S':=S.rel.go (h':=h') (t:=s.toks) fun b o e=>he b o (fun q=>not_live_size ⟨o,q ▸ e⟩) e
    exact h _ _ _ _ ep hm (S.aft S') (VRs.ofDatas (rr.mono S'.mv.fz))
  refine Hd.el' e (fun q hq e=>?_) fun _ e=>Hd.el (Hd.b e) (fun e=>Hd.tup e r fun xs e l=>Hd.gd e fun hm ep=>?_) fun e=>?_
  · cases v with
    | tri i x j=>
      cases hq
      obtain⟨a,y,b,c,n,rfl,f,hb,hx,hc⟩:=r
      refine e.gd fun hm ep=>?_
      subst hm
      refine wpAny_unpackItems_tuple (items:=#[.ref b,y,.ref c]) hA ⟨_,f.2,rfl,n,rfl⟩ fun h' he=>?_
      have S':=R.go (h':=h') (t:=s.toks) fun b o e=>he b o (fun q=>not_live_size ⟨o,q ▸ e⟩) e
      exact h0 _ _ _ _ ep rfl ((R.stay own).aft S') ⟨rfl,⟨b,rfl,S'.mv.at_ _ _ hb⟩,⟨rfl,hx.mono S'.mv.fz,⟨rfl,⟨c,rfl,S'.mv.at_ _ _ hc⟩,rfl,fun _ q=>q.elim⟩,fun _ q=>q.elim⟩,fun _ q=>q.elim⟩ fun b o=>o.elim id fun o=>o.elim id fun o=>o.elim id id
    |_=>cases hq
  · have stay:=R.stay own
    obtain @⟨a,o,items,n,rfl,g,c,d,rr⟩:=l
    obtain rfl:items.size=m:=rr.size.trans hm
    refine wpAny_unpackItems_tuple hA ⟨o,g.2,c,n,d⟩ fun h' he=>?_
    have S':=R.go (h':=h') (t:=s.toks) fun b o e=>he b o (fun q=>not_live_size ⟨o,q ▸ e⟩) e
    exact h _ _ _ _ ep hm (stay.aft S') (VRs.ofDatas (rr.mono S'.mv.fz))
  · cases v with
    | fl xs=>
      obtain⟨a,ea,o⟩:=r
      obtain⟨S,d⟩:=R.drop o
      obtain⟨e',f,c,dd,rr⟩:=(show LA _ _ _ _ from d)
      exact lst ⟨ea.trans e',f.2,c,dd,rr⟩ (S.more own fun b q=>q ▸ ea) e
    |_=>exact Hd.list R.w.store e r fun xs e l=>lst l (R.stay fun _ q=>q.elim) e
theorem wp_bindSub {o i:Expr} (W:Wd prog w K G fa) (IC:SC prog w G K fa n f.call) (IE:SE prog w K n C (f.ev C)) (e:Hd (bindS f C (.Subscript o i pos) v st) P) (hA:AOK A n) (O:EnvOK K C env) (R:Rel K C env st ρ s) (r:VR K s.heap ρ v val) (h:PostS K C P env (Ow v val) ρ s Q):wpAny (model prog w) A (assign (.Subscript o i pos) env val) Q E s:=by
  rw[arm_assign_Subscript]
  refine wpAny_bind (wpAny_holding ((IE (Hd.b e)).2 hA O R fun p vo ρ₁ s₁ e X=>?_))
  have own:=fun b (o:Ow v val b)=>(r.own o).1
  obtain⟨u,st₁⟩:=p
  cases u with
  | obj k=>
    replace e:Hd ((f.ev C i st₁).bind fun q=>(objCall f "Headers.__setitem__" k [q.1,v] q.2).map fun r=>r.2) P:=e
    refine wpAny_bind (wpAny_holding ((IE e.b).2 hA O X.step.rel fun q vi ρ₂ s₂ e Y=>wpAny_bind (wpAny_standAt (wpAny_bind (wpAny_holding ?_)))))
    have S12:=X.step.aft Y.step
    obtain⟨a,rfl,ha⟩:=Y.vr0 X.vr
    exact wp_setO W IC (Hd.m e) hA Y.step.rel ha ⟨rfl,Y.vr,⟨rfl,r.mv0 S12.mv,rfl,fun _ _ q=>q.elim⟩,fun b o=>objCall_gd e.m fun _ hs _=>(no_ow (vals:=[vi,val]) hs (.inl o)).elim⟩ fun p v ρ' s' e Z=>wpAny_release' (h _ _ _ e ((S12.aft Z.step).more own fun _ q=>q.elim))
  | hl k=>
    refine Hd.bif (show Hd (bindSub f C k i v st₁) P from e) (fun hi e=>?_) fun _ e=>?_
    · obtain⟨p,rfl⟩:∃p,i= .Slice none none none p:=by
        cases i with
        | Slice lo hi' sp p=>
          obtain⟨h1,h3⟩:=Bool.and_eq_true _ _ ▸ (show(lo.isNone&&hi'.isNone&&sp.isNone)=true from hi)
          obtain⟨h1,h2⟩:=Bool.and_eq_true _ _ ▸ h1
          obtain rfl:=Option.isNone_iff_eq_none.mp h1
          obtain rfl:=Option.isNone_iff_eq_none.mp h2
          obtain rfl:=Option.isNone_iff_eq_none.mp h3
          exact⟨p,rfl⟩
        |_=>cases hi
      cases v with
      | fl xs=>
        replace e:Hd ((listAt st₁.objs k).bind fun old=>gd (decide (old.length+xs.length≤maxLen)) (some (setCell k (.list xs) st₁))) P:=e
        refine wpAny_bind (wpAny_holding (wpAny_Slice (wpAny_pure (wpAny_pure (wpAny_pure (wpAny_bind (wpAny_standAt (wpAny_bind (wpAny_holding ?_)))))))))
        have S2:=X.step.rel.go (h':=s₁.heap.push {cls:= .type "slice",data:= .fields #[.none,.none,.none]}) (t:=s₁.toks) fun b o e=>Heap.get?_push_of_some _ e
        have S12:=X.step.aft S2
        obtain⟨r',rfl,ow⟩:=r.mv0 S12.mv
        obtain⟨D,l⟩:=S12.rel.drop ow
        obtain @⟨r0,o0,vs0,n0,e',f0,c0,dd,rr,-⟩:=(show LA _ _ (fun vs=>Rds (Fz _ _) xs vs) _ from l)
        obtain rfl:=Value.ref.inj e'
        obtain⟨a,rfl,ha⟩:=X.vr
        refine listAt_ok D.rel.w.store (Hd.b e) fun a' old items m e q g d=>Hd.gd e fun hz ep=>?_
        have hat:=D.mv.at_ _ _ (S2.mv.at_ _ _ ha)
        obtain rfl:a'=a:=q.1.symm.trans hat.1
        have hz':items.size+vs0.size≤maxLen:=by have h1:=d.size;have h2:=rr.size;omega
        refine setAll g ⟨_,f0.2,c0,_,dd⟩ (fun q=>Kd.noConfusion (hat.2.symm.trans ((congrArg _ q).trans f0.1))) (Heap.IsSliceOf.new ..) hz' fun h' n' hg' hs'=>wpAny_release' (h _ _ _ ep ((S12.more own fun _ q=>q.elim).trans (D.trans (D.rel.setList (t:=s₁.toks) hat hs' hg' rr) fun _ _ q=>q.elim) fun b _ q=>q ▸ rfl))
      |_=>exact(show False from e).elim
    · refine wpAny_bind (wpAny_holding ((IE e.b).2 hA O X.step.rel fun q vi ρ₂ s₂ e Y=>wpAny_bind (wpAny_standAt (wpAny_bind (wpAny_holding ?_)))))
      have S12:=X.step.aft Y.step
      have rv:=r.mv0 S12.mv
      refine Hd.int (Hd.b e) Y.vr fun j t z e=>Hd.data (Hd.b e) Y.step.rel rv fun x ρ₃ e S3 dx=>listAt_ok S3.rel.w.store (Hd.b e) fun a' xs items m e q g d=>Hd.gd e fun h0 e=>Hd.idx (Hd.m e) fun m ep ix=>?_
      obtain⟨a,rfl,ha⟩:=X.vr
      have hat:=S3.mv.at_ _ _ (Y.step.mv.at_ _ _ ha)
      obtain rfl:a'=a:=q.1.symm.trans hat.1
      subst z
      have hz:=d.size
      have hm:maxLen<2 ^ 62:=by decide
      have hl:=ix.lt;have hle:=ix.le
      obtain rfl:=ix.pos h0
      refine wpAny_setItem_listM g h0 (by omega) (by omega) fun h' n' hg' hs'=>wpAny_release' (h _ _ _ ep ((S12.more own fun _ q=>q.elim).trans (S3.aft (S3.rel.setList (t:=s₂.toks) hat hs' hg' ?_)) fun _ _ o=>o))
      rw[Array.toList_setIfInBounds];exact d.set dx _
  |_=>exact(show False from e).elim
theorem wp_bindAttr {o:Expr} {a:Str} (W:Wd prog w K G fa) (IE:SE prog w K n C (f.ev C)) (e:Hd (bindS f C (.Attribute o a pos) v st) P) (hA:AOK A n) (O:EnvOK K C env) (R:Rel K C env st ρ s) (r:VR K s.heap ρ v val) (h:PostS K C P env (Ow v val) ρ s Q):wpAny (model prog w) A (assign (.Attribute o a pos) env val) Q E s:=by
  show wpAny _ A (do
    let ov←holding [val] (eval o env)
    standAt pos.atName
    holding [val,ov] (setAttr ov a val)
    release [val,ov] []) Q E s
  refine wpAny_bind (wpAny_holding ((IE (Hd.b e)).2 hA O R fun p vo ρ₁ s₁ e X=>wpAny_bind (wpAny_standAt (wpAny_bind (wpAny_holding ?_)))))
  obtain⟨u,st₁⟩:=p
  cases u with
  | obj i =>
    refine Hd.g (show Hd (gd (a==("_headers":Str)) (v.hl?.bind fun h=>(instAt st₁.objs i).bind fun k=>gd k.isNone (some (setCell i (.inst (some h)) st₁)))) P from e) fun hn e=>?_
    obtain rfl:=eq_of_beq hn
    cases v with
    | hl k=>
      obtain⟨l,rfl,hl⟩:=r
      obtain⟨p,rfl,hp⟩:=X.vr
      have hl:=X.step.mv.at_ _ _ hl
      have Rw:=X.step.rel
      refine instAt_ok Rw.w.store hp (Hd.b e) fun c e r=>Hd.g e fun hc e=>?_
      obtain rfl:c=none:=by cases c<;>first |rfl |cases hc
      obtain⟨I,hm,hmA⟩:=r.iv hp
      obtain @⟨ox,d,hox,hcx,hdx,hncx,kd,hinst⟩:=r
      refine W.co Rw.up0 fun _ _ _ _ _ _ _ _ _ _ _ _ _ hC hN=>?_
      have hxC:p≠K.cls:=fun q=>W.co (fun _ _ e=>e) fun _ _ _ _ _ _ _ _ _ _ _ _ _ hC₀ _=>nomatch (q ▸ hp.2).symm.trans (Rw.w.base hC₀).1
      refine store_attr PySem.F.store_object hC hN W.nsa W.nhd (by rw[typeLookup_type,builtinLookup_eq_fast];rfl') hxC I (fun h' tk' I' hk hsame=>?_) (ns:=[]) (fun y hy=>absurd (hmA y) hy) (by simp)
      obtain⟨o₁,e₁,c₁,dt₁,_,dk₁⟩:=hsame ox hox
      have hd₁:=dk₁ d hdx
      obtain⟨o',e',_,_,hd'⟩:=I'
      obtain rfl:=Option.some.inj (e₁.symm.trans e')
      have hns':=hd'.resolve_left fun q=>nomatch hd₁.symm.trans q.1
      obtain⟨d',hd',_,hns'⟩:=hns'
      obtain rfl:=Option.some.inj (hd₁.symm.trans hd')
      rw[funext hmA]at hns'
      have kk:∀b o,ρ₁.k b≠ .cell i→ρ₁.k b≠ .dct i→s₁.heap.get? b=some o→h'.get? b=some o:=fun b o h1 h2=>hk b o (fun q=>h1 (q ▸ hp.2)) fun o₀ d' e₀ ed q=>by
        obtain rfl:=Option.some.inj (hox.symm.trans e₀);obtain rfl:=Option.some.inj (hdx.symm.trans ed);exact h2 (q ▸ kd)
      have lv:∀b,Live s₁.heap b→Live h' b:=fun b ⟨o,e⟩=>by
        by_cases q:b=p
        · exact q ▸ ⟨_,e₁⟩
        · by_cases q':b=d
          · exact q' ▸ let⟨o,_,_,e,_⟩:=hns';⟨o,e⟩
          · exact⟨o,hk b o q (fun o₀ d' e₀ ed z=>by obtain rfl:=Option.some.inj (hox.symm.trans e₀);obtain rfl:=Option.some.inj (hdx.symm.trans ed);exact q' z) e⟩
      have S4:=Rw.setCell (t:=tk') (c:= .inst (some k)) hp kk lv (.mk e₁ (c₁.trans hcx) hd₁ (fun c=>dt₁ ▸ hncx c) kd ⟨l,hl,hns'⟩)
      exact wpAny_release' (h _ _ _ e ((X.step.aft S4).more (fun _ q=>q.elim) fun _ q=>q.elim))
    |_=>exact(show False from e).elim
  |_=>exact(show False from e).elim
theorem bind_step (W:Wd prog w K G fa) (IC:SC prog w G K fa n f.call) (IE:SE prog w K n C (f.ev C)) (B:SB prog w K n C (f.bind C)):SB prog w K (n+1) C (bindS f C):=by
  intro t v st P e
  cases t with
  |Name x pos=>exact⟨Hd.g e fun q _=>q,fun hA O R r h=>PyProof.Rows.assign_Name (wp_bindN O R e r fun st' ρ' s' e S _=>h _ _ _ e S)⟩
  | Tuple ts k pos=>
    refine⟨rfl,fun {A s ρ env val Q E} hA O R r h=>?_⟩
    have star:∀t∈ts,okT C t=true:=parts_len (Hd.b e) fun vs hl e=>zip_all (p:=fun t=>okT C t=true) hl (bindAll_ok (fun e=>(B e).1) e)
    rw[arm_assign_Tuple]
    refine wpAny_bind (wpAny_standAt ?_)
    unfold unpack
    rw[assignEach_plain env star,show(ts.map fun t=>(false,assign t env)).findIdx? (·.1)=none from List.findIdx?_eq_none_iff.mpr fun x hx=>let⟨t,_,q⟩:=List.mem_map.mp hx;q ▸ rfl,List.length_map,List.map_map]
    refine wpAny_bind (wpAny_holding (wp_parts hA.hand R r (Hd.b e) fun xs vals ρ₁ s₁ e hl S rs no=>?_))
    exact wp_bindBy (f.bind C) (fun t=>assign t env) ts _ (fun t _=>fun e R r h=>(B e).2 hA.le O R r h) hl e rs S.rel (h.aft S fun b _ o=>(no _ o).elim)
  |Subscript o i pos=>exact⟨rfl,fun hA O R r h=>wp_bindSub W IC IE e hA.le O R r h⟩
  |Attribute o a pos=>exact⟨rfl,fun hA O R r h=>wp_bindAttr W IE e hA.le O R r h⟩
  |_=>exact e.elim
end
end Mine
end
section
open PySem PySem.W PyProof.Rows PyProof.V PySem.Spec
namespace Mine
noncomputable def dctD (tab:List (Str×Str)):List (PyData×PyData):=tab.map fun p=>(.str p.1,.str p.2)
theorem strE_of {e:Expr} {x:Str} (h:strE e=some x):tabLit e=some (.str x):=by
  unfold strE at h
  split at h
  · split at h
    · cases h;rfl
    · cases h
  · cases h
theorem dctL_lits:∀{ks:List (Option Expr)} {vs:List Expr} {tab:List (Str×Str)},dctL ks vs=some tab→litPairs ks vs=some (dctD tab)∧ks.all (·.isSome)=true∧ks.length=vs.length∧ks.length=tab.length
  |[],[],tab,h=>by cases h;exact⟨rfl,rfl,rfl,rfl⟩
  |[],_::_,_,h=>by cases h
  |none::ks,v::vs,tab,h=>by cases h
  | some k::ks,v::vs,tab,h=>by
    obtain⟨a,ha,h⟩:=Option.bind_eq_some_iff.mp (show((strE k).bind fun a=>(strE v).bind fun b=>(dctL ks vs).map fun r=>(a,b)::r)=some tab from h)
    obtain⟨b,hb,h⟩:=Option.bind_eq_some_iff.mp h
    obtain⟨r,hr,rfl⟩:=Option.map_eq_some_iff.mp h
    obtain⟨h1,h2,h3,h4⟩:=dctL_lits hr
    refine⟨?_,?_,congrArg Nat.succ h3,congrArg Nat.succ h4⟩
    · show(do let dk←tabLit k;let dv←tabLit v;let r←litPairs ks vs;pure ((dk,dv)::r))=_
      rw[strE_of ha,strE_of hb,h1];rfl
    · rw[List.all_cons,h2];rfl
  |some _::_,[],_,h=>by cases h
  |none::_,[],_,h=>by cases h
theorem dctD_keyed:∀{tab:List (Str×Str)},strKeyed (dctD tab)=true∧strKeysOf (dctD tab)=tab.map Prod.fst
  |[]=>⟨rfl,rfl⟩
  |_::r=>⟨(dctD_keyed (tab:=r)).1,congrArg _ (dctD_keyed (tab:=r)).2⟩
theorem dctOk_nodup:∀{tab:List (Str×Str)},dctOk tab=true→(tab.map Prod.fst).Nodup
  |[],_=> .nil
  | p::r,h=>by
    obtain⟨h1,h2⟩:=Bool.and_eq_true _ _ ▸ (show(!(r.any fun q=>q.1==p.1)&&dctOk r)=true from h)
    refine List.nodup_cons.mpr ⟨fun hm=>?_,dctOk_nodup h2⟩
    obtain⟨q,hq,e⟩:=List.mem_map.mp hm
    have:(r.any fun q=>q.1==p.1)=true:=List.any_eq_true.mpr ⟨q,hq,beq_iff_eq.mpr e⟩
    rw[this]at h1;cases h1
theorem dct_value {k d:Str} {t:Tok}:∀{tab:List (Str×Str)} {kvs:List (Str×Value)},FlatPairs PyData.str kvs (dctD tab)→∃u,(valueAt kvs k).getD (.str d t)= .str ((tab.lookup k).getD d) u
  |[],_,.nil=>⟨t,rfl⟩
  | p ::r,_,.cons (kvs:=kvs) (v:=v) fv fr=>by
    obtain⟨u,rfl⟩:=fv.str_inv
    obtain⟨u',e⟩:=dct_value (k:=k) (d:=d) (t:=t) fr
    by_cases q:p.1=k
    · exact⟨u,by simp[valueAt,List.lookup,q]⟩
    · refine⟨u',?_⟩
      rw[show valueAt ((p.1,Value.str p.2 u)::kvs) k=valueAt kvs k by simp[valueAt,q],e,List.lookup,show(k==p.1)=false from beq_false_of_ne fun z=>q z.symm]
section
variable {prog:Program} {w:World} {G:Env'} {K:Ctx0} {fa:Str→Addr} {A:Around} {E:Value→Shared→Prop} {C:Cx} {env:Env} {st:St} {ρ:Rho} {s:Shared} {n:Nat} {f:Fs} {P:V×St→Prop} {Q:Value→Shared→Prop} {pos:Pos}
theorem evs_len:∀{es:List Expr} {st} {P:List V×St→Prop},Hd (evs (f.ev C) es st) P→Hd (evs (f.ev C) es st) fun p=>p.1.length=es.length∧P p
  |[],_,_,e=>⟨rfl,e⟩
  | x::es,st,P,e=>by
    refine(Hd.b e).get fun p hp e=>?_
    refine(evs_len (Hd.m e)).get fun q hq ⟨l,e⟩=>?_
    exact .of (a:=(p.1::q.1,q.2)) (by unfold evs;rw[hp];show(evs (f.ev C) es p.2).map _=_;rw[hq];rfl) ⟨congrArg Nat.succ l,e⟩
theorem wp_DGet {o:Expr} {m:Str} {apos:Pos} {args:List Expr} {kws:List Keyword} {tab:List (Str×Str)} (W:Wd prog w K G fa) (IE:SE prog w K n C (f.ev C)) (ho:dctE o=some tab) (e0:Hd (evDGet f C tab m apos args kws pos st) P) (hA:AOK A n) (O:EnvOK K C env) (R:Rel K C env st ρ s) (h:Post K C env P ρ s Q):
    wpAny (model prog w) A (eval (.Call (.Attribute o m apos) args kws pos) env) Q E s:=by
  refine Hd.g e0 fun hg e1=>Hd.nil e1 fun hk e=>?_
  subst hk
  clear e0 e1
  obtain⟨hg,hn⟩:=Bool.and_eq_true _ _ ▸ hg
  obtain⟨hg,hd⟩:=Bool.and_eq_true _ _ ▸ hg
  obtain⟨hl,hm⟩:=Bool.and_eq_true _ _ ▸ hg
  obtain rfl:=eq_of_beq hm
  obtain⟨h5,h0⟩:=of_decide_eq_true hn
  obtain⟨ks,vs,p,rfl⟩:∃ks vs p,o= .Dict ks vs p:=by cases o<;>first |exact⟨_,_,_,rfl⟩ |cases ho
  obtain⟨l1,l2,l3,l4⟩:=dctL_lits (show dctL ks vs=some tab from ho)
  have hpl:=plain_args (env:=env) (pos:=pos) (fun e=>(IE e).1) (Hd.b e)
  have hlen:args.length=2:=(evs_len (Hd.b e)).get fun p _ ⟨l,e⟩=>Hd.two e fun a b q _=>by rw[q]at l;exact l.symm
  refine wpAny_Call_method (T:="dict") (id:="dict.get") rfl ?_ hl PySem.F.plainAttrs_dict PySem.F.slot_dict_get PySem.F.type_dict_get (Dict_lits_str l1 dctD_keyed.1 (dctD_keyed.2 ▸ dctOk_nodup hd) l2 l3 (fun q=>h0 (l4.symm.trans (congrArg List.length q))) (by omega) fun a o h₁ tk ha hg ⟨kvs,hd,hf⟩ keep=>?_)
  · rw[hpl.2,hlen];rfl
  have hdo:h₁.DictOf (strKind prog w) a kvs:=Heap.dictOf_iff.mpr ⟨o,hg,hd⟩
  have S:=R.go (h':=h₁) (t:=tk) fun b o e=>keep b o e
  have hk:ρ.k a= .fz:=R.w.new (not_live_ge ha)
  have hsm:(a==sysModules)=false:=let⟨o',q,_⟩:=W.sysm;beq_false_of_ne fun z=>absurd (Heap.lt_size (R.up0 _ _ q)) (Nat.not_lt.mpr (z ▸ ha))
  refine⟨hdo.mapOf.typeIs,hdo.mapOf.noDict,method_meetsIn PySem.F.slot_dict_get PySem.F.entry_dict_get hpl.1 ?_⟩
  refine wp_args IE (Hd.b e) hA O S.rel fun q vals ρ₁ s₁ e X=>?_
  obtain⟨vs,st₁⟩:=q
  refine Hd.two e fun u v qv e=>?_
  subst qv
  obtain⟨rfl,r1,⟨rfl,r2,rfl,-⟩,-⟩:=X.vrs
  refine Hd.str (Hd.b e) r1 fun x t z e=>Hd.str (Hd.m e) r2 fun y t' z' e=>?_
  subst z z'
  have hM4:s₁.heap.DictOf (strKind prog w) a kvs:=Heap.dictOf_iff.mpr ⟨o,(X.step.mv.fz ⟨hk,hg⟩).2,hd⟩
  refine⟨rfl,hM4.mapOf.typeIs,PySem.F.args_dict_get_3 _ _ _,_,meets_dict_get_default (strKind prog w) a (k:=x) (strKind_is _ _ _ _) hsm _,_,hM4.mapOf,?_⟩
  obtain⟨u,q⟩:=dct_value (k:=x) (d:=y) (t:=t') hf
  rw[q]
  exact h.ep e ⟨(S.aft X.step).aft (X.step.rel.tok (s₁.toks+1)),⟨u,rfl⟩,fun _ q=>q.elim⟩
end
end Mine
end
section
open PySem PySem.W PyProof.Rows
namespace Mine
section
variable (prog:Program) (w:World) (K:Ctx0) (n:Nat) (C:Cx)
noncomputable def SI (f:Expr→St→Option (It×St)):Prop:=∀{e st P},Hd (f e st) P→plainE e=true∧∀{A s ρ env Q E},AOK A n→EnvOK K C env→Rel K C env st ρ s→PostI prog w K C env P ρ s Q→wpAny (model prog w) A (eval e env) (fun xv s₁=>wpAny (model prog w) A (pyIter xv) Q E s₁) E s
end
section
variable {prog:Program} {w:World} {G:Env'} {K:Ctx0} {fa:Str→Addr} {A:Around} {E:Value→Shared→Prop} {C:Cx} {env:Env} {st st₁:St} {ρ ρ₁ ρ₂:Rho} {s s₁ s₂:Shared} {n:Nat} {f:Fs} {P:Fl×St→Prop} {Q:Flow→Shared→Prop} {pos:Pos} {ws:Addr→Prop} {it:It} {I:Addr} {T:Nat→Rho→Heap→Prop} {U:Nat→Value→Rho→Heap→Prop}
theorem FP.turn {p:Fl×St} {again:Option (Fl×St)} {fl:Flow} {T:Prop} (X:FP K C env p ρ s fl ρ₁ s₁) (e:Hd (p.1.turn again p.2) P) (n:Hd again P→fl= .next→T) (c:Hd again P→fl= .cont→T) (b:P (.next,p.2)→fl= .brk→T) (r:∀v val,P (.ret v,p.2)→fl= .ret val→(VR K s₁.heap ρ₁ v val∧∀a,Ow v val a→¬Live s.heap a)→T):T:=by
  have fw:=X.flow
  revert e fw
  cases p.1 with
  |next=>exact n
  |cont=>exact c
  |brk=>exact b
  |ret v=>exact fun e fw=>let⟨val,q,z⟩:=fw;r v val e q z
theorem Gen.gone (g:Gen prog w K it I ws T U) {j:Nat} {h':Heap} {tk:Nat} (R:Rel K C env st ρ s) (t:T j ρ s.heap) (hk:∀b o,¬ws b→s.heap.get? b=some o→h'.get? b=some o):∃ρ',Step K C env st ws ρ s ρ' {s with heap:=h',toks:=tk}:=by
  classical
  exact⟨⟨fun b=>if ws b then .fz else ρ.k b,ρ.c⟩,R.own (fun b q=>(g.own t b q).1) hk (fun b q=>if_neg q) rfl (fun b q n=>absurd (if_pos q) n) fun b i q e=>nomatch (if_pos q).symm.trans e⟩
noncomputable def ForInv (K:Ctx0) (C:Cx) (env:Env) (f:Fs) (P:Fl×St→Prop) (it:It) (T:Nat→Rho→Heap→Prop) (t:Expr) (b:List Stmt) (ρ:Rho) (s:Shared) (k:Nat) (s₁:Shared):Prop:=
  ∃j st₁ ρ₁,Step K C env st₁ No ρ s ρ₁ s₁∧T j ρ₁ s₁.heap∧Hd (forL (fun x st=>f.bind C t (.d x) st) (exs (f.ex C) b) it k j st₁) P
theorem wp_forL {t:Expr} {b:List Stmt} (B:SB prog w K n C (f.bind C)) (X:SX prog w K n C (f.ex C)) (hA:AOK A n) (O:EnvOK K C env) (g:Gen prog w K it I ws T U) (ht:okTarget it t=true) (nw:∀a,ws a→¬Live s.heap a) {R:Result→Shared→Prop}
    (hQ:∀p f ρ' s',P p→FP K C env p ρ s f ρ' s'→R (.ok f) s') (k:Nat) (i:ForInv K C env f P it T t b ρ s k s₁):codeAny (model prog w) A (.forLoop t (.ref I) b [] env) R s₁:=by
  refine codeAny_forLoop_any (ForInv K C env f P it T t b ρ s) ?_ k i
  rintro k s₁ ⟨j,st₁,ρ₁,S₁,T₁,e⟩
  cases k with
  |zero=>exact(show False from e).elim
  | succ k=>
    have tail:∀{st₂ ρ₂ s₂},Step K C env st₂ ws ρ₁ s₁ ρ₂ s₂→Step K C env st₂ No ρ s ρ₂ s₂:=fun S=>S₁.trans S fun b l q=>nw b q l
    refine(Hd.b e).get fun ox h1 e=>?_
    cases ox with
    |none=>exact g.done hA.hand S₁.rel T₁ h1 fun h' tk hk=>wpAny_execs_nil (let⟨ρ₂,S⟩:=g.gone (tk:=tk) S₁.rel T₁ hk;hQ _ _ _ _ e ⟨tail S,rfl⟩)
    | some x=>
      refine g.next hA.hand S₁.rel T₁ h1 fun v s₂ S₂ d U₂=>g.go S₂.rel U₂ ht fun s₃ S₃ T₃=>(B (Hd.b e)).2 hA O S₃.rel (show VR K _ _ (.d x) _ from d.mono S₃.mv.fz) fun st₄ ρ₄ s₄ e S₄=>wp_exs X hA O b (Hd.b e) S₄.rel fun p fw ρ₅ s₅ e Y=>?_
      have S15:=((tail (S₂.trans S₃ fun _ _ q=>q)).aft ⟨S₄.rel,S₄.mv⟩).aft Y.step
      have again:Hd _ P→∃m,m<k+1∧ForInv K C env f P it T t b ρ s m s₅:=fun e=>⟨k,Nat.lt_succ_self k,j+1,p.2,ρ₅,S15,g.mv (g.mv T₃ S₄.mv fun _ _ q=>q) Y.step.mv fun _ _ q=>q,e⟩
      exact Y.turn e (fun e q=>by subst q;exact again e) (fun e q=>q ▸ again e) (fun e q=>q ▸ hQ _ _ _ _ e ⟨S15,rfl⟩) fun v val e q r=>q ▸ hQ _ _ _ _ e ⟨S15,val,rfl,r.1,fun a o l=>r.2 a o (((tail (S₂.trans S₃ fun _ _ q=>q)).aft ⟨S₄.rel,S₄.mv⟩).mv.live l id)⟩
theorem iter_unfolded {e:Expr} (h:plainE e=true) (x:Value):foldedSetIterable e env x=pure x:=by
  cases e<;>first |rfl |cases h
theorem wp_For {t e:Expr} {b:List Stmt} (I:SI prog w K n C (f.iter C)) (B:SB prog w K n C (f.bind C)) (X:SX prog w K n C (f.ex C)) (h:Hd ((f.iter C e st).bind fun p=>gd (okTarget p.1 t) (forL (fun x st=>f.bind C t (.d x) st) (exs (f.ex C) b) p.1 loopFuel 0 p.2)) P)
    (hA:AOK A n) (O:EnvOK K C env) (R:Rel K C env st ρ s) (hQ:PostF K C env P ρ s Q):wpAny (model prog w) A (exec (.For t e b [] pos) env) Q E s:=
  wpAny_For ((I h.b).2 hA O R fun p I ws T U ρ₁ s₁ e g T₁ S₁ nw=>Hd.g e fun ht e=>wp_forL B X hA O g ht nw (fun p f ρ' s' e X=>by exact hQ p f ρ' s' e X) loopFuel ⟨0,p.2,ρ₁,S₁,T₁,e⟩) (iter_unfolded (I h.b).1)
noncomputable def WhInv (K:Ctx0) (C:Cx) (env:Env) (f:Fs) (P:Fl×St→Prop) (t:Expr) (b:List Stmt) (ρ:Rho) (s:Shared) (k:Nat) (s₁:Shared):Prop:=∃st₁ ρ₁,Step K C env st₁ No ρ s ρ₁ s₁∧Hd (whileL (f.tst C t) (exs (f.ex C) b) k st₁) P
theorem wp_While {t:Expr} {b:List Stmt} (IT:ST prog w K n C (f.tst C)) (X:SX prog w K n C (f.ex C)) (h:Hd (whileL (f.tst C t) (exs (f.ex C) b) whileFuel st) P) (hA:AOK A n) (O:EnvOK K C env) (R:Rel K C env st ρ s) (hQ:PostF K C env P ρ s Q):
    wpAny (model prog w) A (exec (.While t b [] pos) env) Q E s:=by
  refine wpAny_While (codeAny_whileLoop (WhInv K C env f P t b ρ s) ?_ whileFuel ⟨st,ρ,R.at0,h⟩)
  rintro k s₁ ⟨st₁,ρ₁,S₁,e⟩
  cases k with
  |zero=>exact(show False from e).elim
  | succ k=>
    refine IT (Hd.b e) hA O S₁.rel fun p ρ₂ s₂ e S₂=>Hd.bif e (fun q e=>Eq.mpr (if_pos q) (wp_exs X hA O b (Hd.b e) S₂.rel fun p fw ρ₅ s₅ e Y=>?_)) fun q e=>Eq.mpr (if_neg (q ▸ nofun)) (wpAny_execs_nil (hQ _ _ _ _ e ⟨S₁.aft S₂,rfl⟩))
    have S12:=S₁.aft S₂
    have again:Hd _ P→∃m,m<k+1∧WhInv K C env f P t b ρ s m s₅:=fun e=>⟨k,Nat.lt_succ_self k,p.2,ρ₅,S12.aft Y.step,e⟩
    exact Y.turn e (fun e q=>by subst q;exact again e) (fun e q=>q ▸ again e) (fun e q=>q ▸ hQ _ _ _ _ e ⟨S12.aft Y.step,rfl⟩) fun v val e q r=>q ▸ hQ _ _ _ _ e ⟨S12.aft Y.step,val,rfl,r.1,fun a o l=>r.2 a o (S12.mv.live l id)⟩
end
end Mine
end
section
open PySem PySem.W PyProof.Rows
namespace Mine
section
variable {prog:Program} {w:World} {A:Around} {E:Value→Shared→Prop}
theorem codeAny_compStartD {e:Expr} {d:Nat} {g:Comprehension} {it acc:Value} {env:Env} {R:Result→Shared→Prop} {s:Shared} (hl:∃elt gens sc pos,e= .ListComp elt gens sc pos) (hg:(clausesOf e)[d]?=some g) (ha:g.is_async=0)
    (h0:codeAny (model prog w) A (.compLoop e d it acc env) R s)
    (h:wpAny (model prog w) A (pyIter it) (fun it' s'=>codeAny (model prog w) A (.compLoop e d it' acc env) R s')
      (notedBy (model prog w) A env fun x s'=>R (.error x) s') s):
    codeAny (model prog w) A (.compStart e d it acc env) R s:=by
  obtain⟨elt,gens,sc,pos,rfl⟩:=hl
  refine codeAny_of_tree ?_
  show wpAny _ _ ((compStart (.ListComp elt gens sc pos) d it acc env).onRaise (fun x=>do noteFrame x env;standAt theWindowsPlace)) _ _ s
  refine wpAny_notedAt ?_
  unfold compStart
  have hb:((clausesOf (.ListComp elt gens sc pos))[d]?).elim false (·.is_async !=0)=false:=by rw[hg];simp[ha]
  rw[hb,hg]
  simp only[Bool.false_eq_true,if_false]
  show wpAny _ _ (ask>>=_) _ _ s
  refine wpAny_bind (wpAny_askSetting (wpAny_ite ?_))
  split
  · first
      |exact wpAny_bind (wpAny_pure (wpAny_pure (And.intro rfl h0)))
      |exact wpAny_pure (And.intro rfl h0)
  · refine wpAny_bind (wpAny_rule ?_)
    first
      |exact wpAny_bind (wpAny_standAt (wpAny_bind (wpAny_mono h (fun it' s' h'=>wpAny_pure (And.intro rfl h')) fun _ _ x=>x)))
      |exact wpAny_bind (wpAny_bind (wpAny_standAt (wpAny_bind (wpAny_mono h (fun it' s' h'=>wpAny_pure (And.intro rfl h')) fun _ _ x=>x))))
end
section
variable (prog:Program) (w:World) (K:Ctx0) (n:Nat)
noncomputable def Dw (D:Addr) (ws:Addr→Prop) (b:Addr):Prop:=b=D∨ws b
noncomputable def PostG (K:Ctx0) (C:Cx) (env:Env) (P:List PyData×St→Prop) (D:Addr) (ow:Addr→Prop) (ρ:Rho) (s:Shared) (Q:Shared→Prop):Prop:=∀p ρ' s',P p→Step K C env p.2 ow ρ s ρ' s'→Own s'.heap ρ' D p.1→Q s'
noncomputable def SCm (f:Cx→Expr→Comprehension→List Comprehension→It→St→List PyData→Option (List PyData×St)):Prop:=∀{C elt g gs it st acc P},Hd (f C elt g gs it st acc) P→∀{gens sc pos d I ws T U A s ρ env D R},gens.drop d=g::gs→g.is_async=0→Gen prog w K it I ws T U→
  AOK A n→EnvOK K C env→Rel K C env st ρ s→T 0 ρ s.heap→Own s.heap ρ D acc→¬ws D→PostG K C env P D (Dw D ws) ρ s (R (.ok .next))→codeAny (model prog w) A (.compLoop (.ListComp elt gens sc pos) d (.ref I) (.ref D) env) R s
end
theorem drop_get {α:Type} {l:List α} {d:Nat} {x:α} {r:List α} (h:l.drop d=x::r):l[d]?=some x∧l[d+1]?=r[0]?∧l.drop (d+1)=r:=by
  have h0:(l.drop d)[0]?=some x:=by rw[h];rfl
  have h1:(l.drop d)[1]?=r[0]?:=by rw[h];rfl
  rw[List.getElem?_drop]at h0 h1
  exact⟨h0,h1,by rw[←List.drop_drop,h];rfl⟩
section
variable {prog:Program} {w:World} {G:Env'} {K:Ctx0} {fa:Str→Addr} {A:Around} {E:Value→Shared→Prop} {C:Cx} {env:Env} {st st₁:St} {ρ ρ₁ ρ₂:Rho} {s s₁ s₂:Shared} {n:Nat} {f:Fs} {pos:Pos} {ws:Addr→Prop} {it:It} {I D:Addr} {T:Nat→Rho→Heap→Prop} {U:Nat→Value→Rho→Heap→Prop} {xs acc:List PyData} {P:List PyData×St→Prop}
theorem Own.live {h:Heap} {ρ:Rho} (o:Own h ρ D xs):Live h D:=let⟨_,e,_⟩:=o;⟨_,e⟩
theorem Own.hid {h:Heap} {ρ:Rho} (o:Own h ρ D xs):ρ.k D= .hid:=let⟨k,_,_⟩:=o;k
theorem wp_appendOwn {x:PyData} {v:Value} {Q:Value→Shared→Prop} (R:Rel K C env st ρ s) (o:Own s.heap ρ D xs) (hx:xs.length<maxLen) (d:Rd (Fz s.heap ρ) x v) (h:∀s',Step K C env st (·=D) ρ s ρ s'→Own s'.heap ρ D (xs++[x])→Q .none s'):
    wpAny (model prog w) A (PySem.call (.builtin "list.append") [.ref D,v]) Q E s:=by
  obtain @⟨items,n,k,g,r⟩:=o
  have hz:=r.size
  have hm:=maxLen_le
  refine wpAny_call_entry slot_list_append ⟨_,g,rfl⟩ entry_list_append ?_ (args_list_append _ _)
  show wpAny _ _ (updateSeq D (·.push v)>>=fun _=>ret .none) _ _ s
  obtain⟨n',hd'⟩:∃n',(lObj items n).mapSeq (·.push v)=lObj (items.push v) n':=⟨_,rfl⟩
  refine wpAny_bind (wpAny_updateSeq g rfl (wpAny_pure ⟨.none,rfl,?_⟩) (by omega) (by rw[Array.size_push];omega))
  have hg:(s.heap.update D (Obj.mapSeq (·.push v))).get? D=some (lObj (items.push v) n'):=(Heap.get?_update_self _ g (by rw[hd'];rfl)).trans (congrArg some hd')
  have hs:Heap.SameBut D s.heap (s.heap.update D (Obj.mapSeq (·.push v))):=Heap.SameBut.update ..
  have S:Step K C env st (·=D) ρ s ρ {s with heap:=s.heap.update D (Obj.mapSeq (·.push v)),toks:=s.toks}:=R.wrote (fun b q=>q ▸ k) (fun b o n e=>(hs.2 b n).trans e) fun b q=>by subst q;exact⟨_,hg⟩
  exact h _ S ⟨k,hg,by rw[Array.toList_push];exact(r.app (.one d)).mono S.mv.fz⟩
theorem wp_ifs {P:Bool×St→Prop} (IT:ST prog w K n C (f.tst C)) (hA:AOK A n) (O:EnvOK K C env) (F:Expr→Bool→Sem (ForInStep Bool)) (hf:∀c r,F c r=if r=true then do let ok←isTrue c env (eval c env);pure (ForInStep.yield ok)else pure (ForInStep.yield r)):
    ∀(es:List Expr) {st s ρ Q},Hd (evAnd (f.tst C) es st) P→Rel K C env st ρ s→PostB K C env P ρ s Q→wpAny (model prog w) A (forIn es true F) Q E s
  |[],_,_,_,_,e,R,h=>wpAny_pure (h _ _ _ e R.at0)
  | x ::es,st,s,ρ,Q,e,R,h=>by
    have no:∀(l:List Expr) {s:Shared},Q false s→wpAny (model prog w) A (forIn l false F) Q E s:=by
      intro l
      induction l with
      |nil=>exact wpAny_pure
      |cons c l ih=>intro s h;rw[List.forIn_cons,hf];exact wpAny_bind (wpAny_pure (ih h))
    rw[List.forIn_cons,hf,if_pos rfl]
    exact wpAny_bind (wpAny_bind (IT (Hd.b e) hA O R fun p ρ₁ s₁ e S=>wpAny_pure (Hd.bif e (fun q e=>by rw[q];exact wp_ifs IT hA O F hf es e S.rel (h.aft S)) fun q e=>by rw[q];exact no es (h _ _ _ e S))))
noncomputable def CompInv (K:Ctx0) (C:Cx) (env:Env) (f:Fs) (elt:Expr) (g:Comprehension) (gs:List Comprehension) (P:List PyData×St→Prop) (it:It) (T:Nat→Rho→Heap→Prop) (D:Addr) (ws:Addr→Prop) (ρ:Rho) (s:Shared) (k:Nat) (s₁:Shared):Prop:=
  ∃j st₁ ρ₁ acc,Step K C env st₁ (Dw D ws) ρ s ρ₁ s₁∧T j ρ₁ s₁.heap∧Own s₁.heap ρ₁ D acc∧Hd (compL (compF f C elt g gs) it k j st₁ acc) P
theorem comp_step (IE:∀C,SE prog w K n C (f.ev C)) (IT:∀C,ST prog w K n C (f.tst C)) (B:∀C,SB prog w K n C (f.bind C)) (II:∀C,SI prog w K n C (f.iter C)) (IC:SCm prog w K n f.comp):SCm prog w K (n+1) fun C elt g gs it st acc=>compS f C elt g gs it st acc:=by
  intro C elt g gs it st acc P e gens sc pos d I ws T U A s ρ env D R hd hasync gen hA1 O Rl T0 o0 hDw h
  have hA:=hA1.le
  refine e.g fun ht e=>?_
  obtain⟨hg,hg1,hdrop⟩:=drop_get hd
  have own:∀b,Dw D ws b→ρ.k b= .hid:=fun b q=>q.elim (fun q=>q ▸ o0.hid) fun q=>(gen.own T0 b q).1
  refine codeAny_loop rfl (CompInv K C env f elt g gs P it T D ws ρ s) ?_ loopFuel ⟨0,st,ρ,acc,Rl.stay own,T0,o0,e⟩
  rintro k s₁ ⟨j,st₁,ρ₁,acc₁,S₁,T₁,o₁,e⟩
  show wpAny _ A ((compTurn (.ListComp elt gens sc pos) d (.ref I) (.ref D) env).onRaise (fun x=>do noteFrame x env;theTreesLotGoes x)) _ _ s₁
  refine wpAny_noted ?_
  unfold compTurn
  dsimp only
  rw[hg]
  dsimp only
  rw[show(g.is_async !=0)=false by rw[hasync];rfl]
  simp only[Bool.false_eq_true,if_false]
  refine wpAny_bind (wpAny_standAt (wpAny_bind ?_))
  cases k with
  |zero=>exact(show False from e).elim
  | succ k=>
    have wsD:∀b,b=D→¬ws b:=fun b q=>q ▸ hDw
    refine(Hd.b e).get fun ox h1 e=>?_
    cases ox with
    | none=>
      refine gen.done hA1.hand S₁.rel T₁ h1 fun h' tk hk=>wpAny_pure ?_
      obtain⟨ρ₂,Sg⟩:=gen.gone (tk:=tk) S₁.rel T₁ hk
      exact h _ _ _ e (S₁.trans Sg fun _ _=> .inr) (o₁.mv Sg.mv hDw)
    | some x=>
      refine gen.next hA1.hand S₁.rel T₁ h1 fun v s₂ S₂ dv U₂=>?_
      dsimp only
      refine wpAny_bind (gen.go S₂.rel U₂ ht fun s₃ S₃ T₃=>wpAny_bind ((B C (Hd.b (Hd.b e))).2 hA O S₃.rel (show VR K _ _ (.d x) _ from dv.mono S₃.mv.fz) fun st₄ ρ₄ s₄ e S₄=>wpAny_bind (wp_ifs (IT C) hA O _ (fun c r=>rfl) g.ifs (Hd.b e) S₄.rel fun p ρ₅ s₅ e S₅=>?_)))
      have J:Step K C env p.2 (Dw D ws) ρ s ρ₅ s₅:=((S₁.trans (S₂.trans S₃ fun _ _ q=>q) fun _ _=> .inr).aft ⟨S₄.rel,S₄.mv⟩).aft S₅
      have T₅:=gen.mv (gen.mv T₃ S₄.mv fun _ _ q=>q) S₅.mv fun _ _ q=>q
      have o₅:=(((o₁.mv S₂.mv hDw).mv S₃.mv hDw).mv S₄.mv id).mv S₅.mv id
      have agn:∀{q:List PyData×St} {ow ρ₆ s₆},Step K C env q.2 ow ρ₅ s₅ ρ₆ s₆→(∀b,Live s₅.heap b→ow b→b=D)→Own s₆.heap ρ₆ D q.1→Hd (compL (compF f C elt g gs) it k (j+1) q.2 q.1) P→∃m,m<k+1∧CompInv K C env f elt g gs P it T D ws ρ s m s₆:=fun {q ow ρ₆ s₆} S how o e=>
        ⟨k,Nat.lt_succ_self k,j+1,q.2,ρ₆,q.1,J.trans S fun b l z=>Classical.byContradiction fun n=>n (.inl (how b (J.mv.live l n) z)),gen.mv T₅ S.mv (fun b q z=>wsD b (how b (gen.own T₅ b q).2 z) q),o,e⟩
      refine Hd.bif e (fun q e=>?_) fun q e=>?_<;>rw[q]
      · rw[if_pos rfl]
        cases gs with
        | nil=>
          rw[show gens[d+1]?=none from hg1]
          dsimp only
          refine wpAny_bind (wpAny_bind ((IE C (Hd.b e)).2 hA O S₅.rel fun p val ρ₆ s₆ e X=>wpAny_bind (X.data (Hd.b e) fun y ρ₇ e S₇ dy=>Hd.gd e fun hl e=>?_)))
          exact wp_appendOwn S₇.rel (o₅.mv S₇.mv id) hl dy fun s₈ S₈ o₈=>wpAny_pure (wpAny_pure ⟨rfl,agn (q:=(acc₁++[y],p.2)) ((S₇.more (ow':=(·=D)) (fun b z=>(z:b=D) ▸ o₅.hid) fun _ z=>z.elim).trans S₈ fun _ _ z=>z) (fun b _ z=>z) o₈ e⟩)
        | cons g' gs'=>
          rw[show gens[d+1]?=some g' from hg1]
          dsimp only
          refine Hd.gd e fun ha e=>?_
          have Y:=II C (Hd.b e)
          rw[show(g'.is_async !=0)=false by rw[ha];rfl]
          simp only[Bool.false_eq_true,if_false]
          refine wpAny_bind (wpAny_mono (Y.2 (Q:=fun itv s'=>wpAny (model prog w) A (do
              let _←runOwn (.compStart (.ListComp elt gens sc pos) (d+1) itv (.ref D) env) env
              again (.compLoop (.ListComp elt gens sc pos) d (.ref I) (.ref D) env)) _ _ s') hA O S₅.rel fun p I' ws' T' U' ρ₆ s₆ e gen' T₆ S₆ nw=>?_)
            (fun xv s' h'=>wpAny_bind (wpAny_standAt (wpAny_bind (wpAny_of_eq (iter_unfolded Y.1 xv) (wpAny_bind (wpAny_holding h')))))) fun _ _ x=>x)
          have o₆:=o₅.mv S₆.mv id
          have cl:∀{R':Result→Shared→Prop},(∀s₇,(∃m,m<k+1∧CompInv K C env f elt g (g'::gs') P it T D ws ρ s m s₇)→R' (.ok .next) s₇)→codeAny (model prog w) A (.compLoop (.ListComp elt gens sc pos) (d+1) (.ref I') (.ref D) env) R' s₆:=fun hR=>
            IC e hdrop ha gen' hA O S₆.rel T₆ o₆ (fun q=>nw D q o₅.live) fun q ρ₇ s₇ e S₇ o₇=>hR s₇ (agn ((S₆.more (ow':=(·=D)) (fun b z=>(z:b=D) ▸ o₅.hid) fun _ z=>z.elim).trans S₇ fun b l z=>z.elim id fun z=>absurd l (nw b z)) (fun b _ z=>z) o₇ e)
          exact wpAny_bind (wpAny_runOwn (codeAny_compStartD ⟨_,_,_,_,rfl⟩ hg1 ha (cl fun s₇ i=>wpAny_pure ⟨rfl,i⟩) (gen'.iter hA1.hand T₆ (cl fun s₇ i=>wpAny_pure ⟨rfl,i⟩))))
      · rw[if_neg (by decide)]
        exact wpAny_pure ⟨rfl,agn (q:=(acc₁,p.2)) S₅.rel.at0 (fun _ _ z=>z.elim) o₅ e⟩
end
end Mine
end
section
open PySem PySem.W PyProof.Rows
namespace Mine
theorem lk_map {α:Type} {f:Str×α→Str×α} (hf:∀p,(f p).1=p.1) {x:Str} {k:α}:∀{l:List (Str×α)},l.lookup x=some k→(l.map f).lookup x=some (f (x,k)).2
  | p::l,h=>by
    rw[List.map_cons,show f p=((f p).1,(f p).2)from rfl,lk_cons,hf]
    rw[show p=(p.1,p.2)from rfl,lk_cons]at h
    by_cases e:x=p.1
    · rw[if_pos e]at h ⊢;cases h;cases e;rfl
    · rw[if_neg e]at h ⊢;exact lk_map hf h
theorem relabel_lookup {sc:Scope} {env:Env} {x:Str} {k:NameKind} (h:sc.names.lookup x=some k):(relabel sc env).names.lookup x=some k∨(k= .free∧(relabel sc env).names.lookup x=some .cell):=by
  have e:(relabel sc env).names.lookup x=_:=lk_map (fun p=>by dsimp only;split<;>rfl) h
  dsimp only at e
  split at e
  · rename_i q
    exact .inr ⟨eq_of_beq (Bool.and_eq_true _ _ ▸ (Bool.and_eq_true _ _ ▸ q:_∧_).1:_∧_).1,e⟩
  · exact .inl e
theorem lookup_filter {vs:Vars} {p:Str→Bool} {x:Str} (hp:p x=true) {ov:Option V} (h:(vs.filter fun y=>p y.1).lookup x=some ov):vs.lookup x=some ov:=by
  induction vs with
  |nil=>cases h
  | cons q vs ih=>
    rw[show q=(q.1,q.2)from rfl,lk_cons]
    by_cases e:x=q.1
    · rw[List.filter_cons_of_pos (by rw[←e];exact hp),show q=(q.1,q.2)from rfl,lk_cons,if_pos e]at h
      rw[if_pos e];exact h
    · rw[if_neg e]
      refine ih ?_
      by_cases f:p q.1=true
      · rwa [List.filter_cons_of_pos (p:=fun y:Str×Option V=>p y.1) f,show q=(q.1,q.2)from rfl,lk_cons,if_neg e]at h
      · rwa [List.filter_cons_of_neg (p:=fun y:Str×Option V=>p y.1) f]at h
theorem filter_free {vs:Vars} {p:Str→Bool} {x:Str} {ov:Option V} (h:(vs.filter fun y=>p y.1).lookup x=some ov):p x=true:=(List.mem_filter.mp (lk_mem h)).2
section
variable {prog:Program} {w:World} {G:Env'} {K:Ctx0} {fa:Str→Addr} {A:Around} {E:Value→Shared→Prop} {C:Cx} {env:Env} {st st₁:St} {ow:Addr→Prop} {ρ ρ₁ ρ₂:Rho} {h':Heap} {s s₁ s₂:Shared} {n:Nat} {f:Fs} {pos:Pos} {L D:Addr} {vars:Vars} {objs:Objs} {xs:List PyData}
structure Dead (env:Env) (ρ:Rho) (s:Shared) (ρ₁:Rho) (s₁:Shared) (L:Addr):Prop where
  k:ρ₁.k L= .frm
  new:¬Live s.heap L
  loc:env.locals≠L
  cel:∀{x c},env.cells.lookup x=some c→c≠L
  ns:∃m,s₁.heap.Ns L m
theorem Step.scrub (S:Step K C env st ow ρ s ρ₁ s₁) (d:Dead env ρ s ρ₁ s₁ L) (hs:Heap.SameBut L s₁.heap h') {m:Str→Option Value} (hn:h'.Ns L m):Step K C env st ow ρ s ρ₁ {s₁ with heap:=h'}∧Mv No (·=L) ρ₁ ρ₁ s₁.heap h':=by
  obtain⟨M,W⟩:=S.rel.w.frame (t:=s₁.toks) d.k (fr:=(·=L)) rfl hs (let⟨o,_,_,e,_⟩:=hn;⟨o,e⟩)
  exact⟨⟨⟨W,S.rel.f.mv M d.loc d.cel⟩,S.mv.trans M (fun _ _ q=>q.elim) fun b l q=>absurd (q ▸ l) d.new⟩,M⟩
noncomputable def CompEnd (M:Model) (A:Around) (E:Value→Shared→Prop) (use:Option (Value→Sem Unit)) (Q:Value→Shared→Prop) (acc:Value) (L:Addr) (r:Result) (s':Shared):Prop:=
  match r with
  | .error _=>False
  | .ok _=>match use with
    |none=>∃m,s'.heap.Ns L m∧∀h' m',h'.Ns L m'→Heap.SameBut L s'.heap h'→Q acc {s' with heap:=h'}
    |some u=>wpAny M A (u acc) (fun _ s₂=>∃m,s₂.heap.Ns L m∧∀h' m',h'.Ns L m'→Heap.SameBut L s₂.heap h'→Q .none {s₂ with heap:=h'}) E s'
theorem wp_comprehension {M:Model} {e:Expr} {scope:Scope} {env:Env} {pos:Pos} {newAcc first:Sem Value} {g:Comprehension} {gs:List Comprehension} {cl:List (Str×Addr)} {use:Option (Value→Sem Unit)} {s:Shared} {Q:Value→Shared→Prop}
    (hcl:clausesOf e=g::gs) (hs:∀x,foldedSetIterable g.iter env x=pure x) (hclos:closureFor scope env=pure cl) (hkind:scope.kind= .function) (hnames:∀x∈scope.names,x.2= .local→scope.names.lookup x.1=some .local)
    (h:wpAny M A first (fun x s₁=>wpAny M A (pyIter x) (fun it s₂=>wpAny M A newAcc (fun acc s₃=>wpAny M A (newFunctionEnv scope env.globals cl [] env.qual none .none (some env)) (fun cenv s₄=>
        codeAny M A (.compStart e 0 it acc {cenv with scope:=relabel scope env}) (CompEnd M A E use Q acc cenv.locals) s₄) E s₃) E s₂) E s₁) E s):
    wpAny M A (comprehension e scope env pos newAcc false first use) Q E s:=by
  unfold comprehension
  rw[hclos,hcl]
  refine wpAny_bind (wpAny_mono h (fun x s₁ h₁=>?_) fun _ _ q=>q)
  refine wpAny_bind (wpAny_standAt (wpAny_bind (wpAny_of_eq (hs x) (wpAny_bind (wpAny_holding ?_)))))
  refine wpAny_mono h₁ (fun it s₂ h₂=>wpAny_standIf (wpAny_bind (wpAny_mono h₂ (fun acc s₃ h₃=>wpAny_bind (wpAny_pure (wpAny_bind (wpAny_mono h₃ (fun cenv s₄ h₄=>?_) fun _ _ q=>q)))) fun _ _ q=>q))) fun _ _ q=>q
  dsimp only
  generalize hvs:(scope.names.filter fun x=>(x.2== .local||x.2== .cell)&&x.1 !=(".0":Str)).reverse=vs
  have loc:∀x∈vs,x.2= .local→Env.kindOf {cenv with scope:=relabel scope env} x.1=some .local:=fun x hx hl=>by
    rw[←hvs]at hx
    exact lookup_relabel_local (hnames x (List.mem_filter.mp (List.mem_reverse.mp hx)).1 hl)
  have loc':∀x∈vs.drop 1++vs.take 1,x.2= .local→Env.kindOf {cenv with scope:=relabel scope env} x.1=some .local:=fun x hx=>
    loc x ((List.mem_append.mp hx).elim List.mem_of_mem_drop List.mem_of_mem_take)
  refine wpAny_holding (wpAny_bind (wpAny_attempt (wpAny_holding (wpAny_run (codeAny_mono h₄ fun r s' hr=>?_)))))
  cases r with
  |error x=>exact hr.elim
  | ok f=>
    cases use with
    | none=>
      obtain⟨m,hn,hq⟩:=hr
      exact wpAny_bind (wpAny_holding (wpAny_comp_letGo (cenv:={cenv with scope:=relabel scope env}) hkind _ s' m loc hn fun h' m' hn' hs'=>wpAny_pure (hq h' m' hn' hs')))
    | some u=>
      refine wpAny_bind (wpAny_rule (wpAny_bind (wpAny_holding (wpAny_mono hr (fun _ s₂ hr=>?_) fun _ _ q=>q))))
      obtain⟨m,hn,hq⟩:=hr
      exact wpAny_bind (wpAny_comp_letGo (cenv:={cenv with scope:=relabel scope env}) hkind _ s₂ m loc' hn fun h' m' hn' hs'=>wpAny_pure (hq h' m' hn' hs'))
theorem closure_spec:∀(names:List (Str×NameKind)) (acc:List (Str×Addr)),(∀n,(n,NameKind.free)∈names→(env.cells.lookup n).isSome=true)→
    ∃ cl,(forIn names acc fun x (r:List (Str×Addr))=>(do
      if x.2==NameKind.free then
        let c←cellOf env x.1
        pure (ForInStep.yield ((x.1,c)::r))
      else pure (ForInStep.yield r):Sem (ForInStep (List (Str×Addr)))))=pure cl∧
      (∀n,(n,NameKind.free)∈names→cl.lookup n=env.cells.lookup n)∧(∀n,(n,NameKind.free)∉names→cl.lookup n=acc.lookup n)
  |[],acc,_=>⟨acc,rfl,nofun,fun n _=>rfl⟩
  | (nm,k)::r,acc,h=>by
    rw[List.forIn_cons]
    by_cases hk:k= .free
    · subst hk
      obtain⟨c,hc⟩:=Option.isSome_iff_exists.mp (h nm (.head _))
      obtain⟨cl,h1,h3,h4⟩:=closure_spec r ((nm,c)::acc) fun n q=>h n (.tail _ q)
      refine⟨cl,?_,fun n q=>?_,fun n q=>(h4 n fun z=>q (.tail _ z)).trans (lk_cons.trans (if_neg fun e=>q (by subst e;exact .head _)))⟩
      · simp only[beq_self_eq_true,if_true,cellOf,hc,pure_bind];exact h1
      · by_cases hr:(n,NameKind.free)∈r
        · exact h3 n hr
        · obtain rfl:n=nm:=(List.mem_cons.mp q).elim (fun e=>(Prod.mk.inj e).1) fun e=>absurd e hr
          exact(h4 n hr).trans ((lk_cons.trans (if_pos rfl)).trans hc.symm)
    · obtain⟨cl,h1,h3,h4⟩:=closure_spec r acc fun n q=>h n (.tail _ q)
      refine⟨cl,?_,fun n q=>h3 n ((List.mem_cons.mp q).elim (fun e=>absurd (Prod.mk.inj e).2.symm hk) id),fun n q=>h4 n fun z=>q (.tail _ z)⟩
      simp only[beq_false_of_ne hk,Bool.false_eq_true,if_false,pure_bind];exact h1
theorem closureFor_spec {scope:Scope} (h:∀n,(n,NameKind.free)∈scope.names→(env.cells.lookup n).isSome=true):
    ∃cl,closureFor scope env=pure cl∧(∀{n c},cl.lookup n=some c→env.cells.lookup n=some c)∧(∀n,(n,NameKind.free)∈scope.names→cl.lookup n=env.cells.lookup n):=by
  obtain⟨cl,h1,h2,h3⟩:=closure_spec scope.names [] h
  refine⟨cl,?_,fun {n c} e=>?_,h2⟩
  · simp only[closureFor,bind_pure]
    exact h1
  · by_cases q:(n,NameKind.free)∈scope.names
    · exact(h2 n q).symm.trans e
    · rw[h3 n q]at e;cases e
noncomputable def compVars (sc:Scope) (vars:Vars):Vars:=((localNames sc).map fun x=>(x,none))++vars.filter (fun x=>freeIn sc x.1)
theorem wp_comp0 {elt:Expr} {g:Comprehension} {gs:List Comprehension} {sc:Scope} {ipos:Pos} {use:Option (Value→Sem Unit)} {Q:Value→Shared→Prop} {P:St→List PyData×St→Prop} (II:SI prog w K n C (f.iter C)) (IC:SCm prog w K n f.comp) (h0:g.is_async=0)
    (e:Hd (f.iter C g.iter st) fun p=>compOk C sc p.2.vars=true∧Hd (f.comp ⟨sc,[]⟩ elt g gs p.1 ⟨compVars sc p.2.vars,p.2.objs⟩ []) (P p.2)) (hA:AOK A n) (O:EnvOK K C env) (R:Rel K C env st ρ s)
    (fin:∀st₁ p ρ₅ s₅ D L,P st₁ p→Step K C env ⟨st₁.vars,p.2.objs⟩ No ρ s ρ₅ s₅→Own s₅.heap ρ₅ D p.1→¬Live s.heap D→Dead env ρ s ρ₅ s₅ L→CompEnd (model prog w) A E use Q (.ref D) L (.ok .next) s₅):
    wpAny (model prog w) A (comprehension (.ListComp elt (g::gs) sc pos) sc env ipos (newList []) false (eval g.iter env) use) Q E s:=by
  have I:=II e
  have hc:∃vars,compOk C sc vars=true:=e.get fun p _ q=>⟨_,q.1⟩
  have hsc:scOk sc=true:=let⟨_,q⟩:=hc;(Bool.and_eq_true _ _ ▸ q:_∧_).1
  have outer:∀{vars},compOk C sc vars=true→∀{x},sc.names.lookup x=some .free→(C.sc.names.lookup x=some .cell∨C.sc.names.lookup x=some .free)∧(vars.lookup x).isSome=true:=@fun vars q x hx=>by
    have:=List.all_eq_true.mp (Bool.and_eq_true _ _ ▸ q:_∧_).2 (x,.free) (lk_mem hx)
    simp only[decide_true,Bool.not_true,Bool.false_or,Bool.and_eq_true,Bool.or_eq_true]at this
    exact⟨this.1.imp of_decide_eq_true of_decide_eq_true,this.2⟩
  obtain⟨cl,hcl,hc1,hc2⟩:=closureFor_spec (env:=env) (scope:=sc) fun n hn=>let⟨_,q⟩:=hc;O.has (outer q ((scOk.mem hsc).mp hn)).1
  refine wp_comprehension (cl:=cl) rfl (iter_unfolded I.1) hcl (scOk.kind hsc) (fun x hx hl=>by rw[(scOk.mem hsc).mp (show(x.1,x.2)∈sc.names from hx),hl]) ?_
  refine I.2 hA O R fun p I ws T U ρ₁ s₁ e gen T₁ S₁ nw=>?_
  obtain⟨hco,e⟩:=e
  refine wpAny_newObj_type ?_
  have R₁:=S₁.rel
  have up:Up s₁.heap (s₁.heap.push (lObj #[] 0)):= .push _
  have S₂:Step K C env p.2 No ρ₁ s₁ (ρ₁.set s₁.heap.objs.size .hid) {s₁ with heap:=s₁.heap.push (lObj #[] 0),toks:=s₁.toks}:=R₁.hide not_live_size up ⟨_,Heap.get?_push_size _ rfl⟩
  have oD:Own (s₁.heap.push (lObj #[] 0)) (ρ₁.set s₁.heap.objs.size .hid) s₁.heap.objs.size []:=⟨set_self,Heap.get?_push_size _ rfl,rfl⟩
  have nD:¬Live s.heap s₁.heap.objs.size:=fun l=>not_live_size (S₁.mv.live l id)
  have hDw:¬ws s₁.heap.objs.size:=fun q=>not_live_size (gen.own T₁ _ q).2
  have T₂:=gen.mv T₁ S₂.mv fun _ _ q=>q
  have S02:=S₁.aft S₂
  have R₂:=S₂.rel
  rw[O.glob]
  refine wp_newFn (C:=⟨sc,[]⟩) (bs:=[]) (vals:=[]) (vs:=compVars sc p.2.vars) (objs:=p.2.objs) (P:=fun st=>st=⟨compVars sc p.2.vars,p.2.objs⟩) R₂.w hsc (fun {x} hx=>by rw[hc2 x (lk_mem hx)];exact O.has (outer hco hx).1) (fun hn=>R₂.f.cel (hc1 hn)) (fun hx hy=>O.one (hc1 hx) (hc1 hy)) O.bui (fun {x ov} hx=>?_) rfl rfl fun cenv st₀ ρ₃ s₃ ρ₄ s₄ e0 Oc N S lS=>?_
  · unfold compVars at hx
    rw[lookup_nones]at hx
    split at hx
    · rename_i q;cases hx;exact .inl ⟨(localNames_mem hsc).mp q,rfl⟩
    · have hf:=filter_free hx
      have hv:=lookup_filter hf hx
      have hf:=of_decide_eq_true hf
      obtain⟨m,hn,hvs⟩:=R₂.f.vars
      exact let⟨c,w',h1,h2,h3⟩:=(hvs hv).2 (outer hco hf).1; .inr ⟨hf,c,w',(hc2 x (lk_mem hf)).trans h1,h2,h3⟩
  · subst e0
    have Rc:∀{st ρ s},Rel K ⟨sc,[]⟩ cenv st ρ s→Rel K ⟨sc,[]⟩ {cenv with scope:=relabel sc env} st ρ s:=fun r=>⟨r.w,r.f.loc,r.f.vars,r.f.cel⟩
    have Ocr:EnvOK K ⟨sc,[]⟩ {cenv with scope:=relabel sc env}:=⟨(scOk.kind hsc:sc.kind= .function),Oc.glob,Oc.bui,fun hx=>relabel_lookup hx,Oc.one,Oc.has⟩
    have T₄:=gen.mv (gen.mv T₂ N.mv fun _ _ q=>q) S.mv fun _ _ q=>q.elim
    have o₄:=(oD.mv N.mv id).mv S.mv fun q=>q.elim
    have own₂:∀b,Dw s₁.heap.objs.size ws b→(ρ₁.set s₁.heap.objs.size .hid).k b= .hid:=fun b q=>q.elim (fun q=>q ▸ set_self) fun q=>(gen.own T₂ b q).1
    have post:PostG K ⟨sc,[]⟩ {cenv with scope:=relabel sc env} (P p.2) s₁.heap.objs.size (Dw s₁.heap.objs.size ws) ρ₄ s₄ (CompEnd (model prog w) A E use Q (.ref s₁.heap.objs.size) cenv.locals (.ok .next)):=fun q ρ₅ s₅ e S₅ o₅=>by
      have Sr:Step K ⟨sc,[]⟩ {cenv with scope:=relabel sc env} q.2 (Dw s₁.heap.objs.size ws) ρ₃ s₃ ρ₅ s₅:=⟨S₅.rel,(S.mv.mono (fun b z=>(z.elim (fun z=>z ▸ (oD.mv N.mv id).hid) fun z=>(gen.own (gen.mv T₂ N.mv fun _ _ q=>q) b z).1:ρ₃.k b= .hid)) (fun _ z=>z.elim) fun _ z=>z).trans S₅.mv (fun _ _ z=>z) fun _ _ z=>z⟩
      have WS:=Sr.out (ow':=Dw s₁.heap.objs.size ws) N.mv own₂ (fun _ _ z=>z) N.new
      have tot:Step K C env ⟨p.2.vars,q.2.objs⟩ No ρ s ρ₅ s₅:=S02.trans (R₂.back WS) fun b l z=>z.elim (fun z=>nD (z ▸ l)) fun z=>nw b z l
      refine fin p.2 q ρ₅ s₅ _ cenv.locals e tot o₅ nD ⟨S₅.rel.f.loc,fun l=>N.loc (S02.mv.live l id),fun z=>N.loc (z ▸ R₂.w.kl (by rw[R₂.f.loc];nofun)),fun hx z=>N.loc (z ▸ R₂.w.kl (by rw[(R₂.f.cel hx).1];nofun)),?_⟩
      obtain⟨m,hn,_⟩:=S₅.rel.f.vars;exact⟨m,hn⟩
    have loop:codeAny (model prog w) A (.compLoop (.ListComp elt (g::gs) sc pos) 0 (.ref I) (.ref s₁.heap.objs.size) {cenv with scope:=relabel sc env}) (CompEnd (model prog w) A E use Q (.ref s₁.heap.objs.size) cenv.locals) s₄:=
      IC e rfl h0 gen hA Ocr (Rc S.rel) T₄ o₄ hDw post
    exact codeAny_compStartD ⟨_,_,_,_,rfl⟩ (g:=g) rfl h0 loop (gen.iter hA.hand T₄ loop)
end
end Mine
end
section
open PySem PySem.W PyProof.Rows
namespace Mine
section
variable {prog:Program} {w:World} {G:Env'} {K:Ctx0} {fa:Str→Addr} {A:Around} {E:Value→Shared→Prop} {C:Cx} {env:Env} {st st₁:St} {ow:Addr→Prop} {ρ ρ₁ ρ₂:Rho} {s s₁ s₂:Shared} {n:Nat} {f:Fs} {pos:Pos} {L D:Addr} {xs:List PyData}
theorem Dead.mv (d:Dead env ρ s ρ₁ s₁ L) (M:Mv ow (Fe C env) ρ₁ ρ₂ s₁.heap s₂.heap):Dead env ρ s ρ₂ s₂ L:=by
  have nf:¬Fe C env L:=fun q=>q.elim (fun q=>d.loc q.symm) fun⟨x,_,q⟩=>d.cel q rfl
  obtain⟨m,hn⟩:=d.ns
  obtain⟨o,es,ep,e,r⟩:=id hn
  exact⟨(M.frm d.k e nf).1,d.new,d.loc,d.cel,m,hn.at' fun o e=>(M.frm d.k e nf).2⟩
theorem comp_open {elt:Expr} {gens:List Comprehension} {sc:Scope} {P:V×St→Prop} {T:List Comprehension→Prop} (e:Hd (evComp f C elt gens sc st) P)
    (k:∀g gs,g.is_async=0→Hd (f.iter C g.iter st) (fun p=>compOk C sc p.2.vars=true∧Hd (f.comp ⟨sc,[]⟩ elt g gs p.1 ⟨compVars sc p.2.vars,p.2.objs⟩ []) fun q=>P (.fl q.1,⟨p.2.vars,q.2.objs⟩))→T (g::gs)):T gens:=by
  cases gens with
  |nil=>exact(show False from e).elim
  |cons g gs=>exact Hd.gd e fun h0 e=>k g gs h0 ((Hd.b e).get fun p hp e=> .of hp (Hd.g e fun hc e=>⟨hc,(Hd.b e).get fun q hq e=> .of hq (Hd.gd e fun _ e=>e)⟩))
theorem first_eqs {g:Comprehension} {gs:List Comprehension} (h0:g.is_async=0):firstAsync (g::gs)=false∧firstIter (g::gs) env=eval g.iter env:=by
  obtain⟨t,i,f,a⟩:=g
  obtain rfl:a=0:=h0
  exact⟨rfl,rfl⟩
theorem wp_ListComp {elt:Expr} {gens:List Comprehension} {sc:Scope} {P:V×St→Prop} {Q:Value→Shared→Prop} (II:SI prog w K n C (f.iter C)) (IC:SCm prog w K n f.comp) (e:Hd (evComp f C elt gens sc st) P) (hA:AOK A n) (O:EnvOK K C env) (R:Rel K C env st ρ s) (h:Post K C env P ρ s Q):
    wpAny (model prog w) A (eval (.ListComp elt gens sc pos) env) Q E s:=
  comp_open (T:=fun gens=>wpAny (model prog w) A (eval (.ListComp elt gens sc pos) env) Q E s) e fun g gs h0 e=>by
    show wpAny _ A (comprehension (.ListComp elt (g::gs) sc pos) sc env (firstIterPos (g::gs) pos) (newList []) (firstAsync (g::gs)) (firstIter (g::gs) env)) Q E s
    rw[(first_eqs (env:=env) (gs:=gs) h0).1,(first_eqs (env:=env) (gs:=gs) h0).2]
    exact wp_comp0 (use:=none) (P:=fun st₁ q=>P (.fl q.1,⟨st₁.vars,q.2.objs⟩)) II IC h0 e hA O R fun st₁ p ρ₅ s₅ D L e S o nD d=>let⟨m,hn⟩:=d.ns;⟨m,hn,fun h' m' hn' hs=>
      let⟨S',M⟩:=S.scrub d hs hn';h.ep e ⟨S',⟨D,rfl,o.mv M id⟩,fun a q=>(Value.ref.inj q:D=a) ▸ nD⟩⟩
theorem wp_AssignComp {x:Str} {px spos:Pos} {elt:Expr} {gens:List Comprehension} {sc:Scope} {P:St→Prop} {Q:Flow→Shared→Prop} (II:SI prog w K n C (f.iter C)) (IC:SCm prog w K n f.comp) (e:Hd (evComp f C elt gens sc st) fun p=>Hd (bindN C x p.1 p.2) P)
    (hsw:swapsWith (.ListComp elt gens sc pos) (some (.Name x px)) spos.line env=pure true) (hA:AOK A n) (O:EnvOK K C env) (R:Rel K C env st ρ s) (h:∀st' ρ' s',P st'→Step K C env st' No ρ s ρ' s'→Q .next s'):
    wpAny (model prog w) A (exec (.Assign [.Name x px] (.ListComp elt gens sc pos) spos) env) Q E s:=by
  rw[exec_Assign_Name_used _ _ _ _ hsw]
  refine wpAny_bind (wpAny_standAt (wpAny_bind (comp_open (T:=fun gens=>wpAny (model prog w) A (evalThenUse (.ListComp elt gens sc pos) env (assign (.Name x px) env)) _ E s) e fun g gs h0 e=>?_)))
  show wpAny _ A (do let _←comprehension (.ListComp elt (g::gs) sc pos) sc env (firstIterPos (g::gs) pos) (newList []) (firstAsync (g::gs)) (firstIter (g::gs) env) (some (assign (.Name x px) env))) _ _ s
  rw[(first_eqs (env:=env) (gs:=gs) h0).1,(first_eqs (env:=env) (gs:=gs) h0).2]
  refine wpAny_bind (wp_comp0 (use:=some (assign (.Name x px) env)) (pos:=pos) (ipos:=firstIterPos (g::gs) pos) (Q:=fun _ s'=>wpAny (model prog w) A (pure ()) (fun _ s'=>wpAny (model prog w) A (pure Flow.next) Q E s') E s') (P:=fun st₁ q=>Hd (bindN C x (.fl q.1) ⟨st₁.vars,q.2.objs⟩) P) II IC h0 e hA O R fun st₁ p ρ₅ s₅ D L e S o nD d=>?_)
  show wpAny (model prog w) A (assign (.Name x px) env (.ref D)) _ E s₅
  refine PyProof.Rows.assign_Name (wp_bindN O S.rel e ⟨D,rfl,o⟩ fun st' ρ₆ s₆ e S₆ _=>?_)
  have S06:=S.trans S₆ fun b l q=>nD ((Value.ref.inj q:D=b) ▸ l)
  have d₆:=d.mv S₆.mv
  obtain⟨m,hn⟩:=d₆.ns
  exact⟨m,hn,fun h' m' hn' hs=>wpAny_pure (wpAny_pure (h _ _ _ e (S06.scrub d₆ hs hn').1))⟩
theorem plain_swaps {e:Expr} {t:Option Expr} {l:Nat} (h:plainE e=true) (hc:isCompE e=false):swapsWith e t l env=pure false:=by
  cases e<;>first |rfl |(cases h;done) |(cases hc;done)
theorem comp_of {e:Expr} (hc:isCompE e=true):∃a b c d,e= .ListComp a b c d:=by
  cases e<;>first |exact⟨_,_,_,_,rfl⟩ |cases hc
theorem swaps_not {a:Expr} {b c d} {t:Expr} {l:Nat} (h:nameE t=none):swapsWith (.ListComp a b c d) (some t) l env=pure false:=by
  cases t<;>first |rfl |cases h
theorem name_of {t:Expr} {x:Str} (h:nameE t=some x):∃p,t= .Name x p:=by
  cases t<;>first |(cases h;done) |(cases h;exact⟨_,rfl⟩)
theorem noSwap {t e:Expr} (ot:okT C t=true) (h:((tupE t).bind fun ts=>(tupE e).map fun es=>(ts,es))=none):swappedStores [t] e env=pure none:=by
  cases t<;>first |rfl |(cases ot;done) |(cases e<;>first |rfl |(cases h;done))
end
section
variable (prog:Program) (w:World) (K:Ctx0) (n:Nat)
noncomputable def SA (f:Fs):Prop:=∀{C x px elt gens sc pos spos st P},Hd (f.ev C (.ListComp elt gens sc pos) st) (fun p=>Hd (f.bind C (.Name x px) p.1 p.2) P)→∀{A s ρ env Q E},swapsWith (.ListComp elt gens sc pos) (some (.Name x px)) spos.line env=pure true→AOK A n→EnvOK K C env→Rel K C env st ρ s→
  (∀st' ρ' s',P st'→Step K C env st' No ρ s ρ' s'→Q .next s')→wpAny (model prog w) A (exec (.Assign [.Name x px] (.ListComp elt gens sc pos) spos) env) Q E s
end
section
variable {prog:Program} {w:World} {G:Env'} {K:Ctx0} {fa:Str→Addr} {A:Around} {E:Value→Shared→Prop} {C:Cx} {env:Env} {st st₁:St} {ow:Addr→Prop} {ρ ρ₁ ρ₂:Rho} {s s₁ s₂:Shared} {n:Nat} {f:Fs} {pos:Pos} {P:Fl×St→Prop} {Q:Flow→Shared→Prop}
theorem wp_Assign1 {t e:Expr} (IE:SE prog w K n C (f.ev C)) (B:SB prog w K n C (f.bind C)) (S:SA prog w K n f) (h:Hd (f.ev C e st) fun p=>Hd (f.bind C t p.1 p.2) fun st=>P (.next,st)) (hne:((tupE t).bind fun ts=>(tupE e).map fun es=>(ts,es))=none)
    (hA:AOK A n) (O:EnvOK K C env) (R:Rel K C env st ρ s) (hQ:PostF K C env P ρ s Q):wpAny (model prog w) A (exec (.Assign [t] e pos) env) Q E s:=by
  have I:=IE h
  have ot:okT C t=true:=h.get fun p _ e=>(B e).1
  have plain:swapsWith e (some t) pos.line env=pure false→wpAny (model prog w) A (exec (.Assign [t] e pos) env) Q E s:=fun hs=>by
    refine wpAny_Assign_stores (I.2 hA O R fun p val ρ₁ s₁ e X=>?_) hs (noSwap ot hne)
    rw[assignEach_plain (C:=C) env (ts:=[t]) fun u hu=>(List.mem_singleton.mp hu) ▸ ot]
    exact(B e).2 hA O X.step.rel X.vr fun st' ρ' s' e S=>hQ.next (X.step.trans S fun b l o=>X.new b o l) e
  cases hc:isCompE e with
  |false=>exact plain (plain_swaps I.1 hc)
  | true=>
    obtain⟨a,b,c,d,rfl⟩:=comp_of hc
    cases hn:nameE t with
    |none=>exact plain (swaps_not hn)
    | some x=>
      obtain⟨p,rfl⟩:=name_of hn
      have key:∀r:Bool,swapsWith (.ListComp a b c d) (some (.Name x p)) pos.line env=pure r→wpAny (model prog w) A (exec (.Assign [.Name x p] (.ListComp a b c d) pos) env) Q E s:=fun r hr=>match r with
        |false=>plain hr
        |true=>S h hr hA O R fun st' ρ' s' e S=>hQ.next S e
      exact key _ rfl
end
end Mine
end
section
open PySem PySem.W PyProof.Rows
namespace Mine
section
variable {prog:Program} {w:World} {G:Env'} {K:Ctx0} {fa:Str→Addr} {A:Around} {E:Value→Shared→Prop} {C:Cx} {env:Env} {st st₁:St} {ow:Addr→Prop} {ρ ρ₁ ρ₂:Rho} {h:Heap} {s s₁ s₂:Shared} {n:Nat} {f:Fs} {pos:Pos} {P:Fl×St→Prop} {Q:Flow→Shared→Prop}
noncomputable def nameM (env:Env) (line:Nat):Expr→Option Str
  | .Name id pos=>if env.kindOf id==some .local&&pos.line==line then some id else none
  |_=>none
noncomputable def starE:Expr→Bool | .Starred .. =>true |_=>false
theorem nameM_eq {line:Nat} (O:EnvOK K C env) {t:Expr} (h:okT C t=true):nameM env line t=nameOn C.sc line t:=by
  cases t with
  | Name x p=>
    have hk:C.sc.names.lookup x=some .local∨C.sc.names.lookup x=some .cell:=(Bool.or_eq_true _ _ ▸ h:_∨_).imp of_decide_eq_true of_decide_eq_true
    have e:env.kindOf x=C.sc.names.lookup x:=hk.elim (fun q=>(O.kd q nofun).trans q.symm) fun q=>(O.kd q nofun).trans q.symm
    show(if(env.kindOf x==some .local&&p.line==line)=true then some x else none)=bif decide (C.sc.names.lookup x=some .local)&&p.line==line then some x else none
    rw[e]
    rcases hk with q |q<;>rw[q]<;>cases p.line==line<;>rfl
  |_=>rfl
theorem filterMap_names {line:Nat} (O:EnvOK K C env):∀(ts:List Expr),(∀t∈ts,okT C t=true)→ts.filterMap (nameM env line)=ts.filterMap (nameOn C.sc line)
  |[],_=>rfl
  |t::ts,h=>by rw[List.filterMap_cons,List.filterMap_cons,filterMap_names O ts fun t ht=>h t (.tail _ ht),nameM_eq O (h t (.head _))]
theorem filterMap_full {sc:Scope} {line:Nat}:∀{ts:List Expr},(ts.filterMap (nameOn sc line)).length=ts.length→∃ps:List Pos,ts=(ts.filterMap (nameOn sc line)).zipWith (fun x p=>Expr.Name x p) ps∧ps.length=ts.length
  |[],_=>⟨[],rfl,rfl⟩
  | t ::ts,hl=>by
    rw[List.filterMap_cons]at hl ⊢
    cases h1:nameOn sc line t with
    | none=>
      rw[h1]at hl
      exact absurd (List.length_filterMap_le (nameOn sc line) ts) (by rw[hl];exact Nat.not_succ_le_self _)
    | some x=>
      rw[h1]at hl
      obtain⟨p,rfl⟩:∃p,t= .Name x p:=by
        cases t with
        | Name y p=>
          refine⟨p,?_⟩
          revert h1
          show(bif isK sc y .local&&p.line==line then some y else none)=some x→_
          cases isK sc y .local&&p.line==line
          · exact nofun
          · exact fun q=>Option.some.inj q ▸ rfl
        |_=>cases h1
      obtain⟨ps,e,hp⟩:=filterMap_full (Nat.succ.inj hl)
      exact⟨p::ps,congrArg _ e,congrArg Nat.succ hp⟩
theorem swapped_spec (O:EnvOK K C env) {ts vs:List Expr} {k k':Nat} {p p':Pos} {P:Bool→Prop} {T:Prop} (h:Hd (swapped C ts vs) P) (hn:∀t∈ts,okT C t=true) (hs:vs.any starE=false)
    (c:∀(names:List Str) (sw:Bool),P sw→swappedStores [.Tuple ts k p] (.Tuple vs k' p') env=pure (if sw then some names else none)→(sw=true→∃ps:List Pos,ts=names.zipWith (fun x q=>Expr.Name x q) ps∧ps.length=names.length)→T):T:=by
  have hbk:(env.blockKind != .function)=false:=by
    rw[show env.blockKind= .function by unfold Env.blockKind;rw[O.kind];rfl];rfl
  have stop:P false→swappedStores [.Tuple ts k p] (.Tuple vs k' p') env=pure none→T:=fun e q=>c [] false e q nofun
  have c1:swappedStores [.Tuple ts k p] (.Tuple vs k' p') env=(if(!(ts.length==2||ts.length==3)||vs.length !=ts.length||env.blockKind != .function)=true then pure none else if vs.any starE=true then pure none
    else if((ts.filterMap (nameM env ((ts.head?.map (·.pos.line)).getD 0))).length !=ts.length||(ts.filterMap (nameM env ((ts.head?.map (·.pos.line)).getD 0))).eraseDups.length !=(ts.filterMap (nameM env ((ts.head?.map (·.pos.line)).getD 0))).length)=true then pure none
    else if vs.all (foldedForSure 8)=true then pure none else if vs.all (constantsAlone 8)=true then unsupported "assign.tuple-of-constant-expressions:order-of-the-stores" else pure (some (ts.filterMap (nameM env ((ts.head?.map (·.pos.line)).getD 0))))):=rfl
  rw[hbk,Bool.or_false,hs,filterMap_names O ts hn]at c1
  refine h.bif (fun q e=>stop e (c1.trans (if_pos q))) fun q1 e=>e.bif (fun q e=>stop e (c1.trans ?_)) fun q2 e=>e.bif (fun q e=>stop e (c1.trans ?_)) fun q3 e=>e.bif (fun _ e=>(show False from e).elim) fun q4 e=>c (ts.filterMap (nameOn C.sc ((ts.head?.map (·.pos.line)).getD 0))) true e (c1.trans ?_) fun _=>?_
  · rw[q1,q];rfl
  · rw[q1,q2,q];rfl
  · rw[q1,q2,q3,q4];rfl
  · have hl:=(Bool.or_eq_false_iff.mp q2).1
    have hl:(ts.filterMap (nameOn C.sc ((ts.head?.map (·.pos.line)).getD 0))).length=ts.length:=Classical.byContradiction fun z=>nomatch (bne_iff_ne.mpr z).symm.trans hl
    obtain⟨ps,e1,e2⟩:=filterMap_full hl
    exact⟨ps,e1,e2.trans hl.symm⟩
theorem plain_stars:∀{es:List Expr} {st} {P:List V×St→Prop},(∀{e st} {P:V×St→Prop},Hd (f.ev C e st) P→plainE e=true)→Hd (evs (f.ev C) es st) P→es.any starE=false
  |[],_,_,_,_=>rfl
  | x::es,_,_,pl,e=>(Hd.b e).get fun p hp e=>by
    have h0:=pl (Hd.of hp trivial:Hd _ fun _=>True)
    rw[List.any_cons,plain_stars (es:=es) pl (Hd.m e),Bool.or_false]
    cases x<;>first |rfl |(cases h0;done)
theorem VRs.rev:∀{vs:List V} {vals:List Value},VRs K h ρ vs vals→VRs K h ρ vs.reverse vals.reverse∧∀{b},Ows vs.reverse vals.reverse b→Ows vs vals b
  |[],_,r=>by cases(r:_=[]);exact⟨rfl,id⟩
  | v::vs,_,r=>by
    obtain⟨rfl,a,r,d⟩:=r
    obtain⟨r',o'⟩:=VRs.rev r
    rw[List.reverse_cons,List.reverse_cons]
    exact⟨VRs.app r' ⟨rfl,a,rfl,fun _ _ q=>q⟩ fun b o q=>q.elim (fun q=>d b q (o' o)) False.elim,fun o=>(Ows.app r'.len o).elim (fun o=> .inr (o' o)) fun o=> .inl (o.elim id False.elim)⟩
theorem zip_rev {α β:Type}:∀{l:List α} {r:List β},l.length=r.length→(l.zip r).reverse=l.reverse.zip r.reverse
  |[],[],_=>rfl
  | x::l,y::r,h=>by
    have h':l.length=r.length:=Nat.succ.inj h
    rw[List.zip_cons_cons,List.reverse_cons,List.reverse_cons,List.reverse_cons,zip_rev h',List.zip_append (by rw[List.length_reverse,List.length_reverse,h'])]
    rfl
noncomputable def storeN (env:Env) (t:Expr):Value→Sem Unit:=(nameE t).elim (fun _=>pure ()) fun x=>bindName env x
theorem storeN_map:∀{names:List Str} {ps:List Pos},ps.length=names.length→(names.map fun n=>bindName env n)=(names.zipWith (fun x q=>Expr.Name x q) ps).map (storeN env)
  |[],_,_=>rfl
  |_::_,[],h=>nomatch h
  |x::names,q::ps,h=>congrArg _ (storeN_map (Nat.succ.inj h))
theorem zipN_mem:∀{names:List Str} {ps:List Pos} {t:Expr},t∈names.zipWith (fun x q=>Expr.Name x q) ps→∃x q,t= .Name x q
  |[],_,_,h=>nomatch h
  |_::_,[],_,h=>nomatch h
  |x::names,q::ps,t,h=>(List.mem_cons.mp h).elim (fun e=>⟨x,q,e⟩) zipN_mem
theorem wp_AssignTup {ts es:List Expr} {k k':Nat} {p p':Pos} (bn:∀{x p v st} {P:St→Prop},Hd (f.bind C (.Name x p) v st) P→Hd (bindN C x v st) P) (IE:SE prog w K n C (f.ev C)) (B:SB prog w K n C (f.bind C)) (e:Hd (asgTup f C ts es st) P) (hA:AOK A n) (O:EnvOK K C env) (R:Rel K C env st ρ s) (hQ:PostF K C env P ρ s Q):
    wpAny (model prog w) A (exec (.Assign [.Tuple ts k p] (.Tuple es k' p') pos) env) Q E s:=by
  have ok:∀t∈ts,okT C t=true:=(Hd.b e).get fun sw _ e=>(Hd.b e).get fun q _ e=>Hd.gd e fun hl e=>zip_all (p:=fun t=>okT C t=true) hl.1.symm fun u hu=>bindAll_ok (fun e=>(B e).1) (Hd.m e) u (by
    cases sw
    · exact hu
    · exact List.mem_reverse.mpr hu)
  have stars:=(Hd.b e).get fun sw _ e=>plain_stars (fun e=>(IE e).1) (Hd.b e)
  refine swapped_spec (k:=k) (k':=k') (p:=p) (p':=p') O (Hd.b e) ok stars fun names sw e e1 e2=>?_
  rw[exec_Assign_arm]
  refine wpAny_bind (wpAny_standAt (wpAny_bind (wpAny_of_eq (show swapsWithSole [.Tuple ts k p] (.Tuple es k' p') pos.line env=pure false from rfl) ?_)))
  rw[if_neg (by decide)]
  refine wpAny_bind (wpAny_Tuple (wp_evs IE hA O es (Hd.b e) R fun q vals ρ₁ s₁ e X=>Hd.gd e fun hl e=>⟨X.vrs.len ▸ Nat.le_trans hl.2 maxLen_le,?_⟩))
  rw[e1]
  refine wpAny_bind (wpAny_pure ?_)
  have S₂:=X.step.rel.go (t:=s₁.toks) (.push (tObj vals))
  have hT:(s₁.heap.push (tObj vals)).IsTuple s₁.heap.objs.size vals.toArray:=⟨_,Heap.get?_push_size _ rfl,rfl,_,rfl⟩
  have hlv:vals.length=ts.length:=X.vrs.len.trans hl.1
  have mk:∀{h'},Heap.ExtBut (s₁.heap.push (tObj vals)).objs.size (s₁.heap.push (tObj vals)) h'→Step K C env q.2 No ρ₁ s₁ ρ₁ {s₁ with heap:=h'}:=fun he=>S₂.aft (S₂.rel.go (t:=s₁.toks) fun b o e=>he b o (fun q=>not_live_size ⟨o,q ▸ e⟩) e)
  cases sw with
  | false=>
    refine wpAny_bind ?_
    show wpAny _ A (assign (.Tuple ts k p) env _) _ E _
    rw[arm_assign_Tuple,assignEach_plain env ok]
    refine wpAny_bind (wpAny_standAt (wpAny_unpack_tuple hA.hand hT ((List.length_map _).trans hlv.symm) (List.findIdx?_eq_none_iff.mpr fun x hx=>let⟨t,_,q⟩:=List.mem_map.mp hx;q ▸ rfl) fun h' he=>?_))
    have S:=mk he
    rw[List.map_map]
    exact wp_bindBy (f.bind C) (fun t=>assign t env) ts q.1 (fun t _=>fun e R r h=>(B e).2 hA O R r h) hl.1.symm (Hd.m e) (X.vrs.mv S.mv fun _ _ q=>q) S.rel fun st' ρ' s' e S'=>wpAny_pure (hQ.next ((X.step.aft S).trans S' fun b l o=>X.new b o l) e)
  | true=>
    obtain⟨ps,e3,e4⟩:=e2 rfl
    have hln:names.length=ts.length:=by rw[e3,List.length_zipWith,e4,Nat.min_self]
    show wpAny _ A (do
      rule "assign.swapped-stores"
      let items←unpackItems _ names.length none
      assignInOrder (names.reverse.map fun n=>bindName env n) items.reverse
      pure .next) Q E _
    refine wpAny_bind (wpAny_rule (wpAny_bind ?_))
    rw[show names.length=vals.toArray.size from hln.trans hlv.symm]
    refine wpAny_unpackItems_tuple hA.hand hT fun h' he=>?_
    have S:=mk he
    obtain⟨rr,ro⟩:=VRs.rev (X.vrs.mv S.mv fun _ _ q=>q)
    rw[List.map_reverse,storeN_map e4,←e3,←List.map_reverse]
    have e:=Hd.m e
    rw[cond_true,zip_rev hl.1.symm]at e
    refine wpAny_bind (wp_bindBy (f.bind C) (storeN env) ts.reverse q.1.reverse (fun t ht=>fun {v st s ρ val P Q} e R r h=>?_) (by rw[List.length_reverse,List.length_reverse,hl.1]) e rr S.rel fun st' ρ' s' e S'=>wpAny_pure (hQ.next ((X.step.aft S).trans S' fun b l o=>X.new b (ro o) l) e))
    obtain⟨x,z,rfl⟩:=zipN_mem (e3 ▸ List.mem_reverse.mp ht)
    exact wpAny_bindName (wp_bindN O R (bn e) r fun st' ρ' s' e S _=>h _ _ _ e S)
end
end Mine
end
section
open PySem PySem.W PyProof.Rows
namespace Mine
structure Sd (prog:Program) (w:World) (G:Env') (K:Ctx0) (fa:Str→Addr) (n:Nat) (f:Fs):Prop where
  ev:∀C,SE prog w K n C (f.ev C)
  tst:∀C,ST prog w K n C (f.tst C)
  iter:∀C,SI prog w K n C (f.iter C)
  comp:SCm prog w K n f.comp
  bind:∀C,SB prog w K n C (f.bind C)
  bn:∀{C x p v st} {P:St→Prop},Hd (f.bind C (.Name x p) v st) P→Hd (bindN C x v st) P
  ex:∀C,SX prog w K n C (f.ex C)
  call:SC prog w G K fa n f.call
  asc:SA prog w K n f
section
variable {prog:Program} {w:World} {G:Env'} {K:Ctx0} {fa:Str→Addr} {A:Around} {E:Value→Shared→Prop} {C:Cx} {env:Env} {st:St} {ρ:Rho} {s:Shared} {n:Nat} {f:Fs} {pos:Pos} {P:Fl×St→Prop} {Q:Flow→Shared→Prop}
theorem ev_step (W:Wd prog w K G fa) (I:Sd prog w G K fa n f):SE prog w K (n+1) C (evS G f C n):=by
  intro e st P h
  cases e with
  |Constant c k pos=>exact⟨rfl,fun hA O R hQ=>wp_Const h R hQ⟩
  |Name x pos=>exact⟨rfl,fun hA O R hQ=>wp_Name W.N h O R hQ⟩
  |BinOp l op r pos=>exact⟨rfl,fun hA O R hQ=>wp_Bin (I.ev C) h hA.le O R hQ⟩
  |UnaryOp op x pos=>exact⟨rfl,fun hA O R hQ=>wp_Un (I.ev C) h hA.le O R hQ⟩
  |BoolOp op es pos=>exact⟨rfl,fun hA O R hQ=>wp_Bool (I.ev C) h hA.le O R hQ⟩
  |IfExp t a b pos=>exact⟨rfl,fun hA O R hQ=>wp_IfE (I.ev C) (I.tst C) h hA.le O R hQ⟩
  |Compare l ops es pos=>exact⟨rfl,fun hA O R hQ=>wp_Cmp W (I.ev C) I.call h hA.le O R hQ⟩
  |List es pos=>exact⟨rfl,fun hA O R hQ=>wp_List (I.ev C) h hA.le O R hQ⟩
  |Tuple es k pos=>exact⟨rfl,fun hA O R hQ=>wp_Tuple (I.ev C) h hA.le O R hQ⟩
  |Subscript o i pos=>exact⟨rfl,fun hA O R hQ=>wp_Sub W I.call (I.ev C) h hA O R hQ⟩
  |Attribute o a pos=>exact⟨rfl,fun hA O R hQ=>wp_Attr W (I.ev C) h hA.le O R hQ⟩
  |ListComp elt gens sc pos=>exact⟨rfl,fun hA O R hQ=>wp_ListComp (I.iter C) I.comp h hA.le O R hQ⟩
  | Call g args kws pos=>
    cases g with
    |Attribute o m apos=>exact⟨rfl,fun hA O R hQ=>Hd.el' h (fun tab q e=>wp_DGet W (I.ev C) q e hA.le O R hQ) fun _ e=>wp_CallM W (I.ev C) I.call e hA.le O R hQ⟩
    |Name g p=>exact⟨Hd.g h fun hg _=>congrArg not (Bool.or_eq_false_iff.mp (Bool.or_eq_false_iff.mp (Bool.not_eq_true' _ ▸ (Bool.and_eq_true _ _ ▸ hg:_∧_).1)).1).1,fun hA O R hQ=>wp_CallN W (I.ev C) I.call h hA O R hQ⟩
    |_=>exact h.elim
  |_=>exact h.elim
theorem asc_step (I:Sd prog w G K fa n f):SA prog w K (n+1) (stepF G f n):=fun e=>fun hsw hA O R h=>wp_AssignComp (I.iter _) I.comp e hsw hA.le O R h
theorem wp_Aug {x:Str} {p:Pos} {op:Operator} {e:Expr} (W:Wd prog w K G fa) (I:Sd prog w G K fa n f) (h:Hd (exS G f C (.AugAssign (.Name x p) op e pos) st) P) (hA:AOK A n) (O:EnvOK K C env) (R:Rel K C env st ρ s) (hQ:PostF K C env P ρ s Q):
    wpAny (model prog w) A (exec (.AugAssign (.Name x p) op e pos) env) Q E s:=by
  refine Hd.g (show Hd (gd ((isAdd op||isSub op)&& !(x==("__debug__":Str))) ((evVar G C x st).bind fun v=>(asI v).bind fun a=>(f.ev C e st).bind fun p=>(asI p.1).bind fun b=>(bindN C x (.d (.int (bif isAdd op then a+b else a - b))) p.2).map fun st=>(.next,st))) P from h) fun hg h=>?_
  obtain⟨hop,-⟩:=Bool.and_eq_true _ _ ▸ hg
  refine wpAny_AugAssign_Name (wp_evVar W.N (Hd.b h) O R fun v val h _ r=>Hd.int (Hd.b h) r fun i t q h=>q ▸ (I.ev C (Hd.b h)).2 hA O R fun p val ρ₂ s₂ h X=>Hd.int (Hd.b h) X.vr fun j t' q h=>?_)
  subst q
  have fin:∀{z:Int} {tk u},z=(bif isAdd op then i+j else i - j)→wpAny (model prog w) A (storeName env x (.int z u)) (fun _=>Q .next) E {s₂ with toks:=tk}:=fun {z tk u} q=>by
    have S:=X.step.rel.tok tk
    exact wp_bindN (v:= .d (.int z)) O S.rel (q ▸ Hd.m h) ⟨u,rfl⟩ fun st' ρ' s' e S' _=>hQ.next ((X.step.aft S).trans S' fun _ _ q=>q) e
  cases op with
  |Add=>exact PySem.P.iadd_int (fin rfl)
  |Sub=>exact PySem.P.isub_int (fin rfl)
  |_=>cases hop
theorem wp_Del {ts:List Expr} (W:Wd prog w K G fa) (I:Sd prog w G K fa n f) (e:Hd (exS G f C (.Delete ts pos) st) P) (hA:AOK A n) (O:EnvOK K C env) (R:Rel K C env st ρ s) (hQ:PostF K C env P ρ s Q):
    wpAny (model prog w) A (exec (.Delete ts pos) env) Q E s:=by
  refine Hd.one (show Hd (one ts _) P from e) fun t q e=>?_
  subst q
  cases t with
  | Subscript o i p=>
    refine wpAny_Delete (wpAny_deleteEach_cons ?_)
    refine wpAny_bind ((I.ev C (Hd.b e)).2 hA O R fun u vo ρ₁ s₁ e X=>?_)
    obtain⟨u,st₁⟩:=u
    cases u with
    | obj k=>
      replace e:Hd ((f.ev C i st₁).bind fun q=>(objCall f "Headers.__delitem__" k [q.1] q.2).map fun r=>(Fl.next,r.2)) P:=e
      refine wpAny_bind (wpAny_holding ((I.ev C e.b).2 hA O X.step.rel fun q vi ρ₂ s₂ e Y=>wpAny_bind (wpAny_standAt (wpAny_bind (wpAny_holding ?_)))))
      have S12:=X.step.aft Y.step
      obtain⟨a,rfl,ha⟩:=Y.vr0 X.vr
      exact wp_delO W I.call (Hd.m e) hA Y.step.rel ha ⟨rfl,Y.vr,rfl,fun b o=>objCall_gd e.m fun _ hs _=>(no_ow (vals:=[vi]) hs (.inl o)).elim⟩ fun p v ρ' s' e Z=>wpAny_release' (wpAny_deleteEach_nil (hQ.next (S12.aft Z.step) e))
    |_=>exact(show False from e).elim
  |_=>exact(show False from e).elim
theorem ex_step (W:Wd prog w K G fa) (I:Sd prog w G K fa n f):SX prog w K (n+1) C (exS G f C):=by
  intro b st P e A s ρ env Q E hA O R h
  have hA:=hA.le
  cases b with
  |Pass pos=>exact wpAny_Pass (h.next R.at0 e)
  |Break pos=>exact wpAny_Break (h _ _ _ _ e ⟨R.at0,rfl⟩)
  |Continue pos=>exact wpAny_Continue (h _ _ _ _ e ⟨R.at0,rfl⟩)
  | Return v pos=>
    cases v with
    |none=>exact wpAny_Return_none (h _ _ _ _ e ⟨R.at0,.none,rfl,rfl,fun _ q=>q.elim⟩)
    |some x=>exact wpAny_Return_some ((I.ev C (Hd.m e)).2 hA O R fun p val ρ₁ s₁ e X=>h _ _ _ _ e ⟨X.step,val,rfl,X.vr,X.new⟩)
  | Expr x pos=>
    refine Hd.g e fun hc e=>?_
    have hi:interactive env=false:=by unfold interactive;rw[O.kind];rfl
    have Y:=I.ev C (Hd.m e)
    exact wpAny_Expr_any (Y.2 hA O R fun p val ρ₁ s₁ e X=>h.next X.step e) hi (plain_swaps Y.1 (Bool.not_eq_true' _ ▸ hc))
  |If t a b pos=>exact wpAny_If (I.tst C (Hd.b e) hA O R fun p ρ₁ s₁ e S=>Hd.bif e (fun q e=>Eq.mpr (if_pos q) (wp_exs (I.ex C) hA O a e S.rel (h.aft S))) fun q e=>Eq.mpr (if_neg (q ▸ nofun)) (wp_exs (I.ex C) hA O b e S.rel (h.aft S)))
  |For t x b o pos=>exact Hd.nil e fun q e=>q ▸ wp_For (I.iter C) (I.bind C) (I.ex C) e hA O R h
  |While t b o pos=>exact Hd.nil e fun q e=>q ▸ wp_While (I.tst C) (I.ex C) e hA O R h
  |AugAssign t op x pos=>exact(Hd.b e).get fun y hy _=>let⟨p,q⟩:=name_of hy;by subst q;exact wp_Aug W I e hA O R h
  | Assign ts x pos=>
    match ts with
    |[]=>exact e.elim
    | [t]=>
      replace e:Hd (asg1 f C t x st) P:=e
      unfold asg1 at e
      refine e.el' (fun q hq e=>?_) fun hn e=>wp_Assign1 (I.ev C) (I.bind C) I.asc ((Hd.b e).get fun p hp e=> .of hp (Hd.m e)) hn hA O R h
      obtain⟨us,hu,hq⟩:=Option.bind_eq_some_iff.mp hq
      obtain⟨es,he,rfl⟩:=Option.map_eq_some_iff.mp hq
      obtain⟨k,p,rfl⟩:∃k p,t= .Tuple us k p:=by cases t<;>first |(cases hu;done) |(cases hu;exact⟨_,_,rfl⟩)
      obtain⟨k',p',rfl⟩:∃k p,x= .Tuple es k p:=by cases x<;>first |(cases he;done) |(cases he;exact⟨_,_,rfl⟩)
      exact wp_AssignTup I.bn (I.ev C) (I.bind C) e hA O R h
    | [t,u]=>
      replace e:Hd (asg2 f C t u x st) P:=e
      have ot:∀v∈[t,u],okT C v=true:=(Hd.b e).get fun p _ e=>(Hd.b e).get fun i _ e=>(Hd.b e).get fun st₁ h1 e=>(Hd.m e).get fun st₂ h2 _=>fun v hv=>(List.mem_cons.mp hv).elim (fun q=>q ▸ (I.bind C (.of h1 trivial:Hd _ fun _=>True)).1) fun hv=>List.mem_singleton.mp hv ▸ (I.bind C (.of h2 trivial:Hd _ fun _=>True)).1
      refine wpAny_Assign_two ((I.ev C (Hd.b e)).2 hA O R fun p val ρ₁ s₁ e X=>Hd.int (Hd.b e) X.vr fun i tk q e=>q ▸ (I.bind C (Hd.b e)).2 hA O X.step.rel (show VR K _ _ (.d (.int i)) _ from⟨tk,rfl⟩) fun st₂ ρ₂ s₂ e S₂=>(I.bind C (Hd.m e)).2 hA O S₂.rel (show VR K _ _ (.d (.int i)) _ from⟨tk,rfl⟩) fun st₃ ρ₃ s₃ e S₃=>h.next ((X.step.trans S₂ fun _ _ q=>q).trans S₃ fun _ _ q=>q) e) (by rw[assignEach_plain env ot];rfl) (by cases t<;>rfl)
    |_::_::_::_=>exact e.elim
  |Delete ts pos=>exact wp_Del W I e hA O R h
  |_=>exact e.elim
end
end Mine
end
section
open PySem PySem.W PyProof.Rows
namespace Mine
noncomputable def Zw (z TI TO i1 i2 b:Addr):Prop:=b=z∨b=TI∨b=TO∨b=i1∨b=i2
structure ZA (z TI TO i1 i2:Addr) (f1 f2:List Addr):Prop where
  TIz:TI≠z
  TOz:TO≠z
  i1z:i1≠z
  i2z:i2≠z
  TITO:TI≠TO
  TIi1:TI≠i1
  TIi2:TI≠i2
  TOi1:TO≠i1
  TOi2:TO≠i2
  f1:∀b∈i1::f1,b≠z∧b≠TO∧b≠i2
  f2:∀b∈i2::f2,b≠z∧b≠TO∧b≠i1
structure ZS (z TI TO i1 i2:Addr) (St1 St2:Nat→Heap→Prop) (k:Nat) (f:Value) (h:Heap):Prop where
  z:IsZip h z TI TO f
  TI:IsPair h TI (.ref i1) (.ref i2)
  TO:∃a b,IsPair h TO a b
  t1:St1 k h
  t2:St2 k h
noncomputable def Zk (z TO i1 i2:Addr) (h h':Heap):Prop:=∀c o,c≠z→c≠TO→c≠i1→c≠i2→h.get? c=some o→h'.get? c=some o
section
variable {prog:Program} {w:World} {A:Around} {E:Value→Shared→Prop} {s:Shared} {z TI TO i1 i2:Addr} {f1 f2:List Addr} {n1 n2 k:Nat} {P1 P2:Nat→Value→Prop} {St1 St2:Nat→Heap→Prop} {Q:Value→Shared→Prop}
theorem zip_next (D:ZA z TI TO i1 i2 f1 f2) (W1:Draws prog w A i1 (i1::f1) n1 P1 St1) (W2:Draws prog w A i2 (i2::f2) n2 P2 St2) (Z:ZS z TI TO i1 i2 St1 St2 k .none s.heap) (k1:k≤n1) (k2:k≤n2)
    (hQ:∀x y h' tk,k<n1→k<n2→P1 k x→P2 k y→ZS z TI TO i1 i2 St1 St2 (k+1) (rawInt s.heap.objs.size) h'→IsPair h' s.heap.objs.size x y→Zk z TO i1 i2 s.heap h'→Q (.ref s.heap.objs.size) {s with heap:=h',toks:=tk})
    (hE:∀h' e tk,k=n1∨k=n2→Zk z TO i1 i2 s.heap h'→(∃o,h'.get? e=some o∧o.cls= .type "StopIteration")→E (.ref e) {s with heap:=h',toks:=tk}):
    wpAny (model prog w) A (Builtin.«zip.__next__» ⟨[.ref z],[]⟩) (fun fin s'=>∃v,fin= .done (.ret v)∧Q v s') E s:=by
  obtain⟨hz,hTI,⟨a,b,hTO⟩,t1,t2⟩:=Z
  show wpAny _ _ (field (.ref z) 2>>=_) _ _ _
  refine wpAny_bind (wpAny_field hz rfl (x:= .bool false) rfl ?_)
  show wpAny _ _ (field (.ref z) 3>>=_) _ _ _
  refine wpAny_bind (wpAny_field hz rfl (x:= .ref TI) rfl ?_)
  refine wpAny_bind (wpAny_seqItems hTI rfl ?_)
  show wpAny _ _ (Builtin.SmallTypes.ownedTupleIsFree (.ref z)>>=_) _ _ _
  refine wpAny_bind ?_
  unfold Builtin.SmallTypes.ownedTupleIsFree
  refine wpAny_bind (wpAny_field hz rfl (x:= .none) rfl (wpAny_pure ?_))
  show wpAny _ _ (rule _>>=_) _ _ _
  refine wpAny_bind (wpAny_rule ?_)
  refine wpAny_bind (wpAny_field hz rfl (x:= .ref TO) rfl ?_)
  refine wpAny_bind (wpAny_setField_rec hz (by simp) fun h₁ hz₁ hs₁=>?_)
  replace hz₁:IsZip h₁ z TI TO .ellipsis:=hz₁
  refine wpAny_bind ?_
  have e1:∀{b o},b≠z→s.heap.get? b=some o→h₁.get? b=some o:=fun n e=>hs₁.extBut _ _ n e
  have t1:St1 k h₁:=W1.frame _ _ _ t1 fun b hb o e=>e1 (D.f1 b hb).1 e
  have t2:St2 k h₁:=W2.frame _ _ _ t2 fun b hb o e=>e1 (D.f2 b hb).1 e
  refine wpAny_bind (wpAny_bind (wpAny_onRaise ?_))
  show wpAny _ _ (Builtin.SmallTypes.nextOf (.ref i1)>>=_) _ _ _
  refine wpAny_bind ?_
  have fin:∀{h e tk},(k=n1∨k=n2)→IsZip h z TI TO .ellipsis→Zk z TO i1 i2 s.heap h→(∃o,h.get? e=some o∧o.cls= .type "StopIteration")→wpAny (model prog w) A (setField (.ref z) 0 .none) (fun _ s'=>E (.ref e) s') E {s with heap:=h,toks:=tk}:=fun q hz hk ⟨oe,hoe,hc⟩=>
    wpAny_setField_rec hz (by simp) fun h' _ hs=>hE h' _ _ q (fun c o c1 c2 c3 c4 x=>hs.extBut _ _ c1 (hk c o c1 c2 c3 c4 x)) ⟨oe,hs.extBut _ _ (fun x=>by subst x;rw[hz]at hoe;cases hoe;simp at hc) hoe,hc⟩
  rcases Nat.lt_or_eq_of_le k1 with l1 |rfl
  case inr=>exact W1.done _ _ _ t1 fun h₂ e hs₂ he=>fin (.inl rfl) (hs₂ _ _ D.i1z.symm hz₁) (fun c o c1 _ c3 _ x=>hs₂ _ _ c3 (e1 c1 x)) he
  refine W1.item k _ _ _ l1 t1 fun x h₂ tk₂ p1 t1 hs₂=>wpAny_pure ?_
  have t2:St2 k h₂:=W2.frame _ _ _ t2 fun b hb o e=>hs₂.extBut b o (D.f2 b hb).2.2 e
  have hTO:IsPair h₂ TO a b:=hs₂.extBut _ _ D.TOi1 (e1 D.TOz hTO)
  refine wpAny_bind (wpAny_seqItems hTO rfl ?_)
  refine wpAny_bind (wpAny_updateSeq_pair hTO fun h₃ hTO hs₃=>?_)
  replace hTO:IsPair h₃ TO x b:=hTO
  refine wpAny_bind (wpAny_letGo (wpAny_pure ?_))
  have t1:St1 (k+1) h₃:=W1.frame _ _ _ t1 fun b hb o e=>hs₃.extBut b o (D.f1 b hb).2.1 e
  have t2:St2 k h₃:=W2.frame _ _ _ t2 fun b hb o e=>hs₃.extBut b o (D.f2 b hb).2.1 e
  have e3:∀{b o},b≠z→b≠TO→b≠i1→s.heap.get? b=some o→h₃.get? b=some o:=fun n1 n2 n3 e=>hs₃.extBut _ _ n2 (hs₂.extBut _ _ n3 (e1 n1 e))
  have hz₃:IsZip h₃ z TI TO .ellipsis:=hs₃.extBut _ _ D.TOz.symm (hs₂.extBut _ _ D.i1z.symm hz₁)
  refine wpAny_bind (wpAny_bind (wpAny_onRaise ?_))
  show wpAny _ _ (Builtin.SmallTypes.nextOf (.ref i2)>>=_) _ _ _
  refine wpAny_bind ?_
  rcases Nat.lt_or_eq_of_le k2 with l2 |rfl
  case inr=>exact W2.done _ _ _ t2 fun h₄ e hs₄ he=>fin (.inr rfl) (hs₄ _ _ D.i2z.symm hz₃) (fun c o c1 c2 c3 c4 x=>hs₄ _ _ c4 (e3 c1 c2 c3 x)) he
  refine W2.item k _ _ _ l2 t2 fun y h₄ tk₄ p2 t2 hs₄=>wpAny_pure ?_
  have t1:St1 (k+1) h₄:=W1.frame _ _ _ t1 fun b hb o e=>hs₄.extBut b o (D.f1 b hb).2.2 e
  have hTO:IsPair h₄ TO x b:=hs₄.extBut _ _ D.TOi2 hTO
  refine wpAny_bind (wpAny_seqItems hTO rfl ?_)
  refine wpAny_bind (wpAny_updateSeq_pair hTO fun h₅ hTO hs₅=>?_)
  replace hTO:IsPair h₅ TO x y:=hTO
  refine wpAny_bind (wpAny_letGo (wpAny_pure (wpAny_pure ?_)))
  refine wpAny_bind (wpAny_seqItems hTO rfl ?_)
  refine wpAny_bind (wpAny_newTuple ?_)
  have hsz:h₅.objs.size=s.heap.objs.size:=hs₅.1.trans (hs₄.1.trans (hs₃.1.trans (hs₂.1.trans hs₁.1)))
  have hz₅:IsZip h₅ z TI TO .ellipsis:=hs₅.extBut _ _ D.TOz.symm (hs₄.extBut _ _ D.i2z.symm hz₃)
  have e5:∀{c o},c≠z→c≠TO→c≠i1→c≠i2→s.heap.get? c=some o→h₅.get? c=some o:=fun c1 c2 c3 c4 e=>hs₅.extBut _ _ c2 (hs₄.extBut _ _ c4 (e3 c1 c2 c3 e))
  have hlt:=Nat.ne_of_gt (Heap.lt_size hz₅)
  show wpAny _ _ (Builtin.SmallTypes.ownedTupleHandOut (.ref z) (.ref h₅.objs.size)>>=_) _ _ _
  refine wpAny_bind ?_
  unfold Builtin.SmallTypes.ownedTupleHandOut
  have hz₆:IsZip (h₅.push {cls:= .type "tuple",data:= .seq #[x,y]}) z TI TO .ellipsis:=Heap.get?_push_of_some _ hz₅
  refine wpAny_bind (wpAny_setField_rec hz₆ (by simp) fun h₇ hz₇ hs₇=>?_)
  replace hz₇:IsZip h₇ z TI TO (rawInt h₅.objs.size):=hz₇
  refine wpAny_setField_rec hz₇ (by simp) fun h₈ hz₈ hs₈=>?_
  replace hz₈:IsZip h₈ z TI TO (rawInt h₅.objs.size):=hz₈
  have up:∀{c o},c≠z→h₅.get? c=some o→h₈.get? c=some o:=fun c1 e=>hs₈.extBut _ _ c1 (hs₇.extBut _ _ c1 (Heap.get?_push_of_some _ e))
  have hT:IsPair h₈ h₅.objs.size x y:=hs₈.extBut _ _ hlt (hs₇.extBut _ _ hlt (Heap.get?_push_size _ rfl))
  refine wpAny_pure ⟨_,rfl,?_⟩
  show Q (.ref h₅.objs.size) _
  rw[hsz]at hz₈ hT ⊢
  exact hQ x y h₈ _ l1 l2 p1 p2 ⟨hz₈,up D.TIz (e5 D.TIz D.TITO D.TIi1 D.TIi2 hTI),⟨_,_,up D.TOz hTO⟩,W1.frame _ _ _ t1 fun b hb o e=>up (D.f1 b hb).1 (hs₅.extBut b o (D.f1 b hb).2.1 e),
    W2.frame _ _ _ t2 fun b hb o e=>up (D.f2 b hb).1 (hs₅.extBut b o (D.f2 b hb).2.1 e)⟩ hT fun c o c1 c2 c3 c4 e=>up c1 (e5 c1 c2 c3 c4 e)
end
end Mine
end
section
open PySem PySem.W PyProof.Rows
namespace Mine
theorem zipD_get:∀{xs ys:List PyData} {j:Nat},(zipD xs ys)[j]?=(xs[j]?).bind fun a=>(ys[j]?).map fun b=> .tuple [a,b]
  |[],ys,j=>rfl
  |x::xs,[],j=>by cases h:(x::xs)[j]?<;>rfl
  |x::xs,y::ys,0=>rfl
  |x::xs,y::ys,j+1=>zipD_get (xs:=xs)
structure ZT (z TI TO i1 i2:Addr) (f1 f2:List Addr) (xs ys:List PyData) (P1 P2:Nat→Value→Prop) (St1 St2:Nat→Heap→Prop) (f:Value) (j:Nat) (ρ:Rho) (h:Heap):Prop where
  l1:j≤xs.length
  l2:j≤ys.length
  s:ZS z TI TO i1 i2 St1 St2 j f h
  hid:∀b,Zw z TI TO i1 i2 b→ρ.k b= .hid
  foot:∀b,b∈f1∨b∈f2→∃o,Fz h ρ b o
  d1:∀{k x v},xs[k]?=some x→P1 k v→Rd (Fz h ρ) x v
  d2:∀{k x v},ys[k]?=some x→P2 k v→Rd (Fz h ρ) x v
structure ZIn (h:Heap) (ρ:Rho) (v:Value) (xs:List PyData) (o:Obj) (fp:List Addr) (P:Nat→Value→Prop) (St:Addr→Nat→Heap→Prop):Prop where
  iter:∀{prog:Program} {w:World} {A:Around} {s:Shared} {Q:Value→Shared→Prop} {E:Value→Shared→Prop},Up h s.heap→Q (.ref s.heap.objs.size) {s with heap:=s.heap.push o}→wpAny (model prog w) A (pyIter v) Q E s
  draws:∀{prog:Program} {w:World} {A:Around} {i:Addr},A.handled=none→(∀b∈fp,b≠i)→Draws prog w A i (i::fp) xs.length P (St i)
  init:∀{h':Heap} {i:Addr},h'.get? i=some o→Up h h'→St i 0 h'
  foot:∀b∈fp,∃o,Fz h ρ b o
  data:∀{k x v},xs[k]?=some x→P k v→Rd (Fz h ρ) x v
  freed:o.isFreed=false
section
variable {prog:Program} {w:World} {A:Around} {E:Value→Shared→Prop} {s:Shared} {z TI TO i1 i2:Addr} {f1 f2:List Addr} {n1 n2 k:Nat} {P1 P2:Nat→Value→Prop} {St1 St2:Nat→Heap→Prop}
theorem zip_py {Q:Option Value→Shared→Prop} (D:ZA z TI TO i1 i2 f1 f2) (W1:∀A:Around,A.handled=none→Draws prog w A i1 (i1::f1) n1 P1 St1) (W2:∀A:Around,A.handled=none→Draws prog w A i2 (i2::f2) n2 P2 St2) (hA:A.handled=none)
    (Z:ZS z TI TO i1 i2 St1 St2 k .none s.heap) (k1:k≤n1) (k2:k≤n2)
    (hQ:∀x y h' tk,k<n1→k<n2→P1 k x→P2 k y→ZS z TI TO i1 i2 St1 St2 (k+1) (rawInt s.heap.objs.size) h'→IsPair h' s.heap.objs.size x y→Zk z TO i1 i2 s.heap h'→Q (some (.ref s.heap.objs.size)) {s with heap:=h',toks:=tk})
    (hE:∀h' tk,k=n1∨k=n2→Zk z TO i1 i2 s.heap h'→Q none {s with heap:=h',toks:=tk}):wpAny (model prog w) A (pyNext (.ref z)) Q E s:=by
  have hT:s.TypeIs (.ref z) "zip":=⟨_,Z.z,rfl⟩
  unfold pyNext
  exact wpAny_bind (wpAny_attempt (wpAny_callSpecial?_slot (name:=Str.ofString "__next__") hT F.slot_zip_next (wpAny_call_entry F.slot_zip_next hT F.entry_zip_next (zip_next D (W1 _ hA) (W2 _ hA) Z k1 k2
    (fun x y h' tk l1 l2 p1 p2 Z' T' K=>wpAny_pure (hQ x y h' tk l1 l2 p1 p2 Z' T' K)) fun h' e tk q K ⟨o,ho,hc⟩=>wpAny_bind (wpAny_isInstance (T:="StopIteration") (b:=true) ⟨o,ho,hc⟩ isSubtype_stop (wpAny_pure (hE h' tk q K)))) (F.args_zip_next_1 _))))
variable {xs ys:List PyData} {f f':Value} {j:Nat} {ρ ρ':Rho} {h h':Heap} {K:Ctx0}
theorem ZT.upd (W1:Draws prog w A i1 (i1::f1) n1 P1 St1) (W2:Draws prog w A i2 (i2::f2) n2 P2 St2) (D:ZA z TI TO i1 i2 f1 f2) (t:ZT z TI TO i1 i2 f1 f2 xs ys P1 P2 St1 St2 f j ρ h) (hw:∀b o,Zw z TI TO i1 i2 b→b≠z→h.get? b=some o→h'.get? b=some o)
    (hz:IsZip h' z TI TO f') (hid:∀b,Zw z TI TO i1 i2 b→ρ'.k b= .hid) (fz:∀{b o},Fz h ρ b o→Fz h' ρ' b o):ZT z TI TO i1 i2 f1 f2 xs ys P1 P2 St1 St2 f' j ρ' h':=by
  obtain⟨l1,l2,⟨-,hTI,⟨a,b,hTO⟩,t1,t2⟩,-,ft,d1,d2⟩:=t
  have fp:∀{b o},b∈f1∨b∈f2→h.get? b=some o→h'.get? b=some o:=fun q e=>let⟨_,g⟩:=ft _ q;(fz ⟨g.1,e⟩).2
  exact⟨l1,l2,⟨hz,hw _ _ (.inr (.inl rfl)) D.TIz hTI,⟨a,b,hw _ _ (.inr (.inr (.inl rfl))) D.TOz hTO⟩,W1.frame _ _ _ t1 fun b hb o e=>(List.mem_cons.mp hb).elim (fun q=>hw b o (.inr (.inr (.inr (.inl q)))) (q ▸ D.i1z) e) fun q=>fp (.inl q) e,
    W2.frame _ _ _ t2 fun b hb o e=>(List.mem_cons.mp hb).elim (fun q=>hw b o (.inr (.inr (.inr (.inr q)))) (q ▸ D.i2z) e) fun q=>fp (.inr q) e⟩,hid,fun b q=>let⟨o,g⟩:=ft b q;⟨o,fz g⟩,fun hx hp=>(d1 hx hp).mono fz,fun hx hp=>(d2 hx hp).mono fz⟩
theorem ZS.live (W1:Draws prog w A i1 (i1::f1) n1 P1 St1) (W2:Draws prog w A i2 (i2::f2) n2 P2 St2) (Z:ZS z TI TO i1 i2 St1 St2 k f h) {b:Addr} (q:Zw z TI TO i1 i2 b):Live h b:=
  q.elim (fun q=>q ▸ ⟨_,Z.z⟩) fun q=>q.elim (fun q=>q ▸ ⟨_,Z.TI⟩) fun q=>q.elim (fun q=>q ▸ let⟨_,_,e⟩:=Z.TO;⟨_,e⟩) fun q=>q.elim (fun q=>q ▸ W1.live _ _ Z.t1) fun q=>q ▸ W2.live _ _ Z.t2
theorem Zk.out (k:Zk z TO i1 i2 h h') {b:Addr} {o:Obj} (n:¬Zw z TI TO i1 i2 b) (e:h.get? b=some o):h'.get? b=some o:=
  k b o (fun q=>n (.inl q)) (fun q=>n (.inr (.inr (.inl q)))) (fun q=>n (.inr (.inr (.inr (.inl q))))) (fun q=>n (.inr (.inr (.inr (.inr q))))) e
theorem Gen.zip (D:ZA z TI TO i1 i2 f1 f2) (W1:∀A:Around,A.handled=none→Draws prog w A i1 (i1::f1) xs.length P1 St1) (W2:∀A:Around,A.handled=none→Draws prog w A i2 (i2::f2) ys.length P2 St2):
    Gen prog w K (.zip (zipD xs ys)) z (Zw z TI TO i1 i2) (ZT z TI TO i1 i2 f1 f2 xs ys P1 P2 St1 St2 .none) (fun j v ρ h=>∃T,v= .ref T∧ZT z TI TO i1 i2 f1 f2 xs ys P1 P2 St1 St2 (rawInt T) j ρ h):=by
  have w1:=W1 ⟨none,0,none,none,0⟩ rfl
  have w2:=W2 ⟨none,0,none,none,0⟩ rfl
  refine⟨fun t a q=>⟨t.hid a q,t.s.live w1 w2 q⟩,fun t M n=>t.upd w1 w2 D (fun b o q _ e=>(M.hid (t.hid b q) e (n b q)).2) (M.hid (t.hid z (.inl rfl)) t.s.z (n z (.inl rfl))).2 (fun b q=>let⟨o,e⟩:=t.s.live w1 w2 q;(M.hid (t.hid b q) e (n b q)).1) M.fz,?_,?_,?_,fun hA t hQ=>wpAny_pyIter_zip t.s.z hQ⟩
  · intro A C env st ρ s j x Q E hA R t e hQ
    obtain⟨x1,h1,e⟩:=Option.bind_eq_some_iff.mp (zipD_get.symm.trans (Option.some.inj e))
    obtain⟨x2,h2,rfl⟩:=Option.map_eq_some_iff.mp e
    have j1:=(List.getElem?_eq_some_iff.mp h1).1
    have j2:=(List.getElem?_eq_some_iff.mp h2).1
    refine zip_py D W1 W2 hA t.s t.l1 t.l2 (fun u v h' tk _ _ p1 p2 Z T' K=>?_) fun h' tk q _=>(q.elim (Nat.ne_of_lt j1) (Nat.ne_of_lt j2)).elim
    have S:Step _ C env st (Zw z TI TO i1 i2) ρ s ρ {s with heap:=h',toks:=tk}:=R.wrote t.hid (fun b o n=>K.out n) fun b q=>Z.live w1 w2 q
    have d1:=(t.d1 h1 p1).mono S.mv.fz
    have d2:=(t.d2 h2 p2).mono S.mv.fz
    exact hQ _ _ S ⟨rfl,⟨R.w.new not_live_size,T'⟩,rfl,rfl,Rds.cons d1 (Rds.one d2),rfl⟩ ⟨_,rfl,j1,j2,Z,t.hid,fun b q=>let⟨o,g⟩:=t.foot b q;⟨o,S.mv.fz g⟩,fun hx hp=>(t.d1 hx hp).mono S.mv.fz,fun hx hp=>(t.d2 hx hp).mono S.mv.fz⟩
  · intro A C env st ρ s j Q E hA R t e hQ
    have e:=zipD_get.symm.trans (Option.some.inj e)
    refine zip_py D W1 W2 hA t.s t.l1 t.l2 (fun u v h' tk j1 j2 p1 p2 Z T' K=>?_) fun h' tk q k=>hQ h' tk fun b o n=>k.out n
    rw[List.getElem?_eq_getElem j1,List.getElem?_eq_getElem j2]at e
    cases e
  · intro A C env st ρ s j target v Q E R t ht hQ
    obtain⟨T,rfl,t⟩:=t
    cases target with
    | Tuple elts k p=>
      refine wpAny_letOwnedTupleGo_zip t.s.z fun h' hz hs=>?_
      have S:Step K C env st (Zw z TI TO i1 i2) ρ s ρ {s with heap:=h',toks:=s.toks}:=R.wrote t.hid (fun b o n e=>(hs.2 b fun q=>n (.inl q)).trans e) fun b q=>live_but hs ⟨_,hz⟩ b (t.s.live w1 w2 q)
      exact hQ _ S (t.upd w1 w2 D (fun b o _ n e=>(hs.2 b n).trans e) hz t.hid S.mv.fz)
    |_=>cases ht
end
end Mine
end
section
open PySem PySem.W PyProof.Rows
namespace Mine
theorem zin {h:Heap} {ρ:Rho} {x:PyData} {v:Value} {P:List PyData→Prop} {T:Prop} (e:Hd (zipD? x) P) (r:Rd (Fz h ρ) x v) (k:∀xs o fp Pp St,P xs→ZIn h ρ v xs o fp Pp St→T):T:=by
  cases x with
  | list xs=>
    obtain @⟨a,o,items,n,rfl,f,c,d,q,-⟩:=(show LA (Fz h ρ) "list" (Rds (Fz h ρ) xs) v from r)
    refine k xs {cls:= .type "list_iterator",data:= .fields #[.ref a,.int 0 0]} [a] (fun i v=>items[i]?=some v) (fun i k h=>h.IsListIter i a k∧h.IsList a items) e ⟨fun hk hq=>wpAny_pyIter_list ⟨o,hk _ _ f.2,c,n,d⟩ hq,fun {prog w A i} hA hf=>?_,fun e hk=>⟨⟨_,e,rfl,rfl⟩,⟨o,hk _ _ f.2,c,n,d⟩⟩,fun b hb=>List.mem_singleton.mp hb ▸ ⟨o,f⟩,fun hx hp=>q.at_ hx hp,rfl⟩
    exact q.size ▸ Draws.list hA i a (hf a List.mem_cons_self) items
  | str x=>
    obtain⟨t,rfl⟩:=r
    refine k _ {cls:= .type (strIterType x),data:= .fields #[.str x t,.int 0 0]} [] (SignAt x) (fun i k h=>h.IsStrIter i (strIterType x) x t k) e ⟨fun _ hq=>wpAny_pyIter_strU hq,fun {prog w A i} hA _=>?_,fun e _=>⟨_,e,rfl,rfl⟩,nofun,sign_at,rfl⟩
    rw[←sign_size]
    unfold strIterType
    cases x.cps.all (·<128)
    · exact Draws.strWide hA i x t
    · exact Draws.strAscii hA i x t
  |_=>exact e.elim
noncomputable abbrev zA2 (h:Heap) (o1 o2:Obj):Heap:=(h.push o1).push o2
noncomputable abbrev zA3 (h:Heap) (o1 o2:Obj):Heap:=(zA2 h o1 o2).push {cls:= .type "tuple",data:= .seq #[.ref h.objs.size,.ref (h.push o1).objs.size]}
noncomputable abbrev zA4 (h:Heap) (o1 o2:Obj):Heap:=(zA3 h o1 o2).push {cls:= .type "tuple",data:= .seq #[.none,.none]}
noncomputable abbrev zA5 (h:Heap) (o1 o2:Obj):Heap:=(zA4 h o1 o2).push {cls:= .type "zip",data:= .fields #[.none,.bool false,.bool false,.ref (zA2 h o1 o2).objs.size,.ref (zA3 h o1 o2).objs.size]}
theorem meets_zipM {h₀:Heap} {ρ:Rho} {v1 v2:Value} {xs ys o1 o2 f1 f2 P1 P2 St1 St2} (Z1:ZIn h₀ ρ v1 xs o1 f1 P1 St1) (Z2:ZIn h₀ ρ v2 ys o2 f2 P2 St2):
    Meets (Builtin.«zip.__new__» ⟨[.type "zip",v1,v2],[]⟩) (fun _ R s=>Up h₀ s.heap∧R (.ok (.ret (.ref (zA4 s.heap o1 o2).objs.size))) {s with heap:=zA5 s.heap o1 o2}):=
  .of_wp fun prog w A R s h=>by
    obtain⟨hp,g,d,tk,os⟩:=s
    obtain⟨hk,h⟩:=h
    have hsub:=sub_zip
    have i1:∀{A:Around} {Q:Value→Shared→Prop} {E:Value→Shared→Prop},Q (.ref hp.objs.size) ⟨hp.push o1,g,d,tk,os⟩→wpAny (model prog w) A (pyIter v1) Q E ⟨hp,g,d,tk,os⟩:=fun q=>Z1.iter hk q
    have i2:∀{A:Around} {Q:Value→Shared→Prop} {E:Value→Shared→Prop},Q (.ref (hp.push o1).objs.size) ⟨(hp.push o1).push o2,g,d,tk,os⟩→wpAny (model prog w) A (pyIter v2) Q E ⟨hp.push o1,g,d,tk,os⟩:=fun q=>Z2.iter (fun b o e=>Up.push _ _ _ (hk b o e)) q
    wp_walk using i1,i2
    exact⟨_,rfl,h⟩
theorem new_ne {h:Heap} {a:Addr} (l:Live h a):a≠h.objs.size:=fun q=>not_live_size (q ▸ l)
section
variable {prog:Program} {w:World} {G:Env'} {K:Ctx0} {fa:Str→Addr} {A:Around} {E:Value→Shared→Prop} {C:Cx} {env:Env} {st:St} {ρ:Rho} {s:Shared} {n:Nat} {f:Fs} {pos:Pos} {P:It×St→Prop} {Q:Value→Shared→Prop} {xs ys:List PyData} {f1 f2:List Addr} {P1 P2:Nat→Value→Prop} {St1 St2:Addr→Nat→Heap→Prop} {v1 v2:Value} {o1 o2:Obj}
theorem Rel.pushH {h:Heap} {o:Obj} (R:Rel K C env st ρ {s with heap:=h}) (hf:o.isFreed=false):Step K C env st No ρ {s with heap:=h} (ρ.set h.objs.size .hid) {s with heap:=h.push o}∧(ρ.set h.objs.size .hid).k h.objs.size= .hid∧(h.push o).get? h.objs.size=some o:=
  ⟨R.hide (h':=h.push o) (t:=s.toks) not_live_size (.push o) ⟨_,Heap.get?_push_size _ hf⟩,set_self,Heap.get?_push_size _ hf⟩
theorem zip_new (R:Rel K C env st ρ s) (Z1:ZIn s.heap ρ v1 xs o1 f1 P1 St1) (Z2:ZIn s.heap ρ v2 ys o2 f2 P2 St2) (e:P (.zip (zipD xs ys),st)) (h:PostI prog w K C env P ρ s Q):
    wpAny (model prog w) A (PySem.call (.type "zip") [v1,v2]) (fun xv s₁=>wpAny (model prog w) A (pyIter xv) Q E s₁) E s:=by
  refine callType_new F.called_zip (by decide) (F.typeCall_zip_2 _ _) (F.newCall_zip_2 _ _) (fun obj=>F.args_object_init_3 obj _ _) F.entry_zip_new (meets_zipM Z1 Z2) ⟨fun _ _ e=>e,?_⟩
  obtain⟨S1,a1⟩:=Rel.pushH (h:=s.heap) R Z1.freed
  obtain⟨S2,a2⟩:=S1.rel.pushH Z2.freed
  obtain⟨S3,a3⟩:=S2.rel.pushH (o:={cls:= .type "tuple",data:= .seq #[.ref s.heap.objs.size,.ref (s.heap.push o1).objs.size]}) rfl
  obtain⟨S4,a4⟩:=S3.rel.pushH (o:={cls:= .type "tuple",data:= .seq #[.none,.none]}) rfl
  obtain⟨S5,a5⟩:=S4.rel.pushH (o:={cls:= .type "zip",data:= .fields #[.none,.bool false,.bool false,.ref (zA2 s.heap o1 o2).objs.size,.ref (zA3 s.heap o1 o2).objs.size]}) rfl
  have b1:=S2.mv.hid a1.1 a1.2 id
  have c1:=S3.mv.hid b1.1 b1.2 id
  have c2:=S3.mv.hid a2.1 a2.2 id
  have d1:=S4.mv.hid c1.1 c1.2 id
  have d2:=S4.mv.hid c2.1 c2.2 id
  have d3:=S4.mv.hid a3.1 a3.2 id
  have e1:=S5.mv.hid d1.1 d1.2 id
  have e2:=S5.mv.hid d2.1 d2.2 id
  have e3:=S5.mv.hid d3.1 d3.2 id
  have e4:=S5.mv.hid a4.1 a4.2 id
  have S:=(((S1.aft S2).aft S3).aft S4).aft S5
  have new:=fun {h:Heap} (up:Up s.heap h) (l:Live s.heap h.objs.size)=>not_live_size (h:=h) (let⟨o,q⟩:=l;⟨o,up _ _ q⟩)
  have u1:Up s.heap (s.heap.push o1):=Up.push _
  have u2:Up s.heap (zA2 s.heap o1 o2):=fun b o e=>Up.push _ _ _ (u1 b o e)
  have u3:Up s.heap (zA3 s.heap o1 o2):=fun b o e=>Up.push _ _ _ (u2 b o e)
  have u4:Up s.heap (zA4 s.heap o1 o2):=fun b o e=>Up.push _ _ _ (u3 b o e)
  have u5:Up s.heap (zA5 s.heap o1 o2):=fun b o e=>Up.push _ _ _ (u4 b o e)
  have ft:∀b,b∈f1∨b∈f2→∃o,Fz s.heap ρ b o:=fun b q=>q.elim (Z1.foot b) (Z2.foot b)
  have nz:∀{b},Live (zA2 s.heap o1 o2) b→b≠(zA4 s.heap o1 o2).objs.size∧b≠(zA3 s.heap o1 o2).objs.size:=fun⟨o,q⟩=>⟨new_ne ⟨o,Up.push _ _ _ (Up.push _ _ _ q)⟩,new_ne ⟨o,Up.push _ _ _ q⟩⟩
  have l1:∀b∈s.heap.objs.size::f1,Live (s.heap.push o1) b:=fun b hb=>(List.mem_cons.mp hb).elim (fun q=>q ▸ ⟨_,a1.2⟩) fun q=>let⟨o,e⟩:=ft b (.inl q);⟨o,u1 _ _ e.2⟩
  have l2:∀b∈(s.heap.push o1).objs.size::f2,Live (zA2 s.heap o1 o2) b∧b≠s.heap.objs.size:=fun b hb=>(List.mem_cons.mp hb).elim (fun q=>q ▸ ⟨⟨_,a2.2⟩,(new_ne ⟨_,a1.2⟩).symm⟩) fun q=>let⟨o,e⟩:=ft b (.inr q);⟨⟨o,u2 _ _ e.2⟩,new_ne ⟨o,e.2⟩⟩
  have m1:=nz ⟨_,b1.2⟩
  have m2:=nz ⟨_,a2.2⟩
  refine⟨⟨_,a5.2,rfl⟩,wpAny_pyIter_zip a5.2 (h _ _ _ _ _ _ _ e (Gen.zip ⟨new_ne ⟨_,d3.2⟩,new_ne ⟨_,a4.2⟩,m1.1,m2.1,new_ne ⟨_,a3.2⟩,(new_ne ⟨_,b1.2⟩).symm,(new_ne ⟨_,a2.2⟩).symm,m1.2.symm,m2.2.symm,
      fun b hb=>let l:=l1 b hb;let⟨q1,q2⟩:=nz (let⟨o,e⟩:=l;⟨o,Up.push _ _ _ e⟩);⟨q1,q2,new_ne l⟩,fun b hb=>let⟨l,q3⟩:=l2 b hb;let⟨q1,q2⟩:=nz l;⟨q1,q2,q3⟩⟩
      (fun A hA=>Z1.draws hA fun b hb=>new_ne (let⟨o,e⟩:=Z1.foot b hb;⟨o,e.2⟩)) (fun A hA=>Z2.draws hA fun b hb=>new_ne (let⟨o,e⟩:=Z2.foot b hb;⟨o,u1 _ _ e.2⟩)))
    ⟨Nat.zero_le _,Nat.zero_le _,⟨a5.2,e3.2,⟨_,_,e4.2⟩,Z1.init e1.2 u5,Z2.init e2.2 u5⟩,fun b q=>q.elim (fun q=>q ▸ a5.1) fun q=>q.elim (fun q=>q ▸ e3.1) fun q=>q.elim (fun q=>q ▸ e4.1) fun q=>q.elim (fun q=>q ▸ e1.1) fun q=>q ▸ e2.1,fun b q=>let⟨o,g⟩:=ft b q;⟨o,S.mv.fz g⟩,fun hx hp=>(Z1.data hx hp).mono S.mv.fz,fun hx hp=>(Z2.data hx hp).mono S.mv.fz⟩ S
    fun b q=>q.elim (fun q=>q ▸ new u4) fun q=>q.elim (fun q=>q ▸ new u2) fun q=>q.elim (fun q=>q ▸ new u3) fun q=>q.elim (fun q=>q ▸ not_live_size) fun q=>q ▸ new u1)⟩
theorem wp_zip (W:Wd prog w K G fa) {p:Pos} {args:List Expr} (IE:SE prog w K n C (f.ev C)) (hk:C.sc.names.lookup ("zip":Str)=some .globalImplicit) (e:Hd ((evs (f.ev C) args st).bind fun p=>(rd0s p.1).bind fun l=>two l fun a b=>(zipD? a).bind fun xs=>(zipD? b).map fun ys=>(.zip (zipD xs ys),p.2)) P)
    (hA:AOK A n) (O:EnvOK K C env) (R:Rel K C env st ρ s) (h:PostI prog w K C env P ρ s Q):wpAny (model prog w) A (eval (.Call (.Name "zip" p) args [] pos) env) (fun xv s₁=>wpAny (model prog w) A (pyIter xv) Q E s₁) E s:=
  wpAny_Call_NameR (wpAny_Name (W.N.load O R hk (.inr W.zip) (PySem.callWith_type (plain_args (fun e=>(IE e).1) (Hd.b e)).1 (wp_args IE (Hd.b e) hA O R fun p vals ρ₁ s₁ e X=>X.data (Hd.b e) fun l ρ₂ e S ds=>Hd.two e fun a b q e=>by
    subst q
    obtain⟨v1,_,rfl,r1,v2,_,rfl,r2,rfl⟩:=ds
    exact zin (Hd.b e) r1 fun xs o1 f1 P1 St1 e Z1=>zin (Hd.m e) r2 fun ys o2 f2 P2 St2 e Z2=>zip_new S.rel Z1 Z2 e (h.aft S)))) (by decide))
end
end Mine
end
section
open PySem PySem.W PyProof.Rows
namespace Mine
theorem entry_items_iter:entryFor table "dict_itemiterator.__iter__"=some Builtin.«dict_keyiterator.__iter__»:=
  entryFor_alias (id':="dict_keyiterator.__iter__") ⋯ rfl (by decide+kernel) ⋯
theorem args_items_iter (a:Value):argsOk "dict_itemiterator.__iter__" ⟨[a],[]⟩:=by unfold argsOk;rfl'
noncomputable def d0 (ep:Nat):Obj:={cls:= .type "dict",data:= .dict #[] ep}
structure IT (I d:Addr) (ep:Nat) (ρ:Rho) (h:Heap):Prop where
  it:IsItemIter h I d 0 0 ep .none .none
  k:ρ.k I= .hid
  d:Fz h ρ d (d0 ep)
section
variable {prog:Program} {w:World} {G:Env'} {K:Ctx0} {fa:Str→Addr} {A:Around} {E:Value→Shared→Prop} {C:Cx} {env:Env} {st:St} {ρ:Rho} {s:Shared} {n:Nat} {f:Fs} {pos:Pos} {P:It×St→Prop} {Q:Value→Shared→Prop}
theorem dictAt0 {h:Heap} {d:Addr} {ep:Nat} (e:h.get? d=some (d0 ep)):h.DictAt (strKind prog w) d [] ep:=
  ⟨_,#[],e,⟨rfl,rfl,rfl⟩,rfl,fun e he=>absurd he (Array.not_mem_empty e),.nil,by simp⟩
theorem Gen.items {I d:Addr} {ep:Nat}:Gen prog w K (.vals []) I (·=I) (fun _=>IT I d ep) fun _ _=>IT I d ep:=by
  refine⟨fun t a q=>q ▸ ⟨t.k,_,t.it⟩,fun t M n=>⟨(M.hid t.k t.it (n I rfl)).2,(M.hid t.k t.it (n I rfl)).1,M.fz t.d⟩,fun _ _ _ e=>(nomatch Option.some.inj e),?_,?_,?_⟩
  · exact fun {A C env st ρ s j Q E} hA R t e hQ=>wpAny_pyNext_items_end (knd:=strKind prog w) (kvs:=[]) hA t.it (dictAt0 t.d.2) rfl fun h' he=>hQ h' s.toks fun b o n e=>he b o n e
  · intro A C env st ρ s j target v Q E R t ht hQ
    have h0:wpAny (model prog w) A (pure ()) Q E s:=wpAny_pure (hQ s (R.stay fun b q=>q ▸ t.k) t)
    unfold letOwnedTupleGo
    have key:wpAny (model prog w) A (do
        let(.ref r,.ref a):=((.ref I:Value),v) |return
        let o←load r
        match o.cls,o.data with
        | .type n,.fields vs=>
          if tupIters.contains n&&vs[0]?==some (rawInt a)then
            rule "for.unpacks-the-owned-tuple"
            updateField r 0 .none
        |_,_=>pure ()) Q E s:=by
      cases v with
      | ref a=>
        dsimp only
        refine wpAny_bind (wpAny_load t.it ?_)
        dsimp only
        rw[if_neg (by simp[rawInt])]
        exact h0
      |_=>exact h0
    cases target<;>first |exact h0 |exact key
  · intro A j ρ s Q E hA t hQ
    have hT:s.TypeIs (.ref I) "dict_itemiterator":=⟨_,t.it,rfl⟩
    exact wpAny_pyIter_slot hT F.slot_dict_itemiterator_iter (wpAny_call_entry F.slot_dict_itemiterator_iter hT entry_items_iter (wpAny_pure (a:=Fin.done (Flow.ret (.ref I))) (Exists.intro (.ref I) ⟨rfl,"dict_itemiterator",_,hT,F.slot_dict_itemiterator_next.lookup,hQ⟩)) (args_items_iter _))
theorem items_new {d:Addr} {ep:Nat} (W:Wd prog w K G fa) (R:Rel K C env st ρ s) (fd:Fz s.heap ρ d (d0 ep)) (e:P (.vals [],st)) (h:PostI prog w K C env P ρ s Q):
    wpAny (model prog w) A (callWith pos (.builtin "dict.items") [.ref d] [] []) (fun xv s₁=>wpAny (model prog w) A (pyIter xv) Q E s₁) E s:=by
  have hs:(d==sysModules)=false:=beq_false_of_ne fun q=>let⟨o,ho,n⟩:=W.sysm;n ep (congrArg Obj.data (Option.some.inj ((R.w.base ho).2.symm.trans (q ▸ fd.2))))
  refine method_meetsIn F.slot_dict_items F.entry_dict_items rfl (PySem.evalArgs_none ⟨rfl,⟨_,fd.2,rfl⟩,F.args_dict_items_1 _,_,meets_dict_items (strKind prog w) d hs,⟨[],(dictAt0 fd.2).dictOf⟩,?_⟩)
  have S2:Step K C env st No ρ s ρ {s with heap:=s.heap.push {cls:= .type "dict_items",data:= .fields #[.ref d]}}:=R.go (t:=s.toks) (.push _)
  refine wpAny_pyIter_items (knd:=strKind prog w) (kvs:=[]) (d:=d) (ep:=ep) ⟨_,Heap.get?_push_size _ rfl,rfl,rfl⟩ (dictAt0 (S2.mv.fz fd).2) ?_
  obtain⟨S3,k,g⟩:=S2.rel.pushH (o:={cls:= .type "dict_itemiterator",data:= .fields #[.none,.bool false,.ref d,.int 0 0,.int ([]:List (Str×Value)).length 0,.int ep 0,.none,.none]}) rfl
  exact h _ _ _ _ _ _ _ e Gen.items ⟨g,k,S3.mv.fz (S2.mv.fz fd)⟩ (S2.aft S3) fun a q l=>not_live_size (S2.mv.live (q ▸ l) id)
theorem wp_items (W:Wd prog w K G fa) {o:Expr} {ap:Pos} (IE:SE prog w K n C (f.ev C)) (hl:(ap.endLine==pos.line)=true) (e:Hd ((f.ev C o st).bind fun p=>gd (isEmptyD p.1) (some (.vals [],p.2))) P)
    (hA:AOK A n) (O:EnvOK K C env) (R:Rel K C env st ρ s) (h:PostI prog w K C env P ρ s Q):wpAny (model prog w) A (eval (.Call (.Attribute o "items" ap) [] [] pos) env) (fun xv s₁=>wpAny (model prog w) A (pyIter xv) Q E s₁) E s:=by
  refine wpAny_Call_method (T:="dict") (id:="dict.items") (base_of (IE e.b).1) rfl hl F.plainAttrs_dict F.slot_dict_items F.type_dict_items ((IE e.b).2 hA O R fun p val s₁ ρ₁ e X=>Hd.g e fun hd e=>?_)
  obtain⟨v,st₁⟩:=p
  cases v with
  | d x=>
    cases x with
    | dict kvs=>
      obtain⟨rfl,d,ep,rfl,fd⟩:=X.vr
      exact⟨⟨_,fd.2,rfl⟩,fun a q=>Value.ref.inj q ▸ ⟨_,fd.2,rfl⟩,items_new W X.step.rel fd e (h.aft X.step)⟩
    |_=>cases hd
  |_=>cases hd
end
end Mine
end
section
open PySem PySem.W PyProof.Rows
namespace Mine
section
variable {prog:Program} {w:World} {G:Env'} {K:Ctx0} {fa:Str→Addr} {C:Cx} {n:Nat} {f:Fs}
theorem iter_step (W:Wd prog w K G fa) (IE:SE prog w K n C (f.ev C)):SI prog w K (n+1) C (iterS f C):=by
  intro e st P h
  have el:∀{e},Hd (Mine.iterV f C e st) P→plainE e=true∧∀{A s ρ env Q E},AOK A (n+1)→EnvOK K C env→Rel K C env st ρ s→PostI prog w K C env P ρ s Q→wpAny (model prog w) A (eval e env) (fun xv s₁=>wpAny (model prog w) A (pyIter xv) Q E s₁) E s:=fun h=>⟨(IE h.b).1,fun hA O R hQ=>wp_iterE IE h hA.le O R hQ⟩
  cases e with
  | Call g args kws pos=>
    cases g with
    |Name g p=>exact Hd.bif h (fun q h=>Hd.gd h fun hk h=>Hd.nil h fun z e=>by obtain rfl:=eq_of_beq q;subst z;exact⟨rfl,fun hA O R hQ=>wp_zip W IE hk e hA.le O R hQ⟩) fun _ h=>el h
    |Attribute o m ap=>exact Hd.bif h (fun q h=>Hd.gd h fun hl h=>Hd.nil h fun y h=>Hd.nil h fun z e=>by obtain rfl:=eq_of_beq (Bool.and_eq_true _ _ ▸ q:_∧_).1;subst y z;exact⟨rfl,fun hA O R hQ=>wp_items W IE (beq_iff_eq.mpr hl) e hA.le O R hQ⟩) fun _ h=>el h
    |_=>exact el h
  |_=>exact el h
theorem Sd.zero:Sd prog w G K fa 0 Fs.zero:=⟨fun _ _ _ _ h=>h.elim,fun _ _ _ _ h=>h.elim,fun _ _ _ _ h=>h.elim,fun h=>h.elim,fun _ _ _ _ _ h=>h.elim,fun h=>h.elim,fun _ _ _ _ h=>h.elim,fun h=>h.elim,fun h=>h.elim⟩
theorem Sd.step (W:Wd prog w K G fa) (I:Sd prog w G K fa n f):Sd prog w G K fa (n+1) (stepF G f n):=
  ⟨fun _=>ev_step W I,fun C=>tst_step (I.ev C) (I.tst C),fun C=>iter_step W (I.ev C),comp_step I.ev I.tst I.bind I.iter I.comp,fun C=>bind_step W I.call (I.ev C) (I.bind C),id,fun _=>ex_step W I,call_step W.D I.ex,asc_step I⟩
theorem sound (W:Wd prog w K G fa):∀n,Sd prog w G K fa n (fs G n)
  |0=> .zero
  |n+1=> .step W (sound W n)
end
end Mine
end
section
open PySem PySem.W PyProof.Rows
namespace Mine
noncomputable def AllL:Nat→(List Value→Prop)→Prop
  |0,P=>P []
  |n+1,P=>∀a,AllL n fun l=>P (a::l)
theorem AllL.el {n:Nat}:∀{P:List Value→Prop},AllL n P→∀{vals:List Value},vals.length=n→P vals:=by
  induction n with
  |zero=>exact fun h _ e=>List.eq_nil_of_length_eq_zero e ▸ h
  | succ n ih=>
    intro P h vals e
    cases vals with
    |nil=>nomatch e
    |cons a l=>exact ih (h a) (Nat.succ.inj e)
theorem bindPos_plain {ps:List Str}:∀{ds:List (Option V)} {vs:List V} {P:List (Str×V)→Prop},ds.all (·.isNone)=true→Hd (bindPos ps ds vs) P→vs.length=ps.length∧P (ps.zip vs):=by
  induction ps with
  |nil=>exact fun _ h=>Hd.nil h fun q h=>q ▸ ⟨rfl,h⟩
  | cons p ps ih=>
    intro ds vs P hd h
    have hd':ds.tail.all (·.isNone)=true∧ds.head?.bind id=none:=by
      cases ds with
      |nil=>exact⟨rfl,rfl⟩
      |cons d _=>exact⟨(Bool.and_eq_true _ _ ▸ hd:_∧_).2,Option.isNone_iff_eq_none.mp (Bool.and_eq_true _ _ ▸ hd:_∧_).1⟩
    cases vs with
    |nil=>exact(hd'.2 ▸ Hd.b (x:=ds.head?.bind id) h:Hd (none:Option V) _).elim
    |cons a as=>exact(ih hd'.1 (Hd.m h)).imp (congrArg Nat.succ) id
theorem bindPos_last {p:Str} {v:V}:∀{ps:List Str} {vs:List V} {P:List (Str×V)→Prop},Hd (bindPos (ps++[p]) (List.replicate ps.length none++[some v]) vs) P→(vs.length=ps.length+1∧P ((ps++[p]).zip vs))∨(vs.length=ps.length∧P ((ps++[p]).zip (vs++[v])))
  |[],[],_,h=> .inr ⟨rfl,h⟩
  |[],a::as,P,h=>Hd.nil (l:=as) (k:=some []) (P:=fun bs=>P ((p,a)::bs)) (Hd.m h) fun q h=>by subst q;exact .inl ⟨rfl,h⟩
  |q::ps,[],_,h=>h.elim
  |q::ps,a::as,_,h=>(bindPos_last (ps:=ps) (Hd.m h)).imp (And.imp (congrArg Nat.succ) id) (And.imp (congrArg Nat.succ) id)
section
variable {prog:Program} {w:World} {K:Ctx0} {F:Fn} {fd:FuncData} {objs:Objs} {ρ:Rho} {s:Shared} {ow:Addr→Prop}
noncomputable def BindOK (prog:Program) (w:World) (K:Ctx0) (F:Fn) (fd:FuncData):Prop:=∀{objs ρ s vs ks vals kvals} {P:List (Str×V)→Prop},RelW K objs ρ s→VRs K s.heap ρ (vs++ks.map Prod.snd) (vals++kvals)→vals.length=vs.length→kvals.length=ks.length→Hd (bindFn F vs ks) P→∀{A E} {Q:List (Str×Value)→Shared→Prop},
    (∀bs bvals ρ' s',P bs→WStep K objs No ρ s ρ' s'→VRs K s'.heap ρ' (bs.map Prod.snd) bvals→(∀a,Ows (bs.map Prod.snd) bvals a→Ows (vs++ks.map Prod.snd) (vals++kvals) a)→Q ((bs.map Prod.fst).zip bvals) s')→wpAny (model prog w) A (bindArgs fd ⟨vals,(ks.map Prod.fst).zip kvals⟩) Q E s
theorem RelW.go (W:RelW K objs ρ s) {h':Heap} (hk:Up s.heap h'):WStep K objs No ρ s ρ {s with heap:=h'}:=
  have M:Mv No No ρ ρ s.heap h':= .up hk
  ⟨W.mv (s':={s with heap:=h'}) M (W.store.same M (fun _ b o _ e=>hk b o e) W.store.lt) (fun n=>M.live (W.kl n) id) rfl rfl,M⟩
noncomputable def BQ (K:Ctx0) (objs:Objs) (ow:Addr→Prop) (P:List (Str×V)→Prop) (ρ:Rho) (s:Shared) (Q:List (Str×Value)→Shared→Prop):Prop:=∀bs bvals ρ' s',P bs→WStep K objs No ρ s ρ' s'→VRs K s'.heap ρ' (bs.map Prod.snd) bvals→(∀a,Ows (bs.map Prod.snd) bvals a→ow a)→Q ((bs.map Prod.fst).zip bvals) s'
theorem BQ.zip {P:List (Str×V)→Prop} {Q:List (Str×Value)→Shared→Prop} {ns:List Str} {us:List V} {uvals:List Value} {ρ':Rho} {s':Shared} (h:BQ K objs ow P ρ s Q) (l:us.length=ns.length) (p:P (ns.zip us)) (W:WStep K objs No ρ s ρ' s') (r:VRs K s'.heap ρ' us uvals) (o:∀a,Ows us uvals a→ow a):Q (ns.zip uvals) s':=by
  have e1:(ns.zip us).map Prod.fst=ns:=List.map_fst_zip (Nat.le_of_eq l.symm)
  have e2:(ns.zip us).map Prod.snd=us:=List.map_snd_zip (Nat.le_of_eq l)
  exact e1 ▸ h (ns.zip us) uvals ρ' s' p W (e2.symm ▸ r) (e2.symm ▸ o)
theorem Ows.snoc {vs:List V} {vals:List Value} {v:V} {u:Value} (l:vals.length=vs.length) (n:∀a,¬Ow v u a) (a:Addr) (o:Ows (vs++[v]) (vals++[u]) a):Ows vs vals a:=
  (Ows.app l o).elim id fun o=>o.elim (fun o=>(n a o).elim) False.elim
theorem VRs.snoc {h:Heap} {vs:List V} {vals:List Value} {v:V} {u:Value} (r:VRs K h ρ vs vals) (q:VR K h ρ v u) (n:∀a,¬Ow v u a):VRs K h ρ (vs++[v]) (vals++[u]):=
  r.app ⟨rfl,q,rfl,fun _ _=>id⟩ fun a _ o=>o.elim (n a) id
theorem bind_of (hk:F.kwo=none) (h:∀{objs ρ s vs vals} {P:List (Str×V)→Prop},RelW K objs ρ s→VRs K s.heap ρ vs vals→vals.length=vs.length→Hd (bindPos F.params F.dflt vs) (fun bs=>P (bs++(F.dct.map fun d=>(d,V.d (.dict []))).toList))→∀{A E} {Q:List (Str×Value)→Shared→Prop},BQ K objs (Ows vs vals) P ρ s Q→wpAny (model prog w) A (bindArgs fd ⟨vals,[]⟩) Q E s):BindOK prog w K F fd:=by
  intro objs ρ s vs ks vals kvals P W rs hl hkl e A E Q hQ
  unfold bindFn at e
  rw[hk]at e
  obtain⟨rfl,e'⟩:ks=[]∧Hd (bindPos F.params F.dflt vs) fun bs=>P (bs++(F.dct.map fun d=>(d,V.d (.dict []))).toList):=(Hd.b e).get fun bs hb e=>Hd.nil e fun q e=>⟨q,.of hb e⟩
  obtain rfl:=List.eq_nil_of_length_eq_zero hkl
  have e1:vs++([]:List (Str×V)).map Prod.snd=vs:=List.append_nil _
  have e2:vals++([]:List Value)=vals:=List.append_nil _
  rw[e1,e2]at rs hQ
  exact h W rs hl e' hQ
theorem bind_plain (ps:List Str) (hp:F.params=ps) (hd:F.dflt.all (·.isNone)=true) (hk:F.kwo=none) (hc:F.dct=none) (h:AllL ps.length fun vals=>bindArgs fd ⟨vals,[]⟩=pure (ps.zip vals)):BindOK prog w K F fd:=
  bind_of hk fun {objs ρ s vs vals P} W rs hl e {A E Q} hQ=>by
    rw[hp,hc]at e
    obtain⟨l,z⟩:=bindPos_plain hd e
    rw[h.el (hl.trans l)]
    exact wpAny_pure (hQ.zip l (Eq.mp (congrArg P (List.append_nil _)) z) (W.go (.refl _)) rs fun _=>id)
theorem bind_last {o:Obj} {T:Addr} {n:Nat} (ps:List Str) (p:Str) (hp:F.params=ps++[p]) (hd:F.dflt=List.replicate ps.length none++[some (.d .none)]) (hk:F.kwo=none) (hc:F.dct=none) (h0:K.h₀.get? T=some o) (hs:o.data= .seq #[.none] n) (hT:fd.defaults= .ref T)
    (h1:AllL (ps.length+1) fun vals=>∃k,bindArgs fd ⟨vals,[]⟩=seqItems? fd.defaults>>=k∧k (some #[.none])=pure ((ps++[p]).zip vals))
    (h2:AllL ps.length fun vals=>∃k,bindArgs fd ⟨vals,[]⟩=seqItems? fd.defaults>>=k∧k (some #[.none])=pure ((ps++[p]).zip (vals++[.none]))):BindOK prog w K F fd:=
  bind_of hk fun {objs ρ s vs vals P} W rs hl e {A E Q} hQ=>by
    rw[hp,hc,hd]at e
    have len:(ps++[p]).length=ps.length+1:=List.length_append
    rcases bindPos_last e with⟨l,z⟩ | ⟨l,z⟩
    · obtain⟨k,a,b⟩:=h1.el (hl.trans l)
      exact BindsTo.of_defaults hT (W.base h0).2 hs a b _ _ _ _ (hQ.zip (l.trans len.symm) (Eq.mp (congrArg P (List.append_nil _)) z) (W.go (.refl _)) rs fun _=>id)
    · obtain⟨k,a,b⟩:=h2.el (hl.trans l)
      exact BindsTo.of_defaults hT (W.base h0).2 hs a b _ _ _ _ (hQ.zip ((List.length_append.trans (congrArg (·+1) l)).trans len.symm) (Eq.mp (congrArg P (List.append_nil _)) z) (W.go (.refl _)) (rs.snoc (v:= .d .none) rfl fun _=>id) (Ows.snoc (v:= .d .none) hl fun _=>id))
theorem bind_kwo (ps:List Str) (k:Str) (hp:F.params=ps) (hd:F.dflt.all (·.isNone)=true) (hk:F.kwo=some k) (h:∀v,AllL ps.length fun vals=>bindArgs fd ⟨vals,[(k,v)]⟩=pure ((ps++[k]).zip (vals++[v]))):BindOK prog w K F fd:=by
  intro objs ρ s vs ks vals kvals P W rs hl hkl e A E Q hQ
  unfold bindFn at e
  rw[hp,hk]at e
  obtain⟨l,e⟩:=bindPos_plain hd (Hd.b e)
  refine Hd.one e fun a q e=>Hd.g e fun z y=>?_
  subst q
  obtain⟨k',v⟩:=a
  obtain rfl:k=k':=eq_of_beq z
  obtain⟨kv,rfl⟩:=List.length_eq_one_iff.mp hkl
  have len:(ps++[k]).length=ps.length+1:=List.length_append
  show wpAny _ A (bindArgs fd ⟨vals,[(k,kv)]⟩) Q E s
  rw[(h kv).el (hl.trans l)]
  exact wpAny_pure (BQ.zip (ow:=Ows (vs++[v]) (vals++[kv])) hQ ((List.length_append.trans (congrArg (·+1) l)).trans len.symm) (Eq.mp (congrArg P (List.zip_append (r₁:=[k]) (r₂:=[v]) l.symm).symm) y) (W.go (.refl _)) rs fun _=>id)
end
end Mine
end
section
open PySem PySem.W PyProof.Rows
namespace Mine
structure Prim (prog:Program) (w:World) (K:Ctx0) (a:Addr) (x y:PyData):Prop where
  run:∀{objs ρ s val A Q E},AOK A 8→RelW K objs ρ s→Rd (Fz s.heap ρ) x val→(∀val' ρ' s',WStep K objs No ρ s ρ' s'→Rd (Fz s'.heap ρ') y val'→Q val' s')→wpAny (model prog w) A (PySem.call (.ref a) [val]) Q E s
section
variable {prog:Program} {w:World} {G:Env'} {K:Ctx0} {fa:Str→Addr} {F:Fn} {a b:Addr} {ob:Obj} {fd:FuncData} {l:Expr} {x r:Str} {p p' p'' p3 ap:Pos} {c:Int} {d y z:PyData} {rest:List Stmt}
noncomputable def Ans (y:PyData) (o:Objs) (p:Fl×St):Prop:=p.1.val=some (.d y)∧p.2.objs=o
theorem prim_run {P₀:Objs→St→Prop} (lim:K.h₀.NoLimit) (FO:FnOK prog w K F a ob fd) (h:∀o,Hd (bindFn F [.d d] []) fun bs=>Hd (bindAs F bs o) (P₀ o))
    (X:∀{o A st env s ρ Q E},P₀ o st→AOK A 7→EnvOK K ⟨F.scope,F.mv⟩ env→Rel K ⟨F.scope,F.mv⟩ env st ρ s→PostF K ⟨F.scope,F.mv⟩ env (Ans y o) ρ s Q→wpAny (model prog w) A (execs F.body env) Q E s):Prim prog w K a d y:=
  ⟨fun {objs ρ s val A Q E} hA W₀ dv hQ=>call_body (n:=7) (vs:=[.d d]) (ks:=[]) (vals:=[val]) (kvals:=[]) (P:=fun r=>r.1= .d y∧r.2=objs) lim FO hA W₀ ⟨rfl,dv,rfl,fun _ q=>q.elim⟩ rfl rfl (h objs) X (fun p ⟨e,q⟩=>by rw[e];exact⟨rfl,q⟩)
    fun r val' ρ' s' ⟨e,q⟩ WS rv _=>by
      obtain⟨v,o⟩:=r
      subst e q
      exact hQ val' ρ' s' (WS.more (fun _ q=>q.elim) fun _ q=>q.elim id id) rv⟩
theorem prim_set (W:Wd prog w K G fa) (FO:FnOK prog w K F a ob fd) (hb:F.body=[.Return (some (.Compare l [.In] [.Name x p] p')) p'']) (hx:F.scope.names.lookup x=some .globalImplicit) (hd:(x==("__debug__":Str))=false)
    (h:∀o,Hd (bindFn F [.d d] []) fun bs=>Hd (bindAs F bs o) fun st=>Hd ((fs G 7).ev ⟨F.scope,F.mv⟩ l st) fun p=>p.1= .d (.int c)∧p.2.objs=o) {S:Int→Bool} {m:Nat} (hg:K.gm x=some (.ref b)) (hS:∀h:Heap,Up K.h₀ h→h.SetOf (intKind prog w) b S m):Prim prog w K a d (.bool (S c)):=
  prim_run W.D.lim FO h fun {o A st env s ρ Q E} e hA O R hQ=>by
    rw[hb]
    refine wpAny_execs_cons (wpAny_Return_some ?_)
    rw[arm_eval_Compare]
    refine wpAny_bind (((sound W 7).ev _ e).2 hA O R fun q va ρ₁ s₁ ⟨e1,e2⟩ X=>?_)
    have hm:markedEach [.In] [.Name x p] (evalEach [.Name x p] env)=[eval (.Name x p) env]:=rfl
    rw[hm]
    refine wpAny_bind (wpAny_holding (wpAny_Name (W.N.load O X.step.rel hx (.inl hg) (wpAny_bind (wpAny_standAt (wpAny_operate' ?_)))) hd))
    obtain⟨v,st₁⟩:=q
    subst e1 e2
    obtain⟨t,rfl⟩:=X.vr
    refine wpAny_inSet_of (knd:=intKind prog w) (k:=c) (intKind_is _ _ _ _) rfl (hS _ X.step.rel.up0) ?_
    exact hQ (.ret (.d (.bool (S c))),st₁) _ _ _ ⟨rfl,rfl⟩ ⟨X.step.aft (X.step.rel.tok (s₁.toks+1)),_,rfl,rfl,fun _ q=>q.elim⟩
theorem prim_dict (W:Wd prog w K G fa) (FO:FnOK prog w K F a ob fd) (hb:F.body= .Assign [.Name r p] (.Call (.Attribute (.Name x p') "get" ap) [l] [] p'') p3::rest) (hx:F.scope.names.lookup x=some .globalImplicit) (hd:(x==("__debug__":Str))=false) (hline:(ap.endLine==p''.line)=true)
    (h:∀o,Hd (bindFn F [.d d] []) fun bs=>Hd (bindAs F bs o) fun st=>Hd ((fs G 7).ev ⟨F.scope,F.mv⟩ l st) fun q=>q.1= .d (.int c)∧Hd ((fs G 7).bind ⟨F.scope,F.mv⟩ (.Name r p) (.d z) q.2) fun st=>Hd (exs ((fs G 7).ex ⟨F.scope,F.mv⟩) rest st) (Ans y o)) {T:Int→Option Value} (hg:K.gm x=some (.ref b)) (hsm:(b==sysModules)=false)
    (hT:∀h:Heap,Up K.h₀ h→h.MapOf (intKind prog w) b T) (hz:∀{h ρ},Rd (Fz h ρ) z ((T c).getD .none)):Prim prog w K a d y:=
  prim_run W.D.lim FO h fun {o A st env s ρ Q E} e hA O R hQ=>by
    rw[hb]
    have he:Hd (evs ((fs G 7).ev ⟨F.scope,F.mv⟩) [l] st) fun q=>q.1=[.d (.int c)]∧Hd ((fs G 7).bind ⟨F.scope,F.mv⟩ (.Name r p) (.d z) q.2) fun st=>Hd (exs ((fs G 7).ex ⟨F.scope,F.mv⟩) rest st) (Ans y o):=Hd.get e fun q hq e=> .of (show evs ((fs G 7).ev ⟨F.scope,F.mv⟩) [l] st=some ([q.1],q.2) by unfold evs;rw[hq];rfl) ⟨congrArg (fun v=>[v]) e.1,e.2⟩
    have hpl:=plain_args (env:=env) (pos:=p'') (fun e=>((sound W 7).ev _ e).1) he
    refine wpAny_execs_cons (wpAny_Assign_stores ?_ rfl rfl)
    have hM:=hT _ R.up0
    obtain⟨od,es,ep,ho,hex,hdt,-⟩:=id hM
    refine wpAny_Call_method (T:="dict") (id:="dict.get") rfl ?_ hline PySem.F.plainAttrs_dict PySem.F.slot_dict_get PySem.F.type_dict_get (wpAny_Name (W.N.load O R hx (.inl hg) ⟨hM.typeIs,fun a q=>Value.ref.inj q ▸ ⟨_,ho,hex.2.1⟩,method_meetsIn PySem.F.slot_dict_get PySem.F.entry_dict_get hpl.1 ?_⟩) hd)
    · rw[hpl.2];rfl
    refine wp_args (fun e=>(sound W 7).ev _ e) he hA O R fun q vals ρ₁ s₁ e X=>?_
    obtain⟨vs,st₁⟩:=q
    obtain⟨e1,e2⟩:=e
    subst e1
    obtain⟨rfl,r,rfl,-⟩:=X.vrs
    obtain⟨t,rfl⟩:=r
    have hM4:=hT _ X.step.rel.up0
    refine⟨rfl,hM4.typeIs,PySem.F.args_dict_get_2 _ _,_,meets_dict_get (intKind prog w) b (k:=c) (intKind_is _ _ _ _) hsm,T,hM4,?_⟩
    have S:=X.step.aft (X.step.rel.tok (s₁.toks+1))
    show wpAny _ _ (assignAll _ _) _ _ _
    exact((sound W 7).bind _ e2).2 hA O S.rel (val:=(T c).getD .none) hz fun st' ρ₂ s₂ e S₂=>wp_exs ((sound W 7).ex _) hA O rest e S₂.rel (hQ.aft (S.trans S₂ fun _ _ q=>q))
end
end Mine
end
section
open PySem PySem.W PyProof.Rows
namespace Mine
noncomputable def stmtsOf:FuncBody→List Stmt | .stmts l=>l |_=>[]
noncomputable def fdOf (o:Obj):FuncData:=match o.data with | .func fd=>fd |_=>default
noncomputable abbrev Tab:=List (Str×Addr×Fn)
noncomputable def fnT (tab:Tab) (f:Str):Option Fn:=(tab.lookup f).map (·.2)
noncomputable def faT (tab:Tab) (f:Str):Addr:=((tab.lookup f).map (·.1)).getD 0
noncomputable def AllM {α:Type} (P:α→Prop):List α→Prop
  |[]=>True
  |x::l=>P x∧AllM P l
theorem AllM.lk {α:Type} {P:Str×α→Prop} {x:Str} {v:α}:∀{l:List (Str×α)},AllM P l→l.lookup x=some v→P (x,v)
  | (y,u)::r,h,e=>by
    rw[lk_cons]at e
    by_cases q:x=y
    · subst q;rw[if_pos rfl]at e;cases e;exact h.1
    · rw[if_neg q]at e;exact AllM.lk h.2 e
theorem no_free {l:List (Str×NameKind)} (h:(l.all fun p=>p.2 != .free)=true) {x:Str}:l.lookup x≠some .free:=fun e=>absurd (List.all_eq_true.mp h _ (lk_mem e)) nofun
theorem fnT_at {tab:Tab} {P:Str×Addr×Fn→Prop} (h:AllM P tab) {f:Str} {F:Fn} (e:fnT tab f=some F):P (f,faT tab f,F):=by
  obtain⟨p,hl,rfl⟩:=Option.map_eq_some_iff.mp e
  have:faT tab f=p.1:=by unfold faT;rw[hl];rfl
  exact this ▸ h.lk hl
theorem str_app_toList (a b:Str):(a++b).cps.toList=a.cps.toList++b.cps.toList:=Array.toList_append
theorem str_ext {a b:Str} (h:a.cps.toList=b.cps.toList):a=b:=congrArg Str.mk (Array.toList_inj.mp h)
theorem meth_name {f m m₀:Str} (e:f="Headers."++m₀) (q:f="Headers."++m):m=m₀:=str_ext (List.append_cancel_left ((str_app_toList _ m).symm.trans ((congrArg (·.cps.toList) (q.symm.trans e)).trans (str_app_toList _ m₀))))
theorem not_meth {f m:Str} (n:(f.cps.toList.take 8==("Headers.":Str).cps.toList)=false) (q:f="Headers."++m):False:=by
  subst q
  rw[str_app_toList,List.take_append_of_le_length (by decide+kernel),List.take_of_length_le (by decide+kernel),beq_self_eq_true]at n
  cases n
inductive RowOK (prog:Program) (w:World) (K:Ctx0) (f:Str) (a:Addr) (F:Fn):Prop where
  |fn (FO:∃o fd,FnOK prog w K F a o fd) (g:K.gm f=some (.ref a)) (n:(f.cps.toList.take 8==("Headers.":Str).cps.toList)=false):RowOK prog w K f a F
  |me (m:Str) (FO:∃o fd,FnOK prog w K F a o fd) (e:f="Headers."++m) (i:isMeth f=true) (g:K.mN m=some (.ref a)) (n:m≠"_headers") (y:∃y,typeLookup (.type "object") m=pure y):RowOK prog w K f a F
section
variable {prog:Program} {w:World} {K:Ctx0} {f m:Str} {a:Addr} {F:Fn}
theorem RowOK.fd (r:RowOK prog w K f a F):∃o fd,FnOK prog w K F a o fd:=by cases r<;>assumption
theorem RowOK.gm (r:RowOK prog w K f a F) (n:isMeth f=false):K.gm f=some (.ref a):=by
  cases r with
  |fn _ g _=>exact g
  |me _ _ _ i=>rw[i]at n;cases n
theorem RowOK.meth (r:RowOK prog w K ("Headers."++m) a F):K.mN m=some (.ref a)∧m≠"_headers"∧∃y,typeLookup (.type "object") m=pure y:=by
  cases r with
  |fn _ _ n=>exact(not_meth n rfl).elim
  |me m₀ _ e _ g n y=>exact meth_name e rfl ▸ ⟨g,n,y⟩
noncomputable def GlobOK (K:Ctx0) (p:Str×V):Prop:=∃val,(K.gm p.1=some val∨(K.gm p.1=none∧K.bm p.1=some val))∧p.2.fl?=none∧∀{h ρ},(∀{b o},K.h₀.get? b=some o→Fz h ρ b o)→VR K h ρ p.2 val
end
theorem setOf_of {prog:Program} {w:World} {h:Heap} {a:Addr} {o:Obj} {es:Array (Int×Value)} {ep:Nat} {t:SetTable} {m:Nat} (l:List (Int×Tok)) (ho:h.get? a=some o) (hx:o.ExactSet) (hd:o.data= .set es ep t)
    (hk:es.toList=l.map fun p=>(hashInt p.1,.int p.1 p.2)) (h1:es.size<scanBound) (h2:t.fits es.size=true) (h3:es.size=m):h.SetOf (intKind prog w) a (fun k=>l.any fun p=>p.1==k) m:=by
  refine⟨o,es,ep,t,ho,hx,hd,fun e he=>?_,fun k=>List.any_eq_true.trans ⟨fun⟨p,hp,q⟩=>?_,fun⟨e,he,q⟩=>?_⟩,h1,h2,h3⟩
  · obtain⟨p,_,rfl⟩:=List.mem_map.mp (hk ▸ he)
    exact⟨⟨_,intKind_is _ _ _ _,rfl⟩,rfl⟩
  · exact⟨_,hk ▸ List.mem_map.mpr ⟨p,hp,rfl⟩,eq_of_beq q ▸ intKind_is _ _ _ _⟩
  · obtain⟨p,hp,rfl⟩:=List.mem_map.mp (hk ▸ he)
    exact⟨p,hp,beq_iff_eq.mpr ((intKind prog w).inj _ _ _ (intKind_is _ _ _ _) q)⟩
theorem ents_find {prog:Program} {w:World} {ps:List (Int×Str)} {es:List DictEntry} (h:Ents ps es) (k:Int):(ps.lookup k).elim (findBy (intKind prog w).is es.toArray k=none) fun v=>∃t,findBy (intKind prog w).is es.toArray k=some (.str v t):=by
  unfold findBy
  rw[List.find?_toArray]
  induction h with
  |nil=>exact rfl
  | @cons p e ps es a h ih=>
    obtain⟨-,t,u,hk,hv⟩:=a
    have hi:(intKind prog w).is k e.key=decide (k=p.1):=by rw[hk];exact KeyKind.is_eq_decide (intKind_is _ _ _ _) k
    obtain⟨pi,pv⟩:=p
    rw[List.find?_cons,hi,List.lookup_cons]
    by_cases hq:k=pi
    · subst hq;rw[decide_eq_true rfl,beq_self_eq_true];exact⟨u,congrArg some hv⟩
    · rw[decide_eq_false hq,beq_false_of_ne hq];exact ih
theorem mapOf_of {prog:Program} {w:World} {h:Heap} {a:Addr} {ps:List (Int×Str)} {es:List DictEntry} {ep:Nat} (ho:h.get? a=some (dObj es ep)) (hE:Ents ps es):h.MapOf (intKind prog w) a (fun k=>findBy (intKind prog w).is es.toArray k):=
  ⟨_,_,_,ho,⟨rfl,rfl,rfl⟩,rfl,hE.keysOf,fun _=>rfl⟩
end Mine
end
section
namespace H02
open PySem PySem.W PyProof.Rows Mine
noncomputable abbrev pw:Program:=PySem.Challenge.pw_tp0058_02
noncomputable def sS (s:String):Str:=Str.ofString s
noncomputable def vI (i:Int) (t:Nat):Value:= .int i t
noncomputable def vS (s:String) (t:Nat):Value:= .str (Str.ofString s) t
noncomputable def vR (a:Nat):Value:= .ref a
noncomputable def dE (P:Params) (s:String) (t:Nat) (v:Value):DictEntry:=⟨PyData.keyHash P (Str.ofString s),.str (Str.ofString s) t,v⟩
noncomputable def aA {α:Type} (l:List α):Array α:=l.toArray
noncomputable def stm (i:Nat):Stmt:=(pw.main.body[i]?).getD (.Pass ⟨0,0,0,0⟩)
noncomputable def fA (i:Nat):Arguments:=match stm i with | .FunctionDef _ a _ _ _ _ _ _ _ _=>a |_=>⟨[],[],none,[],[],none,[]⟩
noncomputable def fB (i:Nat):FuncBody:=match stm i with | .FunctionDef _ _ b _ _ _ _ _ _ _=> .stmts b |_=> .stmts []
noncomputable def fS (i:Nat):Scope:=match stm i with | .FunctionDef _ _ _ _ _ _ s _ _ _=>s |_=>⟨.module,[],false,false,[]⟩
noncomputable def cst (i j:Nat):Stmt:=match stm i with | .ClassDef _ _ _ b _ _ _ _ _ _ _=>(b[j]?).getD (.Pass ⟨0,0,0,0⟩) |_=> .Pass ⟨0,0,0,0⟩
noncomputable def cA (i j:Nat):Arguments:=match cst i j with | .FunctionDef _ a _ _ _ _ _ _ _ _=>a |_=>⟨[],[],none,[],[],none,[]⟩
noncomputable def cB (i j:Nat):FuncBody:=match cst i j with | .FunctionDef _ _ b _ _ _ _ _ _ _=> .stmts b |_=> .stmts []
noncomputable def cS (i j:Nat):Scope:=match cst i j with | .FunctionDef _ _ _ _ _ _ s _ _ _=>s |_=>⟨.module,[],false,false,[]⟩
noncomputable def n (o:Obj) (l r:BT):BT:= .node o l r
noncomputable def e:BT:= .nil
noncomputable abbrev OP:=Params→Obj
noncomputable abbrev vN:=@PySem.Value.none
noncomputable abbrev vT:=@PySem.Value.type
noncomputable abbrev vB:=@PySem.Value.builtin
noncomputable abbrev vO:=@PySem.Value.bool
noncomputable abbrev vX:=@PySem.Value.str
noncomputable abbrev oM:=@PySem.Obj.mk
noncomputable abbrev dP:=@PySem.Data.plain
noncomputable abbrev dF:=@PySem.Data.fields
noncomputable abbrev dS:=@PySem.Data.seq
noncomputable abbrev dD:=@PySem.Data.dict
noncomputable abbrev dC:=@PySem.Data.cls
noncomputable abbrev dG:=@PySem.Data.func
noncomputable abbrev cM:=@PySem.ClassData.mk
noncomputable abbrev sM:=@PySem.Str.mk
noncomputable abbrev z {α:Type}:Array α:=#[]
noncomputable abbrev y (o:Obj):BT:= .node o .nil .nil
noncomputable abbrev tU (l:List Value):Obj:=oM (vT "tuple") none (dS (aA l) 0) z
noncomputable abbrev fE:Obj:=oM vN none (dF z) z
noncomputable abbrev tD (l:List DictEntry) (k:Nat):Obj:=oM (vT "dict") none (dD (aA l) k) z
noncomputable def altL:Bool→List Obj→List Obj
  |_,[]=>[]
  |true,x::r=>x::altL false r
  |false,_::r=>altL true r
noncomputable def trL:Nat→List Obj→BT
  |n+1,x::r=> .node x (trL n (altL true r)) (trL n (altL false r))
  |_,_=> .nil
noncomputable def stL (c:List (Nat×Obj)) (l:List Obj):List Obj:=c.foldl (fun l c=>l.set c.1 c.2) l
noncomputable abbrev f0 (a b:String) (A:Arguments) (B:FuncBody) (S:Scope):Obj:=oM vN none (dG (.mk (sS a) (sS b) A B S 0 [] vN vN vN vN none vN vN 0)) z
noncomputable abbrev f1 (a b:String) (A:Arguments) (B:FuncBody) (S:Scope) (n:Nat) (D K:Value) (m:String) (i r:Nat):Obj:=oM (vT "function") none (dG (.mk (sS a) (sS b) A B S n [] D vN K (vS m i) none (vR r) vN 0)) z
noncomputable def o0:OP:=fun P=>tD [(dE P "__name__" 1 (vS "builtins" 160)),(dE P "__doc__" 2 (vB "builtins.__doc__:str#opaque")),(dE P "__package__" 3 (vB "builtins.__package__:str#opaque")),(dE P "__loader__" 4 (vB "builtins.__loader__:shared#opaque")),(dE P "__spec__" 5 (vB "builtins.__spec__#opaque")),(dE P "__build_class__" 6 (vB "__build_class__")),(dE P "__import__" 7 (vB "__import__")),(dE P "abs" 8 (vB "abs")),(dE P "all" 9 (vB "all")),(dE P "any" 10 (vB "any")),(dE P "ascii" 11 (vB "ascii")),(dE P "bin" 12 (vB "bin")),(dE P "breakpoint" 13 (vB "breakpoint")),(dE P "callable" 14 (vB "callable")),(dE P "chr" 15 (vB "chr")),(dE P "compile" 16 (vB "compile")),(dE P "delattr" 17 (vB "delattr")),(dE P "dir" 18 (vB "dir")),(dE P "divmod" 19 (vB "divmod")),(dE P "eval" 20 (vB "eval")),(dE P "exec" 21 (vB "exec")),(dE P "format" 22 (vB "format")),(dE P "getattr" 23 (vB "getattr")),(dE P "globals" 24 (vB "globals")),(dE P "hasattr" 25 (vB "hasattr")),(dE P "hash" 26 (vB "hash")),(dE P "hex" 27 (vB "hex")),(dE P "id" 28 (vB "id")),(dE P "input" 29 (vB "input")),(dE P "isinstance" 30 (vB "isinstance")),(dE P "issubclass" 31 (vB "issubclass")),(dE P "iter" 32 (vB "iter")),(dE P "aiter" 33 (vB "aiter")),(dE P "len" 34 (vB "len")),(dE P "locals" 35 (vB "locals")),(dE P "max" 36 (vB "max")),(dE P "min" 37 (vB "min")),(dE P "next" 38 (vB "next")),(dE P "anext" 39 (vB "anext")),(dE P "oct" 40 (vB "oct")),(dE P "ord" 41 (vB "ord")),(dE P "pow" 42 (vB "pow")),(dE P "print" 43 (vB "print")),(dE P "repr" 44 (vB "repr")),(dE P "round" 45 (vB "round")),(dE P "setattr" 46 (vB "setattr")),(dE P "sorted" 47 (vB "sorted")),(dE P "sum" 48 (vB "sum")),(dE P "vars" 49 (vB "vars")),(dE P "None" 50 vN),(dE P "Ellipsis" 51 @PySem.Value.ellipsis),(dE P "NotImplemented" 52 @PySem.Value.notImplemented),(dE P "False" 53 (vO false)),(dE P "True" 54 (vO true)),(dE P "bool" 55 (vT "bool")),(dE P "memoryview" 56 (vT "memoryview")),(dE P "bytearray" 57 (vT "bytearray")),(dE P "bytes" 58 (vT "bytes")),(dE P "classmethod" 59 (vT "classmethod")),(dE P "complex" 60 (vT "complex")),(dE P "dict" 61 (vT "dict")),(dE P "enumerate" 62 (vT "enumerate")),(dE P "filter" 63 (vT "filter")),(dE P "float" 64 (vT "float")),(dE P "frozenset" 65 (vT "frozenset")),(dE P "property" 66 (vT "property")),(dE P "int" 67 (vT "int")),(dE P "list" 68 (vT "list")),(dE P "map" 69 (vT "map")),(dE P "object" 70 (vT "object")),(dE P "range" 71 (vT "range")),(dE P "reversed" 72 (vT "reversed")),(dE P "set" 73 (vT "set")),(dE P "slice" 74 (vT "slice")),(dE P "staticmethod" 75 (vT "staticmethod")),(dE P "str" 76 (vT "str")),(dE P "super" 77 (vT "super")),(dE P "tuple" 78 (vT "tuple")),(dE P "type" 79 (vT "type")),(dE P "zip" 80 (vT "zip")),(dE P "__debug__" 81 (vO true)),(dE P "BaseException" 82 (vT "BaseException")),(dE P "BaseExceptionGroup" 83 (vT "BaseExceptionGroup")),(dE P "Exception" 84 (vT "Exception")),(dE P "GeneratorExit" 85 (vT "GeneratorExit")),(dE P "KeyboardInterrupt" 86 (vT "KeyboardInterrupt")),(dE P "SystemExit" 87 (vT "SystemExit")),(dE P "ArithmeticError" 88 (vT "ArithmeticError")),(dE P "AssertionError" 89 (vT "AssertionError")),(dE P "AttributeError" 90 (vT "AttributeError")),(dE P "BufferError" 91 (vT "BufferError")),(dE P "EOFError" 92 (vT "EOFError")),(dE P "ImportError" 93 (vT "ImportError")),(dE P "LookupError" 94 (vT "LookupError")),(dE P "MemoryError" 95 (vT "MemoryError")),(dE P "NameError" 96 (vT "NameError")),(dE P "OSError" 97 (vT "OSError")),(dE P "ReferenceError" 98 (vT "ReferenceError")),(dE P "RuntimeError" 99 (vT "RuntimeError")),(dE P "StopAsyncIteration" 100 (vT "StopAsyncIteration")),(dE P "StopIteration" 101 (vT "StopIteration")),(dE P "SyntaxError" 102 (vT "SyntaxError")),(dE P "SystemError" 103 (vT "SystemError")),(dE P "TypeError" 104 (vT "TypeError")),(dE P "ValueError" 105 (vT "ValueError")),(dE P "Warning" 106 (vT "Warning")),(dE P "FloatingPointError" 107 (vT "FloatingPointError")),(dE P "OverflowError" 108 (vT "OverflowError")),(dE P "ZeroDivisionError" 109 (vT "ZeroDivisionError")),(dE P "BytesWarning" 110 (vT "BytesWarning")),(dE P "DeprecationWarning" 111 (vT "DeprecationWarning")),(dE P "EncodingWarning" 112 (vT "EncodingWarning")),(dE P "FutureWarning" 113 (vT "FutureWarning")),(dE P "ImportWarning" 114 (vT "ImportWarning")),(dE P "PendingDeprecationWarning" 115 (vT "PendingDeprecationWarning")),(dE P "ResourceWarning" 116 (vT "ResourceWarning")),(dE P "RuntimeWarning" 117 (vT "RuntimeWarning")),(dE P "SyntaxWarning" 118 (vT "SyntaxWarning")),(dE P "UnicodeWarning" 119 (vT "UnicodeWarning")),(dE P "UserWarning" 120 (vT "UserWarning")),(dE P "BlockingIOError" 121 (vT "BlockingIOError")),(dE P "ChildProcessError" 122 (vT "ChildProcessError")),(dE P "ConnectionError" 123 (vT "ConnectionError")),(dE P "FileExistsError" 124 (vT "FileExistsError")),(dE P "FileNotFoundError" 125 (vT "FileNotFoundError")),(dE P "InterruptedError" 126 (vT "InterruptedError")),(dE P "IsADirectoryError" 127 (vT "IsADirectoryError")),(dE P "NotADirectoryError" 128 (vT "NotADirectoryError")),(dE P "PermissionError" 129 (vT "PermissionError")),(dE P "ProcessLookupError" 130 (vT "ProcessLookupError")),(dE P "TimeoutError" 131 (vT "TimeoutError")),(dE P "IndentationError" 132 (vT "IndentationError")),(dE P "_IncompleteInputError" 133 (vT "_IncompleteInputError")),(dE P "IndexError" 134 (vT "IndexError")),(dE P "KeyError" 135 (vT "KeyError")),(dE P "ModuleNotFoundError" 136 (vT "ModuleNotFoundError")),(dE P "NotImplementedError" 137 (vT "NotImplementedError")),(dE P "PythonFinalizationError" 138 (vT "PythonFinalizationError")),(dE P "RecursionError" 139 (vT "RecursionError")),(dE P "UnboundLocalError" 140 (vT "UnboundLocalError")),(dE P "UnicodeError" 141 (vT "UnicodeError")),(dE P "BrokenPipeError" 142 (vT "BrokenPipeError")),(dE P "ConnectionAbortedError" 143 (vT "ConnectionAbortedError")),(dE P "ConnectionRefusedError" 144 (vT "ConnectionRefusedError")),(dE P "ConnectionResetError" 145 (vT "ConnectionResetError")),(dE P "TabError" 146 (vT "TabError")),(dE P "UnicodeDecodeError" 147 (vT "UnicodeDecodeError")),(dE P "UnicodeEncodeError" 148 (vT "UnicodeEncodeError")),(dE P "UnicodeTranslateError" 149 (vT "UnicodeTranslateError")),(dE P "ExceptionGroup" 150 (vT "ExceptionGroup")),(dE P "EnvironmentError" 151 (vT "OSError")),(dE P "IOError" 152 (vT "OSError")),(dE P "open" 153 (vB "open")),(dE P "quit" 154 (vB "builtins.quit#opaque")),(dE P "exit" 155 (vB "builtins.exit#opaque")),(dE P "copyright" 156 (vB "builtins.copyright#opaque")),(dE P "credits" 157 (vB "builtins.credits#opaque")),(dE P "license" 158 (vB "builtins.license#opaque")),(dE P "help" 159 (vB "builtins.help#opaque"))] 159
noncomputable def o1:OP:=fun P=>tD [(dE P "builtins" 162 (vR 4)),(dE P "__main__" 163 (vR 5)),(dE P "_sre" 244 (vR 12))] 3
noncomputable def o2:OP:=fun P=>oM vN none (dD (aA [(dE P "\x69mport.loaded._sre" 183 (vO true)),(dE P "class._frozen_importlib.BuiltinImporter" 185 (vR 14)),(dE P "watched.\x69mport" 206 (vR 18)),(dE P "class._frozen_importlib.ModuleSpec" 216 (vR 22)),(dE P "sys.modules.booked-epoch" 245 (vI 3 0)),(dE P "\x69mport.later-laid._sre" 270 (vO true)),(dE P "watched.library" 272 (vR 27)),(dE P "watched.library-objects" 0 (vS "\x0c" 0)),(dE P "watched.library-deep._sre" 273 (vS "\x04\x00\x00\x0b\x04\x00\x00\x0b\x04\x00\x00\x03\x04\x00\x00\x0b\x08\x04dict\x02" 0))]) 9) z
noncomputable def o3:OP:=fun P=>tD [(dE P "__name__" 165 (vS "__main__" 164)),(dE P "__doc__" 166 vN),(dE P "__package__" 167 vN),(dE P "__loader__" 168 (vB "__main__.__loader__#opaque")),(dE P "__spec__" 169 vN),(dE P "__annotations__" 170 (vR 6)),(dE P "__builtins__" 171 (vR 4)),(dE P "__file__" 173 (vS "/claim/cut.py" 172)),(dE P "__cached__" 174 vN),(dE P "_sre" 275 (vR 12))] 10
noncomputable def o4:OP:=fun P=>oM (vT "module") (some 0) dP z
noncomputable def o5:OP:=fun P=>oM (vT "module") (some 3) dP z
noncomputable def o6:OP:=fun P=>oM (vT "dict") none (dD z 0) z
noncomputable def o7:OP:=fun P=>tU []
noncomputable def o8:OP:=fun P=>fE
noncomputable def o9:OP:=fun P=>oM (vT "code") none (dF (aA [(vS "<module>" 176),(vS "<module>" 177),(vS "/claim/cut.py" 178),(vI 1 0),(vI 0 0),(vI 0 0),(vI 0 0),(vI 0 0),(vR 7),(vO false),(vI 175 0),(vR 8),vN,vN,vN,vN,(vI 179 0),(vI 1 0),(vS "/claim/cut.py" 180)])) z
noncomputable def o10:OP:=fun P=>oM (vT "frame") none dP (aA [(some (vR 9)),(some (vR 3)),(some (vR 3)),none,(some (vS "__main__" 164)),none,(some (vR 0))])
noncomputable def o11:OP:=fun P=>tD [(dE P "__name__" 247 (vS "_sre" 246)),(dE P "__doc__" 248 vN),(dE P "__package__" 250 (vS "" 249)),(dE P "__loader__" 251 (vB "off-the-table:_sre.__loader__:shared#opaque")),(dE P "__spec__" 252 (vB "off-the-table:_sre.__spec__:shared#opaque")),(dE P "compile" 253 (vB "_sre.compile")),(dE P "template" 254 (vB "off-the-table:_sre.template:shared#opaque")),(dE P "getcodesize" 255 (vB "off-the-table:_sre.getcodesize:shared#opaque")),(dE P "ascii_iscased" 256 (vB "off-the-table:_sre.ascii_iscased:shared#opaque")),(dE P "unicode_iscased" 257 (vB "off-the-table:_sre.unicode_iscased:shared#opaque")),(dE P "ascii_tolower" 258 (vB "off-the-table:_sre.ascii_tolower:shared#opaque")),(dE P "unicode_tolower" 259 (vB "off-the-table:_sre.unicode_tolower:shared#opaque")),(dE P "MAGIC" 261 (vI 20230612 260)),(dE P "CODESIZE" 263 (vI 4 262)),(dE P "MAXREPEAT" 265 (vI 4294967295 264)),(dE P "MAXGROUPS" 267 (vI 1073741823 266)),(dE P "copyright" 269 (vS " SRE 2.2.2 Copyright (c) 1997-2002 by Secret Labs AB " 268))] 17
noncomputable def o12:OP:=fun P=>oM (vT "module") (some 11) dP z
noncomputable def o13:OP:=fun P=>tD [(dE P "__module__" 189 (vS "_frozen_importlib" 186)),(dE P "__firstlineno__" 190 (vI 971 187)),(dE P "__doc__" 191 (vB "_frozen_importlib.BuiltinImporter.__doc__:str#opaque")),(dE P "_ORIGIN" 192 (vS "built-in" 188)),(dE P "find_spec" 193 (vB "_frozen_importlib.BuiltinImporter.find_spec#opaque")),(dE P "create_module" 194 (vB "_frozen_importlib.BuiltinImporter.create_module#opaque")),(dE P "exec_module" 195 (vB "_frozen_importlib.BuiltinImporter.exec_module#opaque")),(dE P "get_code" 196 (vB "_frozen_importlib.BuiltinImporter.get_code#opaque")),(dE P "get_source" 197 (vB "_frozen_importlib.BuiltinImporter.get_source#opaque")),(dE P "is_package" 198 (vB "_frozen_importlib.BuiltinImporter.is_package#opaque")),(dE P "load_module" 199 (vB "_frozen_importlib.BuiltinImporter.load_module#opaque")),(dE P "__static_attributes__" 200 (vR 15)),(dE P "__dict__" 202 (vR 16)),(dE P "__weakref__" 204 (vR 17))] 14
noncomputable def o14:OP:=fun P=>oM (vT "type") none (dC (cM (sS "BuiltinImporter") [(vT "object")] [(vR 14),(vT "object")] 13 (sS "BuiltinImporter") true [] [] false none false)) z
noncomputable def o15:OP:=fun P=>tU []
noncomputable def o16:OP:=fun P=>oM (vT "getset_descriptor") none (dF (aA [(vS "__dict__" 201),(vR 14),(vB "function.__dict__"),(vB "function.__dict__#set")])) z
noncomputable def o17:OP:=fun P=>oM (vT "getset_descriptor") none (dF (aA [(vS "__weakref__" 203),(vR 14),(vB "ExceptionGroup.__weakref__"),vN])) z
noncomputable def o18:OP:=fun P=>oM vN none (dS (aA [(vI 13 0),(vS "\x06\xbd\x0a__module__\x06\xba\x11_frozen_importlib\x06\xbe\x0f__firstlineno__\x04\xbb\x00\u03cb\x06\xbf\x07__doc__\x094_frozen_importlib.BuiltinImporter.__doc__:str#opaque\x06\xc0\x07_ORIGIN\x06\xbc\x08built-in\x06\xc1\x09find_spec\x092_frozen_importlib.BuiltinImporter.find_spec#opaque\x06\xc2\x0dcreate_module\x096_frozen_importlib.BuiltinImporter.create_module#opaque\x06\xc3\x0bexec_module\x094_frozen_importlib.BuiltinImporter.exec_module#opaque\x06\xc4\x08get_code\x091_frozen_importlib.BuiltinImporter.get_code#opaque\x06\xc5\x0aget_source\x093_frozen_importlib.BuiltinImporter.get_source#opaque\x06\xc6\x0ais_package\x093_frozen_importlib.BuiltinImporter.is_package#opaque\x06\xc7\x0bload_module\x094_frozen_importlib.BuiltinImporter.load_module#opaque\x06\xc8\x15__static_attributes__\x04\x00\x00\x0f\x06\xca\x08__dict__\x04\x00\x00\x10\x06\xcc\x0b__weakref__\x04\x00\x00\x11" 0),(vO true),(vO true),(vS "" 205),(vI 21 0),(vS "\x06\xe3\x0a__module__\x06\xd9\x11_frozen_importlib\x06\xe4\x0f__firstlineno__\x04\xda\x00\u0232\x06\xe5\x07__doc__\x09/_frozen_importlib.ModuleSpec.__doc__:str#opaque\x06\xe6\x08__init__\x09,_frozen_importlib.ModuleSpec.__init__#opaque\x06\xe7\x08__repr__\x09,_frozen_importlib.ModuleSpec.__repr__#opaque\x06\xe8\x06__eq__\x09*_frozen_importlib.ModuleSpec.__eq__#opaque\x06\xe9\x06cached\x09*_frozen_importlib.ModuleSpec.cached#opaque\x06\xea\x06parent\x09*_frozen_importlib.ModuleSpec.parent#opaque\x06\xeb\x0chas_location\x090_frozen_importlib.ModuleSpec.has_location#opaque\x06\xec\x15__static_attributes__\x04\x00\x00\x17\x06\xee\x08__dict__\x04\x00\x00\x18\x06\xf0\x0b__weakref__\x04\x00\x00\x19\x06\xf1\x08__hash__\x00" 0),(vO true),(vO true),(vS "" 242)]) 1) z
noncomputable def o19:OP:=fun P=>oM (vT "list") none (dS z 0) z
noncomputable def o20:OP:=fun P=>tD [(dE P "name" 208 (vS "_sre" 207)),(dE P "loader" 209 (vR 14)),(dE P "origin" 210 (vS "built-in" 184)),(dE P "loader_state" 211 vN),(dE P "submodule_search_locations" 212 vN),(dE P "_uninitialized_submodules" 213 (vR 19)),(dE P "_set_fileattr" 214 (vO false)),(dE P "_cached" 215 vN),(dE P "_initializing" 243 (vO false))] 9
noncomputable def o21:OP:=fun P=>tD [(dE P "__module__" 227 (vS "_frozen_importlib" 217)),(dE P "__firstlineno__" 228 (vI 562 218)),(dE P "__doc__" 229 (vB "_frozen_importlib.ModuleSpec.__doc__:str#opaque")),(dE P "__init__" 230 (vB "_frozen_importlib.ModuleSpec.__init__#opaque")),(dE P "__repr__" 231 (vB "_frozen_importlib.ModuleSpec.__repr__#opaque")),(dE P "__eq__" 232 (vB "_frozen_importlib.ModuleSpec.__eq__#opaque")),(dE P "cached" 233 (vB "_frozen_importlib.ModuleSpec.cached#opaque")),(dE P "parent" 234 (vB "_frozen_importlib.ModuleSpec.parent#opaque")),(dE P "has_location" 235 (vB "_frozen_importlib.ModuleSpec.has_location#opaque")),(dE P "__static_attributes__" 236 (vR 23)),(dE P "__dict__" 238 (vR 24)),(dE P "__weakref__" 240 (vR 25)),(dE P "__hash__" 241 vN)] 13
noncomputable def o22:OP:=fun P=>oM (vT "type") none (dC (cM (sS "ModuleSpec") [(vT "object")] [(vR 22),(vT "object")] 21 (sS "ModuleSpec") true [] [] false none false)) z
noncomputable def o23:OP:=fun P=>tU [(vS "_cached" 219),(vS "_set_fileattr" 220),(vS "_uninitialized_submodules" 221),(vS "loader" 222),(vS "loader_state" 223),(vS "name" 224),(vS "origin" 225),(vS "submodule_search_locations" 226)]
noncomputable def o24:OP:=fun P=>oM (vT "getset_descriptor") none (dF (aA [(vS "__dict__" 237),(vR 22),(vB "function.__dict__"),(vB "function.__dict__#set")])) z
noncomputable def o25:OP:=fun P=>oM (vT "getset_descriptor") none (dF (aA [(vS "__weakref__" 239),(vR 22),(vB "ExceptionGroup.__weakref__"),vN])) z
noncomputable def o26:OP:=fun P=>oM (vR 22) (some 20) dP z
noncomputable def o27:OP:=fun P=>oM vN none (dS (aA [(vI 11 0),(vX (sM (aA [6,247,8,95,95,110,97,109,101,95,95,6,246,4,95,115,114,101,6,248,7,95,95,100,111,99,95,95,0,6,250,11,95,95,112,97,99,107,97,103,101,95,95,6,249,0,6,251,10,95,95,108,111,97,100,101,114,95,95,4,0,0,14,6,252,8,95,95,115,112,101,99,95,95,4,0,0,26,6,253,7,99,111,109,112,105,108,101,9,12,95,115,114,101,46,99,111,109,112,105,108,101,6,254,8,116,101,109,112,108,97,116,101,9,13,95,115,114,101,46,116,101,109,112,108,97,116,101,6,255,11,103,101,116,99,111,100,101,115,105,122,101,9,16,95,115,114,101,46,103,101,116,99,111,100,101,115,105,122,101,6,256,13,97,115,99,105,105,95,105,115,99,97,115,101,100,9,18,95,115,114,101,46,97,115,99,105,105,95,105,115,99,97,115,101,100,6,257,15,117,110,105,99,111,100,101,95,105,115,99,97,115,101,100,9,20,95,115,114,101,46,117,110,105,99,111,100,101,95,105,115,99,97,115,101,100,6,258,13,97,115,99,105,105,95,116,111,108,111,119,101,114,9,18,95,115,114,101,46,97,115,99,105,105,95,116,111,108,111,119,101,114,6,259,15,117,110,105,99,111,100,101,95,116,111,108,111,119,101,114,9,20,95,115,114,101,46,117,110,105,99,111,100,101,95,116,111,108,111,119,101,114,6,261,5,77,65,71,73,67,4,260,0,20230612,6,263,8,67,79,68,69,83,73,90,69,4,262,0,4,6,265,9,77,65,88,82,69,80,69,65,84,4,264,0,4294967295,6,267,9,77,65,88,71,82,79,85,80,83,4,266,0,1073741823,6,269,9,99,111,112,121,114,105,103,104,116,6,268,53,32,83,82,69,32,50,46,50,46,50,32,67,111,112,121,114,105,103,104,116,32,40,99,41,32,49,57,57,55,45,50,48,48,50,32,98,121,32,83,101,99,114,101,116,32,76,97,98,115,32,65,66,32])) 0),(vO true),(vO false),(vS "_sre" 271)]) 0) z
noncomputable def LT0 (P:Params) (x:Nat→Obj):List Obj:=[o0 P,o1 P,o2 P,o3 P,o4 P,o5 P,o6 P,o7 P,o8 P,o9 P,o10 P,o11 P,o12 P,o13 P,o14 P,o15 P,o16 P,o17 P,o18 P,o19 P,o20 P,o21 P,o22 P,o23 P,o24 P,o25 P,o26 P,o27 P]
noncomputable def T0 (P:Params) (x:Nat→Obj):BT:=trL 10 (LT0 P x)
noncomputable def H0L (P:Params):List Obj:=[o0 P,o1 P,o2 P,o3 P,o4 P,o5 P,o6 P,o7 P,o8 P,o9 P,o10 P,o11 P,o12 P,o13 P,o14 P,o15 P,o16 P,o17 P,o18 P,o19 P,o20 P,o21 P,o22 P,o23 P,o24 P,o25 P,o26 P,o27 P]
noncomputable def life0:Life:=(@PySem.Life.mk [] [] [] 0 [] [] false z [] 0 false false false 0 [2000,10,10] false 0 true [] [] 0 false)
noncomputable def dr0:Drawn:=(@PySem.Drawn.mk 0 0 0 0)
noncomputable def n0:Nat:=28
noncomputable def k0:Nat:=276
noncomputable def o28:OP:=fun P=>tU []
noncomputable def o29:OP:=fun P=>fE
noncomputable def o30:OP:=fun P=>oM (vT "code") none (dF (aA [(vS "<module>" 277),(vS "<module>" 278),(vS "/claim/cut.py" 279),(vI 1 0),(vI 0 0),(vI 0 0),(vI 0 0),(vI 0 0),(vR 28),(vO false),(vI 276 0),(vR 29),vN,vN,vN,vN,(vI 280 0),(vI 1 0),(vS "/claim/cut.py" 281)])) z
noncomputable def o31:OP:=fun P=>oM (vT "frame") none dP (aA [(some (vR 30)),(some (vR 3)),(some (vR 3)),none,(some (vS "__main__" 164)),none,(some (vR 0))])
noncomputable def LTa (P:Params) (x:Nat→Obj):List Obj:=stL [] (LT0 P x)++[o28 P,o29 P,o30 P,o31 P]
noncomputable def Ta (P:Params) (x:Nat→Obj):BT:=trL 10 (LTa P x)
noncomputable def na:Nat:=32
noncomputable def ka:Nat:=282
noncomputable def codeV:Value:=(vR 30)
noncomputable def frameA:Nat:=31
noncomputable def o32:OP:=fun P=>tD [(dE P "__name__" 165 (vS "cpy313.traceback" 289)),(dE P "__doc__" 166 vN),(dE P "__package__" 167 vN),(dE P "__loader__" 168 (vB "__main__.__loader__#opaque")),(dE P "__spec__" 169 vN),(dE P "__annotations__" 170 (vR 6)),(dE P "__builtins__" 171 (vR 4)),(dE P "__file__" 173 (vS "/claim/cut.py" 172)),(dE P "__cached__" 174 vN),(dE P "_sre" 275 (vR 12)),(dE P "_wall" 288 (vR 38)),(dE P "_MAX_STRING_SIZE" 292 (vI 40 291)),(dE P "_MOVE_COST" 294 (vI 2 293)),(dE P "_CASE_COST" 296 (vI 1 295)),(dE P "_substitution_cost" 304 (vR 45)),(dE P "_levenshtein_distance" 324 (vR 52))] 16
noncomputable def o33:OP:=fun P=>oM vN none (dF (aA [(vI 2 0),(vI 0 0),(vR 37),(vI 9 0),(vI 0 0),(vR 44),(vI 15 0),(vI 0 0),(vR 51)])) z
noncomputable def o34:OP:=fun P=>tU []
noncomputable def o35:OP:=fun P=>fE
noncomputable def o36:OP:=fun P=>tU [(vS "k" 285)]
noncomputable def o37:OP:=fun P=>tU []
noncomputable def o38:OP:=fun P=>f0 "_wall" "_wall" (fA 1) (fB 1) (fS 1)
noncomputable def o39:OP:=fun P=>oM (vT "code") none (dF (aA [(vS "_wall" 282),(vS "_wall" 283),(vS "/claim/cut.py" 284),(vI 2 0),(vI 1 0),(vI 0 0),(vI 0 0),(vI 3 0),(vR 32),(vO true),(vI 276 0),(vR 33),vN,(vR 34),(vR 35),(vR 36),(vI 286 0),(vI 2 0),(vS "/claim/cut.py" 287)])) z
noncomputable def o40:OP:=fun P=>f1 "_wall" "_wall" (fA 1) (fB 1) (fS 1) 3 vN vN "__main__" 164 37
noncomputable def o41:OP:=fun P=>tU []
noncomputable def o42:OP:=fun P=>fE
noncomputable def o43:OP:=fun P=>tU [(vS "ch_a" 300),(vS "ch_b" 301)]
noncomputable def o44:OP:=fun P=>tU []
noncomputable def o45:OP:=fun P=>f0 "_substitution_cost" "_substitution_cost" (fA 6) (fB 6) (fS 6)
noncomputable def o46:OP:=fun P=>oM (vT "code") none (dF (aA [(vS "_substitution_cost" 297),(vS "_substitution_cost" 298),(vS "/claim/cut.py" 299),(vI 9 0),(vI 2 0),(vI 0 0),(vI 0 0),(vI 3 0),(vR 39),(vO true),(vI 276 0),(vR 40),vN,(vR 41),(vR 42),(vR 43),(vI 302 0),(vI 9 0),(vS "/claim/cut.py" 303)])) z
noncomputable def o47:OP:=fun P=>f1 "_substitution_cost" "_substitution_cost" (fA 6) (fB 6) (fS 6) 3 vN vN "cpy313.traceback" 289 44
noncomputable def o48:OP:=fun P=>tU []
noncomputable def o49:OP:=fun P=>fE
noncomputable def o50:OP:=fun P=>tU [(vS "a" 308),(vS "b" 309),(vS "max_cost" 310),(vS "pre" 311),(vS "post" 312),(vS "row" 313),(vS "result" 314),(vS "bindex" 315),(vS "bchar" 316),(vS "distance" 317),(vS "minimum" 318),(vS "index" 319),(vS "substitute" 320),(vS "insert_delete" 321)]
noncomputable def o51:OP:=fun P=>tU []
noncomputable def o52:OP:=fun P=>f0 "_levenshtein_distance" "_levenshtein_distance" (fA 7) (fB 7) (fS 7)
noncomputable def o53:OP:=fun P=>oM (vT "code") none (dF (aA [(vS "_levenshtein_distance" 305),(vS "_levenshtein_distance" 306),(vS "/claim/cut.py" 307),(vI 15 0),(vI 3 0),(vI 0 0),(vI 0 0),(vI 3 0),(vR 46),(vO true),(vI 276 0),(vR 47),vN,(vR 48),(vR 49),(vR 50),(vI 322 0),(vI 15 0),(vS "/claim/cut.py" 323)])) z
noncomputable def o54:OP:=fun P=>f1 "_levenshtein_distance" "_levenshtein_distance" (fA 7) (fB 7) (fS 7) 3 vN vN "cpy313.traceback" 289 51
noncomputable def LT1 (P:Params) (x:Nat→Obj):List Obj:=stL [(3,o32 P),(29,o33 P)] (LTa P x)++[o34 P,o35 P,o36 P,o37 P,o38 P,o39 P,o40 P,o41 P,o42 P,o43 P,o44 P,o45 P,o46 P,o47 P,o48 P,o49 P,o50 P,o51 P,o52 P,o53 P,o54 P]
noncomputable def T1 (P:Params) (x:Nat→Obj):BT:=trL 10 (LT1 P x)
noncomputable def n1:Nat:=53
noncomputable def k1:Nat:=325
noncomputable def p1:Pos:=(@PySem.Pos.mk 15 0 52 17)
noncomputable def o55:OP:=fun P=>tD [(dE P "__name__" 165 (vS "cpy313.stringprep" 325)),(dE P "__doc__" 166 vN),(dE P "__package__" 167 vN),(dE P "__loader__" 168 (vB "__main__.__loader__#opaque")),(dE P "__spec__" 169 vN),(dE P "__annotations__" 170 (vR 6)),(dE P "__builtins__" 171 (vR 4)),(dE P "__file__" 173 (vS "/claim/cut.py" 172)),(dE P "__cached__" 174 vN),(dE P "_sre" 275 (vR 12)),(dE P "_wall" 288 (vR 38)),(dE P "_MAX_STRING_SIZE" 292 (vI 40 291)),(dE P "_MOVE_COST" 294 (vI 2 293)),(dE P "_CASE_COST" 296 (vI 1 295)),(dE P "_substitution_cost" 304 (vR 45)),(dE P "_levenshtein_distance" 324 (vR 52))] 16
noncomputable def LT2 (P:Params) (x:Nat→Obj):List Obj:=stL [(3,o55 P)] (LT1 P x)
noncomputable def T2 (P:Params) (x:Nat→Obj):BT:=trL 10 (LT2 P x)
noncomputable def n2:Nat:=53
noncomputable def k2:Nat:=327
noncomputable def p2:Pos:=(@PySem.Pos.mk 53 0 53 8)
noncomputable def o56:OP:=fun P=>tD [(dE P "__name__" 165 (vS "cpy313.stringprep" 325)),(dE P "__doc__" 166 vN),(dE P "__package__" 167 vN),(dE P "__loader__" 168 (vB "__main__.__loader__#opaque")),(dE P "__spec__" 169 vN),(dE P "__annotations__" 170 (vR 6)),(dE P "__builtins__" 171 (vR 4)),(dE P "__file__" 173 (vS "/claim/cut.py" 172)),(dE P "__cached__" 174 vN),(dE P "_sre" 275 (vR 12)),(dE P "_wall" 288 (vR 38)),(dE P "_MAX_STRING_SIZE" 292 (vI 40 291)),(dE P "_MOVE_COST" 294 (vI 2 293)),(dE P "_CASE_COST" 296 (vI 1 295)),(dE P "_substitution_cost" 304 (vR 45)),(dE P "_levenshtein_distance" 324 (vR 52)),(dE P "b1_set" 386 (vR 60))] 17
noncomputable def o57:OP:=fun P=>oM (vT "list") none (dS (aA [(vI 173 327),(vI 847 328),(vI 6150 329),(vI 6155 330),(vI 6156 331),(vI 6157 332),(vI 8203 333),(vI 8204 334),(vI 8205 335),(vI 8288 336),(vI 65279 337)]) 0) z
noncomputable def o58:OP:=fun P=>oM (vT "range") none (dF (aA [(vI 65024 338),(vI 65040 339),(vI 1 340)])) z
noncomputable def o59:OP:=fun P=>oM (vT "list") none (dS (aA [(vI 65024 343),(vI 65025 344),(vI 65026 345),(vI 65027 346),(vI 65028 347),(vI 65029 348),(vI 65030 349),(vI 65031 350),(vI 65032 351),(vI 65033 352),(vI 65034 353),(vI 65035 354),(vI 65036 355),(vI 65037 356),(vI 65038 357),(vI 65039 358)]) 18) z
noncomputable def o60:OP:=fun P=>oM (vT "range_iterator") none (dF (aA [(vI 65040 0),(vI 0 0),(vI 1 0)])) z
noncomputable def o61:OP:=fun P=>tU []
noncomputable def o62:OP:=fun P=>oM (vT "StopIteration") none (dF (aA [(vR 57),vN,vN,vN,(vO false),vN])) z
noncomputable def o63:OP:=fun P=>oM (vT "list") none (dS (aA [(vI 173 327),(vI 847 328),(vI 6150 329),(vI 6155 330),(vI 6156 331),(vI 6157 332),(vI 8203 333),(vI 8204 334),(vI 8205 335),(vI 8288 336),(vI 65279 337),(vI 65024 343),(vI 65025 344),(vI 65026 345),(vI 65027 346),(vI 65028 347),(vI 65029 348),(vI 65030 349),(vI 65031 350),(vI 65032 351),(vI 65033 352),(vI 65034 353),(vI 65035 354),(vI 65036 355),(vI 65037 356),(vI 65038 357),(vI 65039 358)]) 0) z
noncomputable def o64:OP:=fun P=>oM (vT "set") none (@PySem.Data.set (aA [(65024,(vI 65024 343)),(65025,(vI 65025 344)),(65026,(vI 65026 345)),(65027,(vI 65027 346)),(65028,(vI 65028 347)),(65029,(vI 65029 348)),(6150,(vI 6150 329)),(65030,(vI 65030 349)),(65031,(vI 65031 350)),(65032,(vI 65032 351)),(65033,(vI 65033 352)),(6155,(vI 6155 330)),(6156,(vI 6156 331)),(6157,(vI 6157 332)),(8203,(vI 8203 333)),(8204,(vI 8204 334)),(8205,(vI 8205 335)),(65034,(vI 65034 353)),(65035,(vI 65035 354)),(65036,(vI 65036 355)),(65037,(vI 65037 356)),(65038,(vI 65038 357)),(65039,(vI 65039 358)),(173,(vI 173 327)),(847,(vI 847 328)),(8288,(vI 8288 336)),(65279,(vI 65279 337))]) 29 (@PySem.SetTable.mk 127 (aA [0,1,2,3,4,5,6,7,8,9,10,11,12,13,14,15,16,17,18,19,20,21,22,45,79,96,127]) z 0 (@Bool.not (@PySem.Params.followText P "set-order")) 2 true)) z
noncomputable def o65:OP:=fun P=>oM (vT "list_iterator") none (dF (aA [vN,(vI 27 0)])) z
noncomputable def o66:OP:=fun P=>tU []
noncomputable def o67:OP:=fun P=>oM (vT "StopIteration") none (dF (aA [(vR 62),vN,vN,vN,(vO false),vN])) z
noncomputable def LT3 (P:Params) (x:Nat→Obj):List Obj:=stL [(3,o56 P)] (LT2 P x)++[o57 P,o58 P,o59 P,o60 P,o61 P,o62 P,o63 P,o64 P,o65 P,o66 P,o67 P]
noncomputable def T3 (P:Params) (x:Nat→Obj):BT:=trL 10 (LT3 P x)
noncomputable def n3:Nat:=64
noncomputable def k3:Nat:=387
noncomputable def p3:Pos:=(@PySem.Pos.mk 54 0 54 6)
noncomputable def o68:OP:=fun P=>tD [(dE P "__name__" 165 (vS "cpy313.stringprep" 325)),(dE P "__doc__" 166 vN),(dE P "__package__" 167 vN),(dE P "__loader__" 168 (vB "__main__.__loader__#opaque")),(dE P "__spec__" 169 vN),(dE P "__annotations__" 170 (vR 6)),(dE P "__builtins__" 171 (vR 4)),(dE P "__file__" 173 (vS "/claim/cut.py" 172)),(dE P "__cached__" 174 vN),(dE P "_sre" 275 (vR 12)),(dE P "_wall" 288 (vR 38)),(dE P "_MAX_STRING_SIZE" 292 (vI 40 291)),(dE P "_MOVE_COST" 294 (vI 2 293)),(dE P "_CASE_COST" 296 (vI 1 295)),(dE P "_substitution_cost" 304 (vR 45)),(dE P "_levenshtein_distance" 324 (vR 52)),(dE P "b1_set" 386 (vR 60)),(dE P "in_table_b1" 393 (vR 70))] 18
noncomputable def o69:OP:=fun P=>oM vN none (dF (aA [(vI 2 0),(vI 0 0),(vR 37),(vI 9 0),(vI 0 0),(vR 44),(vI 15 0),(vI 0 0),(vR 51),(vI 55 0),(vI 0 0),(vR 69)])) z
noncomputable def o70:OP:=fun P=>tU []
noncomputable def o71:OP:=fun P=>fE
noncomputable def o72:OP:=fun P=>tU [(vS "code" 390)]
noncomputable def o73:OP:=fun P=>tU []
noncomputable def o74:OP:=fun P=>f0 "in_table_b1" "in_table_b1" (fA 10) (fB 10) (fS 10)
noncomputable def o75:OP:=fun P=>oM (vT "code") none (dF (aA [(vS "in_table_b1" 387),(vS "in_table_b1" 388),(vS "/claim/cut.py" 389),(vI 55 0),(vI 1 0),(vI 0 0),(vI 0 0),(vI 3 0),(vR 64),(vO true),(vI 276 0),(vR 65),vN,(vR 66),(vR 67),(vR 68),(vI 391 0),(vI 55 0),(vS "/claim/cut.py" 392)])) z
noncomputable def o76:OP:=fun P=>f1 "in_table_b1" "in_table_b1" (fA 10) (fB 10) (fS 10) 3 vN vN "cpy313.stringprep" 325 69
noncomputable def LT4 (P:Params) (x:Nat→Obj):List Obj:=stL [(3,o68 P),(29,o69 P)] (LT3 P x)++[o70 P,o71 P,o72 P,o73 P,o74 P,o75 P,o76 P]
noncomputable def T4 (P:Params) (x:Nat→Obj):BT:=trL 10 (LT4 P x)
noncomputable def n4:Nat:=71
noncomputable def k4:Nat:=394
noncomputable def p4:Pos:=(@PySem.Pos.mk 55 0 56 30)
noncomputable def BL (P:Params):List Obj:=[o0 P,o1 P,o2 P,o68 P,o4 P,o5 P,o6 P,o7 P,o8 P,o9 P,o10 P,o11 P,o12 P,o13 P,o14 P,o15 P,o16 P,o17 P,o18 P,o19 P,o20 P,o21 P,o22 P,o23 P,o24 P,o25 P,o26 P,o27 P,o28 P,o69 P,o30 P,o31 P,o34 P,o35 P,o36 P,o37 P,o38 P,o39 P,o40 P,o41 P,o42 P,o43 P,o44 P,o45 P,o46 P,o47 P,o48 P,o49 P,o50 P,o51 P,o52 P,o53 P,o54 P,o57 P,o58 P,o59 P,o60 P,o61 P,o62 P,o63 P,o64 P,o65 P,o66 P,o67 P,o70 P,o71 P,o72 P,o73 P,o74 P,o75 P,o76 P]
noncomputable def LTm (P:Params) (x:Nat→Obj):List Obj:=stL [] (LT4 P x)++[x 0,x 1,x 2,x 3,x 4,x 5,x 6,x 7,x 8,x 9,x 10,x 11,x 12,x 13,x 14,x 15,x 16,x 17,x 18,x 19,x 20,x 21,x 22,x 23,x 24,x 25,x 26,x 27,x 28,x 29,x 30,x 31,x 32,x 33,x 34,x 35,x 36,x 37,x 38]
noncomputable def Tm (P:Params) (x:Nat→Obj):BT:=trL 10 (LTm P x)
noncomputable def o77:OP:=fun P=>tD [(dE P "__name__" 165 (vS "cpy313.stringprep" 325)),(dE P "__doc__" 166 vN),(dE P "__package__" 167 vN),(dE P "__loader__" 168 (vB "__main__.__loader__#opaque")),(dE P "__spec__" 169 vN),(dE P "__annotations__" 170 (vR 6)),(dE P "__builtins__" 171 (vR 4)),(dE P "__file__" 173 (vS "/claim/cut.py" 172)),(dE P "__cached__" 174 vN),(dE P "_sre" 275 (vR 12)),(dE P "_wall" 288 (vR 38)),(dE P "_MAX_STRING_SIZE" 292 (vI 40 291)),(dE P "_MOVE_COST" 294 (vI 2 293)),(dE P "_CASE_COST" 296 (vI 1 295)),(dE P "_substitution_cost" 304 (vR 45)),(dE P "_levenshtein_distance" 324 (vR 52)),(dE P "b1_set" 386 (vR 60)),(dE P "in_table_b1" 393 (vR 70)),(dE P "b3_exceptions" 2344 (vR 71))] 19
noncomputable def LT5 (P:Params) (x:Nat→Obj):List Obj:=stL [(3,o77 P)] (LTm P x)
noncomputable def T5 (P:Params) (x:Nat→Obj):BT:=trL 10 (LT5 P x)
noncomputable def n5:Nat:=110
noncomputable def k5:Nat:=2345
noncomputable def p5:Pos:=(@PySem.Pos.mk 57 0 57 13)
noncomputable def o117:OP:=fun P=>tD [(dE P "__name__" 165 (vS "cpy313.wsgiref.headers" 2353)),(dE P "__doc__" 166 vN),(dE P "__package__" 167 vN),(dE P "__loader__" 168 (vB "__main__.__loader__#opaque")),(dE P "__spec__" 169 vN),(dE P "__annotations__" 170 (vR 6)),(dE P "__builtins__" 171 (vR 4)),(dE P "__file__" 173 (vS "/claim/cut.py" 172)),(dE P "__cached__" 174 vN),(dE P "_sre" 275 (vR 12)),(dE P "_wall" 288 (vR 38)),(dE P "_MAX_STRING_SIZE" 292 (vI 40 291)),(dE P "_MOVE_COST" 294 (vI 2 293)),(dE P "_CASE_COST" 296 (vI 1 295)),(dE P "_substitution_cost" 304 (vR 45)),(dE P "_levenshtein_distance" 324 (vR 52)),(dE P "b1_set" 386 (vR 60)),(dE P "in_table_b1" 393 (vR 70)),(dE P "b3_exceptions" 2344 (vR 71)),(dE P "map_table_b3" 2352 (vR 116)),(dE P "_name_disallowed_re" 2380 (vR 121)),(dE P "_value_disallowed_re" 2414 (vR 126))] 22
noncomputable def o118:OP:=fun P=>oM vN none (dF (aA [(vI 2 0),(vI 0 0),(vR 37),(vI 9 0),(vI 0 0),(vR 44),(vI 15 0),(vI 0 0),(vR 51),(vI 55 0),(vI 0 0),(vR 69),(vI 58 0),(vI 0 0),(vR 115)])) z
noncomputable def o119:OP:=fun P=>tU []
noncomputable def o120:OP:=fun P=>fE
noncomputable def o121:OP:=fun P=>tU [(vS "code" 2348),(vS "r" 2349)]
noncomputable def o122:OP:=fun P=>tU []
noncomputable def o123:OP:=fun P=>f0 "map_table_b3" "map_table_b3" (fA 12) (fB 12) (fS 12)
noncomputable def o124:OP:=fun P=>oM (vT "code") none (dF (aA [(vS "map_table_b3" 2345),(vS "map_table_b3" 2346),(vS "/claim/cut.py" 2347),(vI 58 0),(vI 1 0),(vI 0 0),(vI 0 0),(vI 3 0),(vR 110),(vO true),(vI 276 0),(vR 111),vN,(vR 112),(vR 113),(vR 114),(vI 2350 0),(vI 58 0),(vS "/claim/cut.py" 2351)])) z
noncomputable def o125:OP:=fun P=>f1 "map_table_b3" "map_table_b3" (fA 12) (fB 12) (fS 12) 3 vN vN "cpy313.stringprep" 325 115
noncomputable def o126:OP:=fun P=>oM (vT "list") none (dS (aA [(vI 14 2358),(vI 10 2359),(vI 4 2360),(vI 1 2361),(vI 1 2362),(vI 22 2363),(vI 0 2364),(vI 31 2365),(vI 16 2366),(vI 127 2367),(vI 0 2368),(vI 13 2369),(vI 7 2370),(vI 22 2371),(vI 0 2372),(vI 31 2373),(vI 16 2374),(vI 127 2375),(vI 0 2376),(vI 1 2377)]) 0) z
noncomputable def o127:OP:=fun P=>oM (vT "dict") none (dD z 0) z
noncomputable def o128:OP:=fun P=>tU [vN]
noncomputable def o129:OP:=fun P=>tU [(vI 14 0),(vI 10 0),(vI 4 0),(vI 1 0),(vI 1 0),(vI 22 0),(vI 0 0),(vI 31 0),(vI 16 0),(vI 127 0),(vI 0 0),(vI 13 0),(vI 7 0),(vI 22 0),(vI 0 0),(vI 31 0),(vI 16 0),(vI 127 0),(vI 0 0),(vI 1 0)]
noncomputable def o130:OP:=fun P=>oM (vT "re.Pattern") none (dF (aA [(vS "[\\x00-\\x1F\\x7F]" 2356),(vI 32 2379),(vI 0 0),vN,vN,(vR 120),(vI 0 0)])) z
noncomputable def o131:OP:=fun P=>oM (vT "list") none (dS (aA [(vI 14 2384),(vI 14 2385),(vI 4 2386),(vI 1 2387),(vI 1 2388),(vI 9 2389),(vI 4294966783 2390),(vI 0 2391),(vI 0 2392),(vI 2147483648 2393),(vI 0 2394),(vI 0 2395),(vI 0 2396),(vI 0 2397),(vI 0 2398),(vI 13 2399),(vI 11 2400),(vI 9 2401),(vI 4294966783 2402),(vI 0 2403),(vI 0 2404),(vI 2147483648 2405),(vI 0 2406),(vI 0 2407),(vI 0 2408),(vI 0 2409),(vI 0 2410),(vI 1 2411)]) 0) z
noncomputable def o132:OP:=fun P=>oM (vT "dict") none (dD z 0) z
noncomputable def o133:OP:=fun P=>tU [vN]
noncomputable def o134:OP:=fun P=>tU [(vI 14 0),(vI 14 0),(vI 4 0),(vI 1 0),(vI 1 0),(vI 9 0),(vI 4294966783 0),(vI 0 0),(vI 0 0),(vI 2147483648 0),(vI 0 0),(vI 0 0),(vI 0 0),(vI 0 0),(vI 0 0),(vI 13 0),(vI 11 0),(vI 9 0),(vI 4294966783 0),(vI 0 0),(vI 0 0),(vI 2147483648 0),(vI 0 0),(vI 0 0),(vI 0 0),(vI 0 0),(vI 0 0),(vI 1 0)]
noncomputable def o135:OP:=fun P=>oM (vT "re.Pattern") none (dF (aA [(vS "[\\x00-\\x08\\x0A-\\x1F\\x7F]" 2382),(vI 32 2413),(vI 0 0),vN,vN,(vR 125),(vI 0 0)])) z
noncomputable def LT6 (P:Params) (x:Nat→Obj):List Obj:=stL [(3,o117 P),(29,o118 P)] (LT5 P x)++[o119 P,o120 P,o121 P,o122 P,o123 P,o124 P,o125 P,o126 P,o127 P,o128 P,o129 P,o130 P,o131 P,o132 P,o133 P,o134 P,o135 P]
noncomputable def T6 (P:Params) (x:Nat→Obj):BT:=trL 10 (LT6 P x)
noncomputable def n6:Nat:=127
noncomputable def k6:Nat:=2415
noncomputable def p6:Pos:=(@PySem.Pos.mk 65 0 65 20)
noncomputable def o136:OP:=fun P=>tD [(dE P "__name__" 165 (vS "cpy313.wsgiref.headers" 2353)),(dE P "__doc__" 166 vN),(dE P "__package__" 167 vN),(dE P "__loader__" 168 (vB "__main__.__loader__#opaque")),(dE P "__spec__" 169 vN),(dE P "__annotations__" 170 (vR 6)),(dE P "__builtins__" 171 (vR 4)),(dE P "__file__" 173 (vS "/claim/cut.py" 172)),(dE P "__cached__" 174 vN),(dE P "_sre" 275 (vR 12)),(dE P "_wall" 288 (vR 38)),(dE P "_MAX_STRING_SIZE" 292 (vI 40 291)),(dE P "_MOVE_COST" 294 (vI 2 293)),(dE P "_CASE_COST" 296 (vI 1 295)),(dE P "_substitution_cost" 304 (vR 45)),(dE P "_levenshtein_distance" 324 (vR 52)),(dE P "b1_set" 386 (vR 60)),(dE P "in_table_b1" 393 (vR 70)),(dE P "b3_exceptions" 2344 (vR 71)),(dE P "map_table_b3" 2352 (vR 116)),(dE P "_name_disallowed_re" 2380 (vR 121)),(dE P "_value_disallowed_re" 2414 (vR 126)),(dE P "Headers" 2569 (vR 247))] 23
noncomputable def o137:OP:=fun P=>oM vN none (dF (aA [(vI 2 0),(vI 0 0),(vR 37),(vI 9 0),(vI 0 0),(vR 44),(vI 15 0),(vI 0 0),(vR 51),(vI 55 0),(vI 0 0),(vR 69),(vI 58 0),(vI 0 0),(vR 115),(vI 66 0),(vI 0 0),(vR 132)])) z
noncomputable def o138:OP:=fun P=>tU []
noncomputable def o139:OP:=fun P=>oM (vT "builtin_function_or_method") none (dF (aA [(vB "type.__prepare__"),(vT "type")])) z
noncomputable def o140:OP:=fun P=>tD [(dE P "__module__" 2422 (vS "cpy313.wsgiref.headers" 2353)),(dE P "__qualname__" 2424 (vS "Headers" 2423)),(dE P "__firstlineno__" 2426 (vI 66 2425)),(dE P "__init__" 2436 (vR 141)),(dE P "_convert_string_type" 2446 (vR 148)),(dE P "__len__" 2453 (vR 155)),(dE P "__setitem__" 2462 (vR 162)),(dE P "__delitem__" 2468 (vR 167)),(dE P "__getitem__" 2476 (vR 174)),(dE P "__contains__" 2484 (vR 181)),(dE P "get_all" 2490 (vR 186)),(dE P "get" 2501 (vR 194)),(dE P "keys" 2507 (vR 199)),(dE P "values" 2513 (vR 204)),(dE P "items" 2520 (vR 211)),(dE P "__repr__" 2527 (vR 218)),(dE P "__str__" 2533 (vR 223)),(dE P "__bytes__" 2540 (vR 230)),(dE P "setdefault" 2550 (vR 237)),(dE P "add_header" 2560 (vR 244)),(dE P "__static_attributes__" 2562 (vR 245))] 21
noncomputable def o141:OP:=fun P=>tU []
noncomputable def o142:OP:=fun P=>oM vN none (dF (aA [(vI 68 0),(vI 4 0),(vR 140),(vI 78 0),(vI 4 0),(vR 147),(vI 86 0),(vI 4 0),(vR 154),(vI 89 0),(vI 4 0),(vR 161),(vI 93 0),(vI 4 0),(vR 166),(vI 97 0),(vI 4 0),(vR 173),(vI 100 0),(vI 4 0),(vR 180),(vI 103 0),(vI 4 0),(vR 185),(vI 107 0),(vI 4 0),(vR 193),(vI 114 0),(vI 4 0),(vR 198),(vI 117 0),(vI 4 0),(vR 203),(vI 120 0),(vI 4 0),(vR 210),(vI 123 0),(vI 4 0),(vR 217),(vI 126 0),(vI 4 0),(vR 222),(vI 129 0),(vI 4 0),(vR 229),(vI 132 0),(vI 4 0),(vR 236),(vI 140 0),(vI 4 0),(vR 243)])) z
noncomputable def o143:OP:=fun P=>oM (vT "code") none (dF (aA [(vS "Headers" 2417),(vS "Headers" 2418),(vS "/claim/cut.py" 2419),(vI 66 0),(vI 0 0),(vI 0 0),(vI 0 0),(vI 0 0),(vR 130),(vO false),(vI 276 0),(vR 131),vN,vN,vN,vN,(vI 2420 0),(vI 66 0),(vS "/claim/cut.py" 2421)])) z
noncomputable def o144:OP:=fun P=>oM (vT "frame") none dP (aA [(some (vR 132)),(some (vR 3)),(some (vR 129)),none,(some (vS "cpy313.wsgiref.headers" 2353)),none,(some (vR 0))])
noncomputable def o145:OP:=fun P=>tU [vN]
noncomputable def o146:OP:=fun P=>tU []
noncomputable def o147:OP:=fun P=>fE
noncomputable def o148:OP:=fun P=>tU [(vS "self" 2430),(vS "headers" 2431),(vS "k" 2432),(vS "v" 2433)]
noncomputable def o149:OP:=fun P=>tU []
noncomputable def o150:OP:=fun P=>f0 "__init__" "Headers.__init__" (cA 16 0) (cB 16 0) (cS 16 0)
noncomputable def o151:OP:=fun P=>oM (vT "code") none (dF (aA [(vS "__init__" 2427),(vS "Headers.__init__" 2428),(vS "/claim/cut.py" 2429),(vI 68 0),(vI 2 0),(vI 0 0),(vI 0 0),(vI 3 0),(vR 135),(vO true),(vI 276 0),(vR 136),vN,(vR 137),(vR 138),(vR 139),(vI 2434 0),(vI 68 0),(vS "/claim/cut.py" 2435)])) z
noncomputable def o152:OP:=fun P=>f1 "__init__" "Headers.__init__" (cA 16 0) (cB 16 0) (cS 16 0) 3 (vR 134) vN "cpy313.wsgiref.headers" 2353 140
noncomputable def o153:OP:=fun P=>tU []
noncomputable def o154:OP:=fun P=>fE
noncomputable def o155:OP:=fun P=>tU [(vS "self" 2440),(vS "value" 2441),(vS "name" 2442),(vS "regex" 2443)]
noncomputable def o156:OP:=fun P=>tU []
noncomputable def o157:OP:=fun P=>f0 "_convert_string_type" "Headers._convert_string_type" (cA 16 1) (cB 16 1) (cS 16 1)
noncomputable def o158:OP:=fun P=>oM (vT "code") none (dF (aA [(vS "_convert_string_type" 2437),(vS "Headers._convert_string_type" 2438),(vS "/claim/cut.py" 2439),(vI 78 0),(vI 2 0),(vI 0 0),(vI 1 0),(vI 3 0),(vR 142),(vO true),(vI 276 0),(vR 143),vN,(vR 144),(vR 145),(vR 146),(vI 2444 0),(vI 78 0),(vS "/claim/cut.py" 2445)])) z
noncomputable def o159:OP:=fun P=>f1 "_convert_string_type" "Headers._convert_string_type" (cA 16 1) (cB 16 1) (cS 16 1) 3 vN vN "cpy313.wsgiref.headers" 2353 147
noncomputable def o160:OP:=fun P=>tU []
noncomputable def o161:OP:=fun P=>fE
noncomputable def o162:OP:=fun P=>tU [(vS "self" 2450)]
noncomputable def o163:OP:=fun P=>tU []
noncomputable def o164:OP:=fun P=>f0 "__len__" "Headers.__len__" (cA 16 2) (cB 16 2) (cS 16 2)
noncomputable def o165:OP:=fun P=>oM (vT "code") none (dF (aA [(vS "__len__" 2447),(vS "Headers.__len__" 2448),(vS "/claim/cut.py" 2449),(vI 86 0),(vI 1 0),(vI 0 0),(vI 0 0),(vI 3 0),(vR 149),(vO true),(vI 276 0),(vR 150),vN,(vR 151),(vR 152),(vR 153),(vI 2451 0),(vI 86 0),(vS "/claim/cut.py" 2452)])) z
noncomputable def o166:OP:=fun P=>f1 "__len__" "Headers.__len__" (cA 16 2) (cB 16 2) (cS 16 2) 3 vN vN "cpy313.wsgiref.headers" 2353 154
noncomputable def o167:OP:=fun P=>tU []
noncomputable def o168:OP:=fun P=>fE
noncomputable def o169:OP:=fun P=>tU [(vS "self" 2457),(vS "name" 2458),(vS "val" 2459)]
noncomputable def o170:OP:=fun P=>tU []
noncomputable def o171:OP:=fun P=>f0 "__setitem__" "Headers.__setitem__" (cA 16 3) (cB 16 3) (cS 16 3)
noncomputable def o172:OP:=fun P=>oM (vT "code") none (dF (aA [(vS "__setitem__" 2454),(vS "Headers.__setitem__" 2455),(vS "/claim/cut.py" 2456),(vI 89 0),(vI 3 0),(vI 0 0),(vI 0 0),(vI 3 0),(vR 156),(vO true),(vI 276 0),(vR 157),vN,(vR 158),(vR 159),(vR 160),(vI 2460 0),(vI 89 0),(vS "/claim/cut.py" 2461)])) z
noncomputable def o173:OP:=fun P=>f1 "__setitem__" "Headers.__setitem__" (cA 16 3) (cB 16 3) (cS 16 3) 3 vN vN "cpy313.wsgiref.headers" 2353 161
noncomputable def o174:OP:=fun P=>tU []
noncomputable def o175:OP:=fun P=>fE
noncomputable def o176:OP:=fun P=>f0 "__delitem__" "Headers.__delitem__" (cA 16 4) (cB 16 4) (cS 16 7)
noncomputable def o177:OP:=fun P=>oM (vT "code") none (dF (aA [(vS "__delitem__" 2463),(vS "Headers.__delitem__" 2464),(vS "/claim/cut.py" 2465),(vI 93 0),(vI 2 0),(vI 0 0),(vI 0 0),(vI 3 0),(vR 163),(vO true),(vI 276 0),(vR 164),vN,vN,vN,(vR 165),(vI 2466 0),(vI 93 0),(vS "/claim/cut.py" 2467)])) z
noncomputable def o178:OP:=fun P=>f1 "__delitem__" "Headers.__delitem__" (cA 16 4) (cB 16 4) (cS 16 7) 3 vN vN "cpy313.wsgiref.headers" 2353 166
noncomputable def o179:OP:=fun P=>tU []
noncomputable def o180:OP:=fun P=>fE
noncomputable def o181:OP:=fun P=>tU [(vS "self" 2472),(vS "name" 2473)]
noncomputable def o182:OP:=fun P=>tU []
noncomputable def o183:OP:=fun P=>f0 "__getitem__" "Headers.__getitem__" (cA 16 5) (cB 16 5) (cS 16 6)
noncomputable def o184:OP:=fun P=>oM (vT "code") none (dF (aA [(vS "__getitem__" 2469),(vS "Headers.__getitem__" 2470),(vS "/claim/cut.py" 2471),(vI 97 0),(vI 2 0),(vI 0 0),(vI 0 0),(vI 3 0),(vR 168),(vO true),(vI 276 0),(vR 169),vN,(vR 170),(vR 171),(vR 172),(vI 2474 0),(vI 97 0),(vS "/claim/cut.py" 2475)])) z
noncomputable def o185:OP:=fun P=>f1 "__getitem__" "Headers.__getitem__" (cA 16 5) (cB 16 5) (cS 16 6) 3 vN vN "cpy313.wsgiref.headers" 2353 173
noncomputable def o186:OP:=fun P=>tU []
noncomputable def o187:OP:=fun P=>fE
noncomputable def o188:OP:=fun P=>tU [(vS "self" 2480),(vS "name" 2481)]
noncomputable def o189:OP:=fun P=>tU []
noncomputable def o190:OP:=fun P=>f0 "__contains__" "Headers.__contains__" (cA 16 6) (cB 16 6) (cS 16 6)
noncomputable def o191:OP:=fun P=>oM (vT "code") none (dF (aA [(vS "__contains__" 2477),(vS "Headers.__contains__" 2478),(vS "/claim/cut.py" 2479),(vI 100 0),(vI 2 0),(vI 0 0),(vI 0 0),(vI 3 0),(vR 175),(vO true),(vI 276 0),(vR 176),vN,(vR 177),(vR 178),(vR 179),(vI 2482 0),(vI 100 0),(vS "/claim/cut.py" 2483)])) z
noncomputable def o192:OP:=fun P=>f1 "__contains__" "Headers.__contains__" (cA 16 6) (cB 16 6) (cS 16 6) 3 vN vN "cpy313.wsgiref.headers" 2353 180
noncomputable def o193:OP:=fun P=>tU []
noncomputable def o194:OP:=fun P=>fE
noncomputable def o195:OP:=fun P=>f0 "get_all" "Headers.get_all" (cA 16 7) (cB 16 7) (cS 16 7)
noncomputable def o196:OP:=fun P=>oM (vT "code") none (dF (aA [(vS "get_all" 2485),(vS "Headers.get_all" 2486),(vS "/claim/cut.py" 2487),(vI 103 0),(vI 2 0),(vI 0 0),(vI 0 0),(vI 3 0),(vR 182),(vO true),(vI 276 0),(vR 183),vN,vN,vN,(vR 184),(vI 2488 0),(vI 103 0),(vS "/claim/cut.py" 2489)])) z
noncomputable def o197:OP:=fun P=>f1 "get_all" "Headers.get_all" (cA 16 7) (cB 16 7) (cS 16 7) 3 vN vN "cpy313.wsgiref.headers" 2353 185
noncomputable def o198:OP:=fun P=>tU [vN]
noncomputable def o199:OP:=fun P=>tU []
noncomputable def o200:OP:=fun P=>fE
noncomputable def o201:OP:=fun P=>tU [(vS "self" 2494),(vS "name" 2495),(vS "default" 2496),(vS "k" 2497),(vS "v" 2498)]
noncomputable def o202:OP:=fun P=>tU []
noncomputable def o203:OP:=fun P=>f0 "get" "Headers.get" (cA 16 8) (cB 16 8) (cS 16 8)
noncomputable def o204:OP:=fun P=>oM (vT "code") none (dF (aA [(vS "get" 2491),(vS "Headers.get" 2492),(vS "/claim/cut.py" 2493),(vI 107 0),(vI 3 0),(vI 0 0),(vI 0 0),(vI 3 0),(vR 188),(vO true),(vI 276 0),(vR 189),vN,(vR 190),(vR 191),(vR 192),(vI 2499 0),(vI 107 0),(vS "/claim/cut.py" 2500)])) z
noncomputable def o205:OP:=fun P=>f1 "get" "Headers.get" (cA 16 8) (cB 16 8) (cS 16 8) 3 (vR 187) vN "cpy313.wsgiref.headers" 2353 193
noncomputable def o206:OP:=fun P=>tU []
noncomputable def o207:OP:=fun P=>fE
noncomputable def o208:OP:=fun P=>f0 "keys" "Headers.keys" (cA 16 9) (cB 16 9) (cS 16 10)
noncomputable def o209:OP:=fun P=>oM (vT "code") none (dF (aA [(vS "keys" 2502),(vS "Headers.keys" 2503),(vS "/claim/cut.py" 2504),(vI 114 0),(vI 1 0),(vI 0 0),(vI 0 0),(vI 3 0),(vR 195),(vO true),(vI 276 0),(vR 196),vN,vN,vN,(vR 197),(vI 2505 0),(vI 114 0),(vS "/claim/cut.py" 2506)])) z
noncomputable def o210:OP:=fun P=>f1 "keys" "Headers.keys" (cA 16 9) (cB 16 9) (cS 16 10) 3 vN vN "cpy313.wsgiref.headers" 2353 198
noncomputable def o211:OP:=fun P=>tU []
noncomputable def o212:OP:=fun P=>fE
noncomputable def o213:OP:=fun P=>f0 "values" "Headers.values" (cA 16 10) (cB 16 10) (cS 16 10)
noncomputable def o214:OP:=fun P=>oM (vT "code") none (dF (aA [(vS "values" 2508),(vS "Headers.values" 2509),(vS "/claim/cut.py" 2510),(vI 117 0),(vI 1 0),(vI 0 0),(vI 0 0),(vI 3 0),(vR 200),(vO true),(vI 276 0),(vR 201),vN,vN,vN,(vR 202),(vI 2511 0),(vI 117 0),(vS "/claim/cut.py" 2512)])) z
noncomputable def o215:OP:=fun P=>f1 "values" "Headers.values" (cA 16 10) (cB 16 10) (cS 16 10) 3 vN vN "cpy313.wsgiref.headers" 2353 203
noncomputable def o216:OP:=fun P=>tU []
noncomputable def o217:OP:=fun P=>fE
noncomputable def o218:OP:=fun P=>tU [(vS "self" 2517)]
noncomputable def o219:OP:=fun P=>tU []
noncomputable def o220:OP:=fun P=>f0 "items" "Headers.items" (cA 16 11) (cB 16 11) (cS 16 12)
noncomputable def o221:OP:=fun P=>oM (vT "code") none (dF (aA [(vS "items" 2514),(vS "Headers.items" 2515),(vS "/claim/cut.py" 2516),(vI 120 0),(vI 1 0),(vI 0 0),(vI 0 0),(vI 3 0),(vR 205),(vO true),(vI 276 0),(vR 206),vN,(vR 207),(vR 208),(vR 209),(vI 2518 0),(vI 120 0),(vS "/claim/cut.py" 2519)])) z
noncomputable def o222:OP:=fun P=>f1 "items" "Headers.items" (cA 16 11) (cB 16 11) (cS 16 12) 3 vN vN "cpy313.wsgiref.headers" 2353 210
noncomputable def o223:OP:=fun P=>tU []
noncomputable def o224:OP:=fun P=>fE
noncomputable def o225:OP:=fun P=>tU [(vS "self" 2524)]
noncomputable def o226:OP:=fun P=>tU []
noncomputable def o227:OP:=fun P=>f0 "__repr__" "Headers.__repr__" (cA 16 12) (cB 16 12) (cS 16 12)
noncomputable def o228:OP:=fun P=>oM (vT "code") none (dF (aA [(vS "__repr__" 2521),(vS "Headers.__repr__" 2522),(vS "/claim/cut.py" 2523),(vI 123 0),(vI 1 0),(vI 0 0),(vI 0 0),(vI 3 0),(vR 212),(vO true),(vI 276 0),(vR 213),vN,(vR 214),(vR 215),(vR 216),(vI 2525 0),(vI 123 0),(vS "/claim/cut.py" 2526)])) z
noncomputable def o229:OP:=fun P=>f1 "__repr__" "Headers.__repr__" (cA 16 12) (cB 16 12) (cS 16 12) 3 vN vN "cpy313.wsgiref.headers" 2353 217
noncomputable def o230:OP:=fun P=>tU []
noncomputable def o231:OP:=fun P=>fE
noncomputable def o232:OP:=fun P=>f0 "__str__" "Headers.__str__" (cA 16 13) (cB 16 13) (cS 16 13)
noncomputable def o233:OP:=fun P=>oM (vT "code") none (dF (aA [(vS "__str__" 2528),(vS "Headers.__str__" 2529),(vS "/claim/cut.py" 2530),(vI 126 0),(vI 1 0),(vI 0 0),(vI 0 0),(vI 3 0),(vR 219),(vO true),(vI 276 0),(vR 220),vN,vN,vN,(vR 221),(vI 2531 0),(vI 126 0),(vS "/claim/cut.py" 2532)])) z
noncomputable def o234:OP:=fun P=>f1 "__str__" "Headers.__str__" (cA 16 13) (cB 16 13) (cS 16 13) 3 vN vN "cpy313.wsgiref.headers" 2353 222
noncomputable def o235:OP:=fun P=>tU []
noncomputable def o236:OP:=fun P=>fE
noncomputable def o237:OP:=fun P=>tU [(vS "self" 2537)]
noncomputable def o238:OP:=fun P=>tU []
noncomputable def o239:OP:=fun P=>f0 "__bytes__" "Headers.__bytes__" (cA 16 14) (cB 16 14) (cS 16 14)
noncomputable def o240:OP:=fun P=>oM (vT "code") none (dF (aA [(vS "__bytes__" 2534),(vS "Headers.__bytes__" 2535),(vS "/claim/cut.py" 2536),(vI 129 0),(vI 1 0),(vI 0 0),(vI 0 0),(vI 3 0),(vR 224),(vO true),(vI 276 0),(vR 225),vN,(vR 226),(vR 227),(vR 228),(vI 2538 0),(vI 129 0),(vS "/claim/cut.py" 2539)])) z
noncomputable def o241:OP:=fun P=>f1 "__bytes__" "Headers.__bytes__" (cA 16 14) (cB 16 14) (cS 16 14) 3 vN vN "cpy313.wsgiref.headers" 2353 229
noncomputable def o242:OP:=fun P=>tU []
noncomputable def o243:OP:=fun P=>fE
noncomputable def o244:OP:=fun P=>tU [(vS "self" 2544),(vS "name" 2545),(vS "value" 2546),(vS "result" 2547)]
noncomputable def o245:OP:=fun P=>tU []
noncomputable def o246:OP:=fun P=>f0 "setdefault" "Headers.setdefault" (cA 16 15) (cB 16 15) (cS 16 15)
noncomputable def o247:OP:=fun P=>oM (vT "code") none (dF (aA [(vS "setdefault" 2541),(vS "Headers.setdefault" 2542),(vS "/claim/cut.py" 2543),(vI 132 0),(vI 3 0),(vI 0 0),(vI 0 0),(vI 3 0),(vR 231),(vO true),(vI 276 0),(vR 232),vN,(vR 233),(vR 234),(vR 235),(vI 2548 0),(vI 132 0),(vS "/claim/cut.py" 2549)])) z
noncomputable def o248:OP:=fun P=>f1 "setdefault" "Headers.setdefault" (cA 16 15) (cB 16 15) (cS 16 15) 3 vN vN "cpy313.wsgiref.headers" 2353 236
noncomputable def o249:OP:=fun P=>tU []
noncomputable def o250:OP:=fun P=>fE
noncomputable def o251:OP:=fun P=>tU [(vS "self" 2554),(vS "_name" 2555),(vS "_value" 2556),(vS "_params" 2557)]
noncomputable def o252:OP:=fun P=>tU []
noncomputable def o253:OP:=fun P=>f0 "add_header" "Headers.add_header" (cA 16 16) (cB 16 16) (cS 16 16)
noncomputable def o254:OP:=fun P=>oM (vT "code") none (dF (aA [(vS "add_header" 2551),(vS "Headers.add_header" 2552),(vS "/claim/cut.py" 2553),(vI 140 0),(vI 3 0),(vI 0 0),(vI 0 0),(vI 11 0),(vR 238),(vO true),(vI 276 0),(vR 239),vN,(vR 240),(vR 241),(vR 242),(vI 2558 0),(vI 140 0),(vS "/claim/cut.py" 2559)])) z
noncomputable def o255:OP:=fun P=>f1 "add_header" "Headers.add_header" (cA 16 16) (cB 16 16) (cS 16 16) 3 vN vN "cpy313.wsgiref.headers" 2353 243
noncomputable def o256:OP:=fun P=>tU [(vS "_headers" 2561)]
noncomputable def o257:OP:=fun P=>tD [(dE P "__module__" 2422 (vS "cpy313.wsgiref.headers" 2353)),(dE P "__firstlineno__" 2426 (vI 66 2425)),(dE P "__init__" 2436 (vR 141)),(dE P "_convert_string_type" 2446 (vR 148)),(dE P "__len__" 2453 (vR 155)),(dE P "__setitem__" 2462 (vR 162)),(dE P "__delitem__" 2468 (vR 167)),(dE P "__getitem__" 2476 (vR 174)),(dE P "__contains__" 2484 (vR 181)),(dE P "get_all" 2490 (vR 186)),(dE P "get" 2501 (vR 194)),(dE P "keys" 2507 (vR 199)),(dE P "values" 2513 (vR 204)),(dE P "items" 2520 (vR 211)),(dE P "__repr__" 2527 (vR 218)),(dE P "__str__" 2533 (vR 223)),(dE P "__bytes__" 2540 (vR 230)),(dE P "setdefault" 2550 (vR 237)),(dE P "add_header" 2560 (vR 244)),(dE P "__static_attributes__" 2562 (vR 245)),(dE P "__dict__" 2564 (vR 248)),(dE P "__weakref__" 2566 (vR 249)),(dE P "__doc__" 2567 vN)] 4
noncomputable def o258:OP:=fun P=>oM (vT "type") none (dC (cM (sS "Headers") [(vT "object")] [(vR 247),(vT "object")] 246 (sS "Headers") true [] [] false none false)) (aA [none,none,(some (vS "Headers" 2415)),(some (vS "Headers" 2423)),(some (vB "object.__new__")),(some (vO true))])
noncomputable def o259:OP:=fun P=>oM (vT "getset_descriptor") none (dF (aA [(vS "__dict__" 2563),(vR 247),(vB "function.__dict__"),(vB "function.__dict__#set")])) z
noncomputable def o260:OP:=fun P=>oM (vT "getset_descriptor") none (dF (aA [(vS "__weakref__" 2565),(vR 247),(vB "ExceptionGroup.__weakref__"),vN])) z
noncomputable def o261:OP:=fun P=>oM (vT "super") none (dF (aA [(vR 247),(vR 247),(vR 247)])) z
noncomputable def o262:OP:=fun P=>oM (vT "builtin_function_or_method") none (dF (aA [(vB "object.__init_subclass__"),(vR 247)])) z
noncomputable def LT7 (P:Params) (x:Nat→Obj):List Obj:=stL [(3,o136 P),(29,o137 P)] (LT6 P x)++[o138 P,o139 P,o140 P,o141 P,o142 P,o143 P,o144 P,o145 P,o146 P,o147 P,o148 P,o149 P,o150 P,o151 P,o152 P,o153 P,o154 P,o155 P,o156 P,o157 P,o158 P,o159 P,o160 P,o161 P,o162 P,o163 P,o164 P,o165 P,o166 P,o167 P,o168 P,o169 P,o170 P,o171 P,o172 P,o173 P,o174 P,o175 P,o176 P,o177 P,o178 P,o179 P,o180 P,o181 P,o182 P,o183 P,o184 P,o185 P,o186 P,o187 P,o188 P,o189 P,o190 P,o191 P,o192 P,o193 P,o194 P,o195 P,o196 P,o197 P,o198 P,o199 P,o200 P,o201 P,o202 P,o203 P,o204 P,o205 P,o206 P,o207 P,o208 P,o209 P,o210 P,o211 P,o212 P,o213 P,o214 P,o215 P,o216 P,o217 P,o218 P,o219 P,o220 P,o221 P,o222 P,o223 P,o224 P,o225 P,o226 P,o227 P,o228 P,o229 P,o230 P,o231 P,o232 P,o233 P,o234 P,o235 P,o236 P,o237 P,o238 P,o239 P,o240 P,o241 P,o242 P,o243 P,o244 P,o245 P,o246 P,o247 P,o248 P,o249 P,o250 P,o251 P,o252 P,o253 P,o254 P,o255 P,o256 P,o257 P,o258 P,o259 P,o260 P,o261 P,o262 P]
noncomputable def T7 (P:Params) (x:Nat→Obj):BT:=trL 10 (LT7 P x)
noncomputable def n7:Nat:=252
noncomputable def k7:Nat:=2570
noncomputable def p7:Pos:=(@PySem.Pos.mk 66 0 141 16)
noncomputable def o263:OP:=fun P=>tD [(dE P "__name__" 165 (vS "law_tp0058_02" 2570)),(dE P "__doc__" 166 vN),(dE P "__package__" 167 vN),(dE P "__loader__" 168 (vB "__main__.__loader__#opaque")),(dE P "__spec__" 169 vN),(dE P "__annotations__" 170 (vR 6)),(dE P "__builtins__" 171 (vR 4)),(dE P "__file__" 173 (vS "/claim/cut.py" 172)),(dE P "__cached__" 174 vN),(dE P "_sre" 275 (vR 12)),(dE P "_wall" 288 (vR 38)),(dE P "_MAX_STRING_SIZE" 292 (vI 40 291)),(dE P "_MOVE_COST" 294 (vI 2 293)),(dE P "_CASE_COST" 296 (vI 1 295)),(dE P "_substitution_cost" 304 (vR 45)),(dE P "_levenshtein_distance" 324 (vR 52)),(dE P "b1_set" 386 (vR 60)),(dE P "in_table_b1" 393 (vR 70)),(dE P "b3_exceptions" 2344 (vR 71)),(dE P "map_table_b3" 2352 (vR 116)),(dE P "_name_disallowed_re" 2380 (vR 121)),(dE P "_value_disallowed_re" 2414 (vR 126)),(dE P "Headers" 2569 (vR 247)),(dE P "_law_noise" 2577 (vR 258)),(dE P "_law_any" 2585 (vR 265)),(dE P "_law_piece" 2599 (vR 272)),(dE P "_law_prepared" 2605 (vR 277)),(dE P "_law_book" 2611 (vR 282))] 28
noncomputable def o264:OP:=fun P=>oM vN none (dF (aA [(vI 2 0),(vI 0 0),(vR 37),(vI 9 0),(vI 0 0),(vR 44),(vI 15 0),(vI 0 0),(vR 51),(vI 55 0),(vI 0 0),(vR 69),(vI 58 0),(vI 0 0),(vR 115),(vI 66 0),(vI 0 0),(vR 132),(vI 143 0),(vI 0 0),(vR 257),(vI 145 0),(vI 0 0),(vR 264),(vI 148 0),(vI 0 0),(vR 271),(vI 156 0),(vI 0 0),(vR 276),(vI 158 0),(vI 0 0),(vR 281)])) z
noncomputable def o265:OP:=fun P=>tU []
noncomputable def o266:OP:=fun P=>fE
noncomputable def o267:OP:=fun P=>tU []
noncomputable def o268:OP:=fun P=>tU []
noncomputable def o269:OP:=fun P=>f0 "_law_noise" "_law_noise" (fA 18) (fB 18) (fS 18)
noncomputable def o270:OP:=fun P=>oM (vT "code") none (dF (aA [(vS "_law_noise" 2572),(vS "_law_noise" 2573),(vS "/claim/cut.py" 2574),(vI 143 0),(vI 0 0),(vI 0 0),(vI 0 0),(vI 3 0),(vR 252),(vO true),(vI 276 0),(vR 253),vN,(vR 254),(vR 255),(vR 256),(vI 2575 0),(vI 143 0),(vS "/claim/cut.py" 2576)])) z
noncomputable def o271:OP:=fun P=>f1 "_law_noise" "_law_noise" (fA 18) (fB 18) (fS 18) 3 vN vN "law_tp0058_02" 2570 257
noncomputable def o272:OP:=fun P=>tU []
noncomputable def o273:OP:=fun P=>fE
noncomputable def o274:OP:=fun P=>tU [(vS "number" 2581),(vS "code" 2582)]
noncomputable def o275:OP:=fun P=>tU []
noncomputable def o276:OP:=fun P=>f0 "_law_any" "_law_any" (fA 19) (fB 19) (fS 19)
noncomputable def o277:OP:=fun P=>oM (vT "code") none (dF (aA [(vS "_law_any" 2578),(vS "_law_any" 2579),(vS "/claim/cut.py" 2580),(vI 145 0),(vI 1 0),(vI 0 0),(vI 0 0),(vI 3 0),(vR 259),(vO true),(vI 276 0),(vR 260),vN,(vR 261),(vR 262),(vR 263),(vI 2583 0),(vI 145 0),(vS "/claim/cut.py" 2584)])) z
noncomputable def o278:OP:=fun P=>f1 "_law_any" "_law_any" (fA 19) (fB 19) (fS 19) 3 vN vN "law_tp0058_02" 2570 264
noncomputable def o279:OP:=fun P=>tU []
noncomputable def o280:OP:=fun P=>fE
noncomputable def o281:OP:=fun P=>tU [(vS "letter" 2589),(vS "number" 2590),(vS "bases" 2591),(vS "kind" 2592),(vS "rest" 2593),(vS "place" 2594),(vS "twin" 2595),(vS "ahead" 2596)]
noncomputable def o282:OP:=fun P=>tU []
noncomputable def o283:OP:=fun P=>f0 "_law_piece" "_law_piece" (fA 20) (fB 20) (fS 20)
noncomputable def o284:OP:=fun P=>oM (vT "code") none (dF (aA [(vS "_law_piece" 2586),(vS "_law_piece" 2587),(vS "/claim/cut.py" 2588),(vI 148 0),(vI 2 0),(vI 0 0),(vI 0 0),(vI 3 0),(vR 266),(vO true),(vI 276 0),(vR 267),vN,(vR 268),(vR 269),(vR 270),(vI 2597 0),(vI 148 0),(vS "/claim/cut.py" 2598)])) z
noncomputable def o285:OP:=fun P=>f1 "_law_piece" "_law_piece" (fA 20) (fB 20) (fS 20) 3 vN vN "law_tp0058_02" 2570 271
noncomputable def o286:OP:=fun P=>tU []
noncomputable def o287:OP:=fun P=>fE
noncomputable def o288:OP:=fun P=>f0 "_law_prepared" "_law_prepared" (fA 21) (fB 21) (fS 21)
noncomputable def o289:OP:=fun P=>oM (vT "code") none (dF (aA [(vS "_law_prepared" 2600),(vS "_law_prepared" 2601),(vS "/claim/cut.py" 2602),(vI 156 0),(vI 1 0),(vI 0 0),(vI 0 0),(vI 3 0),(vR 273),(vO true),(vI 276 0),(vR 274),vN,vN,vN,(vR 275),(vI 2603 0),(vI 156 0),(vS "/claim/cut.py" 2604)])) z
noncomputable def o290:OP:=fun P=>f1 "_law_prepared" "_law_prepared" (fA 21) (fB 21) (fS 21) 3 vN vN "law_tp0058_02" 2570 276
noncomputable def o291:OP:=fun P=>tU []
noncomputable def o292:OP:=fun P=>fE
noncomputable def o293:OP:=fun P=>f0 "_law_book" "_law_book" (fA 22) (fB 22) (fS 22)
noncomputable def o294:OP:=fun P=>oM (vT "code") none (dF (aA [(vS "_law_book" 2606),(vS "_law_book" 2607),(vS "/claim/cut.py" 2608),(vI 158 0),(vI 5 0),(vI 0 0),(vI 0 0),(vI 3 0),(vR 278),(vO true),(vI 276 0),(vR 279),vN,vN,vN,(vR 280),(vI 2609 0),(vI 158 0),(vS "/claim/cut.py" 2610)])) z
noncomputable def o295:OP:=fun P=>f1 "_law_book" "_law_book" (fA 22) (fB 22) (fS 22) 3 vN vN "law_tp0058_02" 2570 281
noncomputable def LT8 (P:Params) (x:Nat→Obj):List Obj:=stL [(3,o263 P),(29,o264 P)] (LT7 P x)++[o265 P,o266 P,o267 P,o268 P,o269 P,o270 P,o271 P,o272 P,o273 P,o274 P,o275 P,o276 P,o277 P,o278 P,o279 P,o280 P,o281 P,o282 P,o283 P,o284 P,o285 P,o286 P,o287 P,o288 P,o289 P,o290 P,o291 P,o292 P,o293 P,o294 P,o295 P]
noncomputable def T8 (P:Params) (x:Nat→Obj):BT:=trL 10 (LT8 P x)
noncomputable def n8:Nat:=283
noncomputable def k8:Nat:=2612
noncomputable def p8:Pos:=(@PySem.Pos.mk 158 0 174 84)
noncomputable def o296:OP:=fun P=>tD [(dE P "__name__" 165 (vS "law_tp0058_02" 2570)),(dE P "__doc__" 166 vN),(dE P "__package__" 167 vN),(dE P "__loader__" 168 (vB "__main__.__loader__#opaque")),(dE P "__spec__" 169 vN),(dE P "__annotations__" 170 (vR 6)),(dE P "__builtins__" 171 (vR 4)),(dE P "__file__" 173 (vS "/claim/cut.py" 172)),(dE P "__cached__" 174 vN),(dE P "_sre" 275 (vR 12)),(dE P "_wall" 288 (vR 38)),(dE P "_MAX_STRING_SIZE" 292 (vI 40 291)),(dE P "_MOVE_COST" 294 (vI 2 293)),(dE P "_CASE_COST" 296 (vI 1 295)),(dE P "_substitution_cost" 304 (vR 45)),(dE P "_levenshtein_distance" 324 (vR 52)),(dE P "b1_set" 386 (vR 60)),(dE P "in_table_b1" 393 (vR 70)),(dE P "b3_exceptions" 2344 (vR 71)),(dE P "map_table_b3" 2352 (vR 116)),(dE P "_name_disallowed_re" 2380 (vR 121)),(dE P "_value_disallowed_re" 2414 (vR 126)),(dE P "Headers" 2569 (vR 247)),(dE P "_law_noise" 2577 (vR 258)),(dE P "_law_any" 2585 (vR 265)),(dE P "_law_piece" 2599 (vR 272)),(dE P "_law_prepared" 2605 (vR 277)),(dE P "_law_book" 2611 (vR 282)),(dE P "law" 2617 (vR 287))] 29
noncomputable def o297:OP:=fun P=>oM vN none (dF (aA [(vI 2 0),(vI 0 0),(vR 37),(vI 9 0),(vI 0 0),(vR 44),(vI 15 0),(vI 0 0),(vR 51),(vI 55 0),(vI 0 0),(vR 69),(vI 58 0),(vI 0 0),(vR 115),(vI 66 0),(vI 0 0),(vR 132),(vI 143 0),(vI 0 0),(vR 257),(vI 145 0),(vI 0 0),(vR 264),(vI 148 0),(vI 0 0),(vR 271),(vI 156 0),(vI 0 0),(vR 276),(vI 158 0),(vI 0 0),(vR 281),(vI 175 0),(vI 0 0),(vR 286)])) z
noncomputable def o298:OP:=fun P=>tU []
noncomputable def o299:OP:=fun P=>fE
noncomputable def o300:OP:=fun P=>f0 "law" "law" (fA 23) (fB 23) (fS 23)
noncomputable def o301:OP:=fun P=>oM (vT "code") none (dF (aA [(vS "law" 2612),(vS "law" 2613),(vS "/claim/cut.py" 2614),(vI 175 0),(vI 1 0),(vI 0 0),(vI 0 0),(vI 3 0),(vR 283),(vO true),(vI 276 0),(vR 284),vN,vN,vN,(vR 285),(vI 2615 0),(vI 175 0),(vS "/claim/cut.py" 2616)])) z
noncomputable def o302:OP:=fun P=>f1 "law" "law" (fA 23) (fB 23) (fS 23) 3 vN vN "law_tp0058_02" 2570 286
noncomputable def LT9 (P:Params) (x:Nat→Obj):List Obj:=stL [(3,o296 P),(29,o297 P)] (LT8 P x)++[o298 P,o299 P,o300 P,o301 P,o302 P]
noncomputable def T9 (P:Params) (x:Nat→Obj):BT:=trL 10 (LT9 P x)
noncomputable def n9:Nat:=288
noncomputable def k9:Nat:=2618
noncomputable def p9:Pos:=(@PySem.Pos.mk 175 0 221 117)
noncomputable def HL (P:Params) (x:Nat→Obj):List Obj:=[o0 P,o1 P,o2 P,o296 P,o4 P,o5 P,o6 P,o7 P,o8 P,o9 P,o10 P,o11 P,o12 P,o13 P,o14 P,o15 P,o16 P,o17 P,o18 P,o19 P,o20 P,o21 P,o22 P,o23 P,o24 P,o25 P,o26 P,o27 P,o28 P,o297 P,o30 P,o31 P,o34 P,o35 P,o36 P,o37 P,o38 P,o39 P,o40 P,o41 P,o42 P,o43 P,o44 P,o45 P,o46 P,o47 P,o48 P,o49 P,o50 P,o51 P,o52 P,o53 P,o54 P,o57 P,o58 P,o59 P,o60 P,o61 P,o62 P,o63 P,o64 P,o65 P,o66 P,o67 P,o70 P,o71 P,o72 P,o73 P,o74 P,o75 P,o76 P,x 0,x 1,x 2,x 3,x 4,x 5,x 6,x 7,x 8,x 9,x 10,x 11,x 12,x 13,x 14,x 15,x 16,x 17,x 18,x 19,x 20,x 21,x 22,x 23,x 24,x 25,x 26,x 27,x 28,x 29,x 30,x 31,x 32,x 33,x 34,x 35,x 36,x 37,x 38,o119 P,o120 P,o121 P,o122 P,o123 P,o124 P,o125 P,o126 P,o127 P,o128 P,o129 P,o130 P,o131 P,o132 P,o133 P,o134 P,o135 P,o138 P,o139 P,o140 P,o141 P,o142 P,o143 P,o144 P,o145 P,o146 P,o147 P,o148 P,o149 P,o150 P,o151 P,o152 P,o153 P,o154 P,o155 P,o156 P,o157 P,o158 P,o159 P,o160 P,o161 P,o162 P,o163 P,o164 P,o165 P,o166 P,o167 P,o168 P,o169 P,o170 P,o171 P,o172 P,o173 P,o174 P,o175 P,o176 P,o177 P,o178 P,o179 P,o180 P,o181 P,o182 P,o183 P,o184 P,o185 P,o186 P,o187 P,o188 P,o189 P,o190 P,o191 P,o192 P,o193 P,o194 P,o195 P,o196 P,o197 P,o198 P,o199 P,o200 P,o201 P,o202 P,o203 P,o204 P,o205 P,o206 P,o207 P,o208 P,o209 P,o210 P,o211 P,o212 P,o213 P,o214 P,o215 P,o216 P,o217 P,o218 P,o219 P,o220 P,o221 P,o222 P,o223 P,o224 P,o225 P,o226 P,o227 P,o228 P,o229 P,o230 P,o231 P,o232 P,o233 P,o234 P,o235 P,o236 P,o237 P,o238 P,o239 P,o240 P,o241 P,o242 P,o243 P,o244 P,o245 P,o246 P,o247 P,o248 P,o249 P,o250 P,o251 P,o252 P,o253 P,o254 P,o255 P,o256 P,o257 P,o258 P,o259 P,o260 P,o261 P,o262 P,o265 P,o266 P,o267 P,o268 P,o269 P,o270 P,o271 P,o272 P,o273 P,o274 P,o275 P,o276 P,o277 P,o278 P,o279 P,o280 P,o281 P,o282 P,o283 P,o284 P,o285 P,o286 P,o287 P,o288 P,o289 P,o290 P,o291 P,o292 P,o293 P,o294 P,o295 P,o298 P,o299 P,o300 P,o301 P,o302 P]
noncomputable def body:List Stmt:=behindTheImports pw
noncomputable def env:Env:={scope:=pw.main.scope,locals:=mainNs,globals:=mainNs,cells:=[],code:=codeV,frame:=some frameA}
noncomputable def Γb:Ctx:=Γs.enter (.body body env) none ⟨0,0,0,0⟩
noncomputable def x0:Nat→Obj:=fun _=>default
theorem G0 (w:World):∀(x:Nat→Obj) (life:Life) (dr:Drawn) (os:OsState) (p:Pos),evT tbQ pw w 337 Γb (execs ((body.drop 0).take 7) env) p ⟨Ta w.params x,na,life,#[],dr,ka,os⟩=some (.ok .next,p1,⟨T1 w.params x,n1,life,#[],dr,k1,os⟩):=by
  intro x life dr os p;rfl'
theorem G1 (w:World):∀(x:Nat→Obj) (life:Life) (dr:Drawn) (os:OsState) (p:Pos),evT tbQ pw w 209 Γb (execs ((body.drop 7).take 1) env) p ⟨T1 w.params x,n1,life,#[],dr,k1,os⟩=some (.ok .next,p2,⟨T2 w.params x,n2,life,#[],dr,k2,os⟩):=by
  intro x life dr os p;rfl'
theorem G2:∀(w:World),∀(x:Nat→Obj) (life:Life) (dr:Drawn) (os:OsState) (p:Pos),evT tbQ pw w 1198 Γb (execs ((body.drop 8).take 1) env) p ⟨T2 w.params x,n2,life,#[],dr,k2,os⟩=some (.ok .next,p3,⟨T3 w.params x,n3,life,#[],dr,k3,os⟩):=
  byRow2 "set-order" (P:=fun w=>∀(x:Nat→Obj) (life:Life) (dr:Drawn) (os:OsState) (p:Pos),evT tbQ pw w 1198 Γb (execs ((body.drop 8).take 1) env) p ⟨T2 w.params x,n2,life,#[],dr,k2,os⟩=some (.ok .next,p3,⟨T3 w.params x,n3,life,#[],dr,k3,os⟩)) (byRow2 "special-get-raises" (P:=fun w=>(fun w=>∀(x:Nat→Obj) (life:Life) (dr:Drawn) (os:OsState) (p:Pos),evT tbQ pw w 1198 Γb (execs ((body.drop 8).take 1) env) p ⟨T2 w.params x,n2,life,#[],dr,k2,os⟩=some (.ok .next,p3,⟨T3 w.params x,n3,life,#[],dr,k3,os⟩)) (w.withFollow "set-order" false)) (fun w=>by intro x life dr os p;rfl') (fun w=>by intro x life dr os p;rfl')) (byRow2 "special-get-raises" (P:=fun w=>(fun w=>∀(x:Nat→Obj) (life:Life) (dr:Drawn) (os:OsState) (p:Pos),evT tbQ pw w 1198 Γb (execs ((body.drop 8).take 1) env) p ⟨T2 w.params x,n2,life,#[],dr,k2,os⟩=some (.ok .next,p3,⟨T3 w.params x,n3,life,#[],dr,k3,os⟩)) (w.withFollow "set-order" true)) (fun w=>by intro x life dr os p;rfl') (fun w=>by intro x life dr os p;rfl'))
theorem G3 (w:World):∀(x:Nat→Obj) (life:Life) (dr:Drawn) (os:OsState) (p:Pos),evT tbQ pw w 229 Γb (execs ((body.drop 9).take 1) env) p ⟨T3 w.params x,n3,life,#[],dr,k3,os⟩=some (.ok .next,p4,⟨T4 w.params x,n4,life,#[],dr,k4,os⟩):=by
  intro x life dr os p;rfl'
noncomputable def b3S:Stmt:=(body[10]?).getD (.Pass ⟨0,0,0,0⟩)
noncomputable def b3t:List Expr:=match b3S with | .Assign t _ _=>t |_=>[]
noncomputable def b3v:Expr:=match b3S with | .Assign _ v _=>v |_=> .Name "" ⟨0,0,0,0⟩
noncomputable def b3k:List (Option Expr):=match b3v with | .Dict k _ _=>k |_=>[]
noncomputable def b3w:List Expr:=match b3v with | .Dict _ v _=>v |_=>[]
noncomputable def b3K (v:Value):Sem Flow:=do assignStores env v (←swappedStores b3t b3v env) ((assignEach b3t env).map (·.2))
noncomputable def b3L:List (Int×Str):=(psOf b3k b3w).getD []
theorem b3_st:body.drop 10=b3S::body.drop 11:=⋯
theorem b3_ex:exec b3S env=(do standAt b3S.pos;let v←(do standAt b3v.pos;dictDisplay ((evalEachOpt b3k env).zip ((evalEach b3w env).map fun v=>(do let x←v;standAt b3v.pos;pure x:Sem Value))));b3K v):=⋯
theorem b3_ps:psOf b3k b3w=some b3L:=⋯
theorem b3_ri:rising b3L=true:=⋯
theorem b3_len:b3L.length=650:=⋯
theorem b3_ne:b3L≠[]:=by intro h;have:=b3_len;rw[h]at this;cases this
theorem BL_len (P:Params):(BL P).length=71:=⋯
theorem Tb_abs (P:Params) (life:Life):absHeap (T4 P x0) n4 life=HB (BL P) [] life:=⋯
theorem Tm_abs (P:Params) (x:Nat→Obj) (life:Life):absHeap (Tm P x) 110 life=HB (BL P) ((List.range 39).map x) life:=⋯
theorem Γb_in:Γb.In topA:=⟨by rfl',Nat.le_of_ble_eq_true ⋯,fun l h=>(nomatch h),fun l h=>(nomatch h),Nat.le_of_ble_eq_true ⋯⟩
noncomputable def kd:Nat:=k4+3 * 650
theorem G4 (w:World):∀(x:Nat→Obj) (life:Life) (dr:Drawn) (os:OsState) (p:Pos),evT tbQ pw w 300 Γb (b3K (.ref 71)) p ⟨Tm w.params x,110,life,#[],dr,kd,os⟩=some (.ok .next,p5,⟨T5 w.params x,n5,life,#[],dr,k5,os⟩):=by
  intro x life dr os p;rfl'
theorem G5 (w:World):∀(x:Nat→Obj) (life:Life) (dr:Drawn) (os:OsState) (p:Pos),evT tbQ pw w 385 Γb (execs ((body.drop 11).take 4) env) p ⟨T5 w.params x,n5,life,#[],dr,k5,os⟩=some (.ok .next,p6,⟨T6 w.params x,n6,life,#[],dr,k6,os⟩):=by
  intro x life dr os p;rfl'
theorem G6 (w:World):∀(x:Nat→Obj) (life:Life) (dr:Drawn) (os:OsState) (p:Pos),evT tbQ pw w 924 Γb (execs ((body.drop 15).take 1) env) p ⟨T6 w.params x,n6,life,#[],dr,k6,os⟩=some (.ok .next,p7,⟨T7 w.params x,n7,life,#[],dr,k7,os⟩):=by
  intro x life dr os p;rfl'
theorem G7 (w:World):∀(x:Nat→Obj) (life:Life) (dr:Drawn) (os:OsState) (p:Pos),evT tbQ pw w 355 Γb (execs ((body.drop 16).take 6) env) p ⟨T7 w.params x,n7,life,#[],dr,k7,os⟩=some (.ok .next,p8,⟨T8 w.params x,n8,life,#[],dr,k8,os⟩):=by
  intro x life dr os p;rfl'
theorem G8 (w:World):∀(x:Nat→Obj) (life:Life) (dr:Drawn) (os:OsState) (p:Pos),evT tbQ pw w 226 Γb (execs ((body.drop 22).take 1) env) p ⟨T8 w.params x,n8,life,#[],dr,k8,os⟩=some (.ok .next,p9,⟨T9 w.params x,n9,life,#[],dr,k9,os⟩):=by
  intro x life dr os p;rfl'
end H02
end
section
namespace H02
open PySem PySem.W PyProof.Rows Mine
noncomputable def Left (w:World) (life:Life) (dr:Drawn) (os:OsState) (s':Shared):Prop:=
  ∃(x:Nat→Obj) (es:List DictEntry) (ep:Nat),x 0=dObj es ep∧Ents b3L es∧s'=(⟨T9 w.params x,n9,life,#[],dr,k9,os⟩:SharedT).abs
theorem body_end:body.drop 23=[]:=⋯
theorem top_b (w:World) (x:Nat→Obj) (life:Life) (dr:Drawn) (os:OsState) (es:List DictEntry) (ep:Nat) (hx:x 0=dObj es ep) (hE:Ents b3L es):
    TopOK pw w Γb env body (Left w life dr os) 11 (⟨T5 w.params x,n5,life,#[],dr,k5,os⟩:SharedT).abs:=by
  refine TopOK.group (a:=11) (k:=4) (b:=15) rfl (G5 w x life dr os) ?_
  refine TopOK.group (a:=15) (k:=1) (b:=16) rfl (G6 w x life dr os) ?_
  refine TopOK.group (a:=16) (k:=6) (b:=22) rfl (G7 w x life dr os) ?_
  refine TopOK.group (a:=22) (k:=1) (b:=23) rfl (G8 w x life dr os) ?_
  exact TopOK.ends body_end ⟨x,es,ep,hx,hE,rfl⟩
theorem top_a (w:World) (life:Life) (dr:Drawn) (os:OsState):
    TopOK pw w Γb env body (Left w life dr os) 10 (⟨T4 w.params x0,n4,life,#[],dr,k4,os⟩:SharedT).abs:=by
  have e:(⟨T4 w.params x0,n4,life,#[],dr,k4,os⟩:SharedT).abs=⟨HB (BL w.params) [] life,#[],dr,k4,os⟩:=by
    show Shared.mk _ _ _ _ _=_
    rw[Tb_abs]
  refine b3_group (n:=300) e b3_st b3_ex b3_ps b3_ri b3_ne (by rw[b3_len];decide) (by rw[BL_len];decide) Γb_in fun es ep subs hE hlen=>?_
  rw[BL_len,b3_len]
  rw[b3_len]at hlen
  have hl:(dObj es ep::subs).length=39:=hlen
  refine⟨⟨Tm w.params (fun j=>(dObj es ep::subs).getD j default),110,life,#[],dr,kd,os⟩,_,_,?_,G4 w (fun j=>(dObj es ep::subs).getD j default) life dr os,top_b w _ life dr os es ep rfl hE⟩
  show Shared.mk _ _ _ _ _=_
  rw[Tm_abs,map_getD hl]
  rfl
theorem top_wp (w:World) (life:Life) (dr:Drawn) (os:OsState):
    TopOK pw w Γb env body (Left w life dr os) 0 (⟨Ta w.params x0,na,life,#[],dr,ka,os⟩:SharedT).abs:=by
  refine TopOK.group (a:=0) (k:=7) (b:=7) rfl (G0 w x0 life dr os) ?_
  refine TopOK.group (a:=7) (k:=1) (b:=8) rfl (G1 w x0 life dr os) ?_
  refine TopOK.group (a:=8) (k:=1) (b:=9) rfl (G2 w x0 life dr os) ?_
  refine TopOK.group (a:=9) (k:=1) (b:=10) rfl (G3 w x0 life dr os) ?_
  exact top_a w life dr os
theorem stub1 (w:World) (life:Life) (dr:Drawn) (os:OsState):evT tbQ pw w 200 Γs (do let code←moduleCode pw.main;let frame←newBodyFrame code mainNs mainNs;pure (code,frame)) default ⟨T0 w.params x0,n0,life,#[],dr,k0,os⟩=some (.ok (codeV,frameA),default,⟨Ta w.params x0,na,life,#[],dr,ka,os⟩):=⋯
theorem stub2 (w:World) (life:Life) (dr:Drawn) (os:OsState):evT tbQ pw w 200 Γb (blockStart body env) default ⟨Ta w.params x0,na,life,#[],dr,ka,os⟩=some (.ok (),default,⟨Ta w.params x0,na,life,#[],dr,ka,os⟩):=⋯
theorem top_run (w:World) (life:Life) (dr:Drawn) (os:OsState) (hz:(⟨T0 w.params x0,n0,life,#[],dr,k0,os⟩:SharedT).abs.asleep):
    ∃s₁,Left w life dr os s₁∧∃n t,schedN (denote table) pw w n (.single (⟨T0 w.params x0,n0,life,#[],dr,k0,os⟩:SharedT).abs (topStub pw))= .running (.single s₁ t)∧through t=true:=
  run_of_wp hz (stub_wp (env:=env) rfl (stub1 w life dr os) (stub2 w life dr os) (top_wp w life dr os)) fun s ⟨x,es,ep,_,_,e⟩=>by subst e;rfl
theorem HL_abs (P:Params) (x:Nat→Obj) (life:Life):absHeap (T9 P x) n9 life=⟨(HL P x).toArray,life⟩:=⋯
end H02
end
section
namespace H02
open PySem PySem.W PyProof.Rows Mine
noncomputable def qv:Program:={pw with main:={pw.main with body:=[stm 0,stm 23]}}
noncomputable def loose:List Str:=[sS "_wall",sS "__name__",sS "_MAX_STRING_SIZE",sS "_MOVE_COST",sS "_CASE_COST",sS "_substitution_cost",sS "_levenshtein_distance",sS "b1_set",sS "in_table_b1",sS "b3_exceptions",sS "map_table_b3",sS "_name_disallowed_re",sS "_value_disallowed_re",sS "Headers",sS "_law_noise",sS "_law_any",sS "_law_piece",sS "_law_prepared",sS "_law_book"]
theorem opening_ok (w:World):(fencedOpening treeTable pw w 2000).map (fun s=>(s.heap,s.gens,s.drawn,s.toks))=some (⟨(H0L w.params).toArray,life0⟩,#[],dr0,k0):=⋯
theorem T0_abs (P:Params):absHeap (T0 P x0) n0 life0=⟨(H0L P).toArray,life0⟩:=⋯
theorem main_ok (P:Params):(⟨(H0L P).toArray,life0⟩:Heap).isNs mainGlobals=true:=⋯
theorem ch_ok:chainsOk qv=true:=⋯
theorem looks_ok (P:Params) (x:Nat→Obj):(staticsOk (importedModules pw.main.body) ⟨(H0L P).toArray,life0⟩ ⟨(HL P x).toArray,life0⟩&&namesBound pw ⟨(HL P x).toArray,life0⟩&&laidKept ⟨(H0L P).toArray,life0⟩ ⟨(HL P x).toArray,life0⟩)=true:=⋯
theorem seen_ok (P:Params) (x:Nat→Obj) (os:OsState):openSeen qv loose (importedModules pw.main.body) (fun _=>true) true ⟨⟨(HL P x).toArray,life0⟩,#[],dr0,k9,os⟩=openGood qv loose:=⋯
theorem keep_a (P:Params) (x:Nat→Obj):(HL P x).take 3=(H0L P).take 3:=⋯
theorem keep_b (P:Params) (x:Nat→Obj):((HL P x).drop 4).take (n0 - 4)=(H0L P).drop 4:=⋯
noncomputable def Y (w:World) (s:Shared):Prop:=∃(x:Nat→Obj) (es:List DictEntry) (ep:Nat) (os:OsState),x 0=dObj es ep∧Ents b3L es∧s=⟨⟨(HL w.params x).toArray,life0⟩,#[],dr0,k9,os⟩
theorem H0_len (P:Params):(H0L P).length=n0:=⋯
theorem keep_all (P:Params) (x:Nat→Obj) (b:Nat) (h3:b≠3):b<n0→(HL P x)[b]?=(H0L P)[b]?:=by
  intro hlt
  by_cases h2:b<3
  · have:=congrArg (fun l=>l[b]?) (keep_a P x)
    simpa[List.getElem?_take,h2]using this
  · have h4:4≤b:=by omega
    have:=congrArg (fun l=>l[b - 4]?) (keep_b P x)
    simp only[List.getElem?_take,List.getElem?_drop,show 4+(b - 4)=b by omega,if_pos (show b - 4<n0 - 4 by omega)]at this
    exact this
theorem lt_of_get (P:Params) (b:Nat) (o:Obj) (hb:(⟨(H0L P).toArray,life0⟩:Heap).get? b=some o):b<n0:=by
  have:=Heap.lt_size hb
  rwa [show(⟨(H0L P).toArray,life0⟩:Heap).objs.size=n0 by show(H0L P).toArray.size=n0;rw[List.size_toArray,H0_len]]at this
theorem behind (w:World):Behind pw qv loose (fun _ _=>True) Y w:=by
  refine behind_of (N:=2000) (R:=Left w life0 dr0) (opening_ok w) (main_ok w.params) ch_ok (fun os hz=>?_) fun os s₁ h=>?_
  · have e:(⟨⟨(H0L w.params).toArray,life0⟩,#[],dr0,k0,os⟩:Shared)=(⟨T0 w.params x0,n0,life0,#[],dr0,k0,os⟩:SharedT).abs:=by
      show _=Shared.mk _ _ _ _ _
      rw[T0_abs]
    rw[e]at hz ⊢
    exact top_run w life0 dr0 os hz
  · obtain⟨x,es,ep,hx,hE,rfl⟩:=h
    have e:(⟨T9 w.params x,n9,life0,#[],dr0,k9,os⟩:SharedT).abs=⟨⟨(HL w.params x).toArray,life0⟩,#[],dr0,k9,os⟩:=by
      show Shared.mk _ _ _ _ _=_
      rw[HL_abs]
    rw[e]
    refine⟨rfl,rfl,rfl,?_,looks_ok w.params x,seen_ok w.params x os,x,es,ep,os,hx,hE,rfl⟩
    intro b o h3 _ hb
    have key:=keep_all w.params x b h3 (lt_of_get w.params b o hb)
    unfold Heap.get? at hb ⊢
    have e1:((⟨(HL w.params x).toArray,life0⟩:Heap).objs)[b]?=((⟨(H0L w.params).toArray,life0⟩:Heap).objs)[b]?:=by
      show(HL w.params x).toArray[b]?=(H0L w.params).toArray[b]?
      rw[List.getElem?_toArray,List.getElem?_toArray,key]
    rw[←e1]at hb
    exact hb
end H02
end
section
namespace V02
open PySem PySem.W PyProof.Rows Mine H02
noncomputable def hp (P:Params) (x:Nat→Obj):Heap:=⟨(HL P x).toArray,life0⟩
noncomputable def K (P:Params) (x:Nat→Obj) (os:OsState):Ctx0:=⟨fun b=>if b then 121 else 126,247,hp P x,os,mainNs,(hp P x).nsMap mainNs,(hp P x).nsMap builtinsNs,(hp P x).nsMap 246⟩
section
variable {prog:Program} {w:World} (P:Params) (x:Nat→Obj) (os:OsState)
noncomputable def F_substitution_cost:Fn:=⟨["ch_a","ch_b"],[none,none],none,none,stmtsOf (fB 6),(fS 6),[]⟩
theorem ok_substitution_cost:FnOK prog w (K P x os) F_substitution_cost 45 (o47 P) (fdOf (o47 P)):=
  ⟨by rfl',rfl,rfl,rfl,rfl,rfl,rfl,.of_ok ⋯,rfl,rfl,by rfl',no_free ⋯,rfl,bind_plain ["ch_a","ch_b"] rfl rfl rfl rfl (by intro _ _;show _=_;rfl')⟩
noncomputable def F_levenshtein_distance:Fn:=⟨["a","b","max_cost"],[none,none,none],none,none,stmtsOf (fB 7),(fS 7),["row"]⟩
theorem ok_levenshtein_distance:FnOK prog w (K P x os) F_levenshtein_distance 52 (o54 P) (fdOf (o54 P)):=
  ⟨by rfl',rfl,rfl,rfl,rfl,rfl,rfl,.of_ok ⋯,rfl,rfl,by rfl',no_free ⋯,rfl,bind_plain ["a","b","max_cost"] rfl rfl rfl rfl (by intro _ _ _;show _=_;rfl')⟩
noncomputable def F_law_noise:Fn:=⟨[],[],none,none,stmtsOf (fB 18),(fS 18),[]⟩
theorem ok_law_noise:FnOK prog w (K P x os) F_law_noise 258 (o271 P) (fdOf (o271 P)):=
  ⟨by rfl',rfl,rfl,rfl,rfl,rfl,rfl,.of_ok ⋯,rfl,rfl,by rfl',no_free ⋯,rfl,bind_plain [] rfl rfl rfl rfl (by show _=_;rfl')⟩
noncomputable def F_law_any:Fn:=⟨["number"],[none],none,none,stmtsOf (fB 19),(fS 19),[]⟩
theorem ok_law_any:FnOK prog w (K P x os) F_law_any 265 (o278 P) (fdOf (o278 P)):=
  ⟨by rfl',rfl,rfl,rfl,rfl,rfl,rfl,.of_ok ⋯,rfl,rfl,by rfl',no_free ⋯,rfl,bind_plain ["number"] rfl rfl rfl rfl (by intro _;show _=_;rfl')⟩
noncomputable def F_law_piece:Fn:=⟨["letter","number"],[none,none],none,none,stmtsOf (fB 20),(fS 20),[]⟩
theorem ok_law_piece:FnOK prog w (K P x os) F_law_piece 272 (o285 P) (fdOf (o285 P)):=
  ⟨by rfl',rfl,rfl,rfl,rfl,rfl,rfl,.of_ok ⋯,rfl,rfl,by rfl',no_free ⋯,rfl,bind_plain ["letter","number"] rfl rfl rfl rfl (by intro _ _;show _=_;rfl')⟩
noncomputable def F_law_prepared:Fn:=⟨["text"],[none],none,none,stmtsOf (fB 21),(fS 21),[]⟩
theorem ok_law_prepared:FnOK prog w (K P x os) F_law_prepared 277 (o290 P) (fdOf (o290 P)):=
  ⟨by rfl',rfl,rfl,rfl,rfl,rfl,rfl,.of_ok ⋯,rfl,rfl,by rfl',no_free ⋯,rfl,bind_plain ["text"] rfl rfl rfl rfl (by intro _;show _=_;rfl')⟩
noncomputable def F_law_book:Fn:=⟨["p","q","wide","high","rule"],[none,none,none,none,none],none,none,stmtsOf (fB 22),(fS 22),["lines","found","spelled","runs"]⟩
theorem ok_law_book:FnOK prog w (K P x os) F_law_book 282 (o295 P) (fdOf (o295 P)):=
  ⟨by rfl',rfl,rfl,rfl,rfl,rfl,rfl,.of_ok ⋯,rfl,rfl,by rfl',no_free ⋯,rfl,bind_plain ["p","q","wide","high","rule"] rfl rfl rfl rfl (by intro _ _ _ _ _;show _=_;rfl')⟩
noncomputable def F_law:Fn:=⟨["script"],[none],none,none,stmtsOf (fB 23),(fS 23),["pieces","due"]⟩
theorem ok_law:FnOK prog w (K P x os) F_law 287 (o302 P) (fdOf (o302 P)):=
  ⟨by rfl',rfl,rfl,rfl,rfl,rfl,rfl,.of_ok ⋯,rfl,rfl,by rfl',no_free ⋯,rfl,bind_plain ["script"] rfl rfl rfl rfl (by intro _;show _=_;rfl')⟩
noncomputable def F_H_init:Fn:=⟨["self","headers"],[none,some (.d .none)],none,none,stmtsOf (cB 16 0),(cS 16 0),["headers"]⟩
theorem ok_H_init:FnOK prog w (K P x os) F_H_init 141 (o152 P) (fdOf (o152 P)):=
  ⟨by rfl',rfl,rfl,rfl,rfl,rfl,rfl,.of_ok ⋯,rfl,rfl,by rfl',no_free ⋯,rfl,bind_last (o:=o145 P) (T:=134) (n:=0) ["self"] "headers" rfl rfl rfl rfl ⋯ rfl rfl (by intro _ _;exact⟨_,rfl,rfl⟩) (by intro _;exact⟨_,rfl,rfl⟩)⟩
noncomputable def F_Hconvert_string_type:Fn:=⟨["self","value"],[none,none],some "name",none,stmtsOf (cB 16 1),(cS 16 1),[]⟩
theorem ok_Hconvert_string_type:FnOK prog w (K P x os) F_Hconvert_string_type 148 (o159 P) (fdOf (o159 P)):=
  ⟨by rfl',rfl,rfl,rfl,rfl,rfl,rfl,.of_ok ⋯,rfl,rfl,by rfl',no_free ⋯,rfl,bind_kwo ["self","value"] "name" rfl rfl rfl (by intro _ _ _;show _=_;rfl')⟩
noncomputable def F_H_len:Fn:=⟨["self"],[none],none,none,stmtsOf (cB 16 2),(cS 16 2),[]⟩
theorem ok_H_len:FnOK prog w (K P x os) F_H_len 155 (o166 P) (fdOf (o166 P)):=
  ⟨by rfl',rfl,rfl,rfl,rfl,rfl,rfl,.of_ok ⋯,rfl,rfl,by rfl',no_free ⋯,rfl,bind_plain ["self"] rfl rfl rfl rfl (by intro _;show _=_;rfl')⟩
noncomputable def F_H_setitem:Fn:=⟨["self","name","val"],[none,none,none],none,none,stmtsOf (cB 16 3),(cS 16 3),[]⟩
theorem ok_H_setitem:FnOK prog w (K P x os) F_H_setitem 162 (o173 P) (fdOf (o173 P)):=
  ⟨by rfl',rfl,rfl,rfl,rfl,rfl,rfl,.of_ok ⋯,rfl,rfl,by rfl',no_free ⋯,rfl,bind_plain ["self","name","val"] rfl rfl rfl rfl (by intro _ _ _;show _=_;rfl')⟩
noncomputable def F_H_delitem:Fn:=⟨["self","name"],[none,none],none,none,stmtsOf (cB 16 4),(cS 16 7),[]⟩
theorem ok_H_delitem:FnOK prog w (K P x os) F_H_delitem 167 (o178 P) (fdOf (o178 P)):=
  ⟨by rfl',rfl,rfl,rfl,rfl,rfl,rfl,.of_ok ⋯,rfl,rfl,by rfl',no_free ⋯,rfl,bind_plain ["self","name"] rfl rfl rfl rfl (by intro _ _;show _=_;rfl')⟩
noncomputable def F_H_getitem:Fn:=⟨["self","name"],[none,none],none,none,stmtsOf (cB 16 5),(cS 16 6),[]⟩
theorem ok_H_getitem:FnOK prog w (K P x os) F_H_getitem 174 (o185 P) (fdOf (o185 P)):=
  ⟨by rfl',rfl,rfl,rfl,rfl,rfl,rfl,.of_ok ⋯,rfl,rfl,by rfl',no_free ⋯,rfl,bind_plain ["self","name"] rfl rfl rfl rfl (by intro _ _;show _=_;rfl')⟩
noncomputable def F_H_get_all:Fn:=⟨["self","name"],[none,none],none,none,stmtsOf (cB 16 7),(cS 16 7),[]⟩
theorem ok_H_get_all:FnOK prog w (K P x os) F_H_get_all 186 (o197 P) (fdOf (o197 P)):=
  ⟨by rfl',rfl,rfl,rfl,rfl,rfl,rfl,.of_ok ⋯,rfl,rfl,by rfl',no_free ⋯,rfl,bind_plain ["self","name"] rfl rfl rfl rfl (by intro _ _;show _=_;rfl')⟩
noncomputable def F_H_get:Fn:=⟨["self","name","default"],[none,none,some (.d .none)],none,none,stmtsOf (cB 16 8),(cS 16 8),[]⟩
theorem ok_H_get:FnOK prog w (K P x os) F_H_get 194 (o205 P) (fdOf (o205 P)):=
  ⟨by rfl',rfl,rfl,rfl,rfl,rfl,rfl,.of_ok ⋯,rfl,rfl,by rfl',no_free ⋯,rfl,bind_last (o:=o198 P) (T:=187) (n:=0) ["self","name"] "default" rfl rfl rfl rfl ⋯ rfl rfl (by intro _ _ _;exact⟨_,rfl,rfl⟩) (by intro _ _;exact⟨_,rfl,rfl⟩)⟩
noncomputable def F_H_keys:Fn:=⟨["self"],[none],none,none,stmtsOf (cB 16 9),(cS 16 10),[]⟩
theorem ok_H_keys:FnOK prog w (K P x os) F_H_keys 199 (o210 P) (fdOf (o210 P)):=
  ⟨by rfl',rfl,rfl,rfl,rfl,rfl,rfl,.of_ok ⋯,rfl,rfl,by rfl',no_free ⋯,rfl,bind_plain ["self"] rfl rfl rfl rfl (by intro _;show _=_;rfl')⟩
noncomputable def F_H_values:Fn:=⟨["self"],[none],none,none,stmtsOf (cB 16 10),(cS 16 10),[]⟩
theorem ok_H_values:FnOK prog w (K P x os) F_H_values 204 (o215 P) (fdOf (o215 P)):=
  ⟨by rfl',rfl,rfl,rfl,rfl,rfl,rfl,.of_ok ⋯,rfl,rfl,by rfl',no_free ⋯,rfl,bind_plain ["self"] rfl rfl rfl rfl (by intro _;show _=_;rfl')⟩
noncomputable def F_H_items:Fn:=⟨["self"],[none],none,none,stmtsOf (cB 16 11),(cS 16 12),[]⟩
theorem ok_H_items:FnOK prog w (K P x os) F_H_items 211 (o222 P) (fdOf (o222 P)):=
  ⟨by rfl',rfl,rfl,rfl,rfl,rfl,rfl,.of_ok ⋯,rfl,rfl,by rfl',no_free ⋯,rfl,bind_plain ["self"] rfl rfl rfl rfl (by intro _;show _=_;rfl')⟩
noncomputable def F_H_setdefault:Fn:=⟨["self","name","value"],[none,none,none],none,none,stmtsOf (cB 16 15),(cS 16 15),[]⟩
theorem ok_H_setdefault:FnOK prog w (K P x os) F_H_setdefault 237 (o248 P) (fdOf (o248 P)):=
  ⟨by rfl',rfl,rfl,rfl,rfl,rfl,rfl,.of_ok ⋯,rfl,rfl,by rfl',no_free ⋯,rfl,bind_plain ["self","name","value"] rfl rfl rfl rfl (by intro _ _ _;show _=_;rfl')⟩
noncomputable def F_in_table_b1:Fn:=⟨["code"],[none],none,none,stmtsOf (fB 10),(fS 10),[]⟩
theorem ok_in_table_b1:FnOK prog w (K P x os) F_in_table_b1 70 (o76 P) (fdOf (o76 P)):=
  ⟨by rfl',rfl,rfl,rfl,rfl,rfl,rfl,.of_ok ⋯,rfl,rfl,by rfl',no_free ⋯,rfl,bind_plain ["code"] rfl rfl rfl rfl (by intro _;show _=_;rfl')⟩
noncomputable def F_map_table_b3:Fn:=⟨["code"],[none],none,none,stmtsOf (fB 12),(fS 12),[]⟩
theorem ok_map_table_b3:FnOK prog w (K P x os) F_map_table_b3 116 (o125 P) (fdOf (o125 P)):=
  ⟨by rfl',rfl,rfl,rfl,rfl,rfl,rfl,.of_ok ⋯,rfl,rfl,by rfl',no_free ⋯,rfl,bind_plain ["code"] rfl rfl rfl rfl (by intro _;show _=_;rfl')⟩
noncomputable def tab:Tab:=[("_substitution_cost",45,F_substitution_cost),("_levenshtein_distance",52,F_levenshtein_distance),("_law_noise",258,F_law_noise),("_law_any",265,F_law_any),("_law_piece",272,F_law_piece),("_law_prepared",277,F_law_prepared),("_law_book",282,F_law_book),("law",287,F_law),("Headers.__init__",141,F_H_init),("Headers._convert_string_type",148,F_Hconvert_string_type),("Headers.__len__",155,F_H_len),("Headers.__setitem__",162,F_H_setitem),("Headers.__delitem__",167,F_H_delitem),("Headers.__getitem__",174,F_H_getitem),("Headers.get_all",186,F_H_get_all),("Headers.get",194,F_H_get),("Headers.keys",199,F_H_keys),("Headers.values",204,F_H_values),("Headers.items",211,F_H_items),("Headers.setdefault",237,F_H_setdefault)]
theorem tl (m:Str) (h:(builtinLookup "object" m).isSome=true):∃y,typeLookup (.type "object") m=pure y:=by
  obtain⟨r,hr⟩:=Option.isSome_iff_exists.mp h
  exact⟨r,by rw[typeLookup_type,hr]⟩
theorem tab_ok:AllM (fun r=>RowOK prog w (K P x os) r.1 r.2.1 r.2.2) tab:=⟨.fn ⟨_,_,ok_substitution_cost P x os⟩ ⋯ ⋯,.fn ⟨_,_,ok_levenshtein_distance P x os⟩ ⋯ ⋯,.fn ⟨_,_,ok_law_noise P x os⟩ ⋯ ⋯,.fn ⟨_,_,ok_law_any P x os⟩ ⋯ ⋯,.fn ⟨_,_,ok_law_piece P x os⟩ ⋯ ⋯,.fn ⟨_,_,ok_law_prepared P x os⟩ ⋯ ⋯,.fn ⟨_,_,ok_law_book P x os⟩ ⋯ ⋯,.fn ⟨_,_,ok_law P x os⟩ ⋯ ⋯,.me "__init__" ⟨_,_,ok_H_init P x os⟩ ⋯ ⋯ ⋯ (by decide+kernel) (tl _ (by rw[builtinLookup_eq_fast];rfl')),.me "_convert_string_type" ⟨_,_,ok_Hconvert_string_type P x os⟩ ⋯ ⋯ ⋯ (by decide+kernel) (tl _ (by rw[builtinLookup_eq_fast];rfl')),.me "__len__" ⟨_,_,ok_H_len P x os⟩ ⋯ ⋯ ⋯ (by decide+kernel) (tl _ (by rw[builtinLookup_eq_fast];rfl')),.me "__setitem__" ⟨_,_,ok_H_setitem P x os⟩ ⋯ ⋯ ⋯ (by decide+kernel) (tl _ (by rw[builtinLookup_eq_fast];rfl')),.me "__delitem__" ⟨_,_,ok_H_delitem P x os⟩ ⋯ ⋯ ⋯ (by decide+kernel) (tl _ (by rw[builtinLookup_eq_fast];rfl')),.me "__getitem__" ⟨_,_,ok_H_getitem P x os⟩ ⋯ ⋯ ⋯ (by decide+kernel) (tl _ (by rw[builtinLookup_eq_fast];rfl')),.me "get_all" ⟨_,_,ok_H_get_all P x os⟩ ⋯ ⋯ ⋯ (by decide+kernel) (tl _ (by rw[builtinLookup_eq_fast];rfl')),.me "get" ⟨_,_,ok_H_get P x os⟩ ⋯ ⋯ ⋯ (by decide+kernel) (tl _ (by rw[builtinLookup_eq_fast];rfl')),.me "keys" ⟨_,_,ok_H_keys P x os⟩ ⋯ ⋯ ⋯ (by decide+kernel) (tl _ (by rw[builtinLookup_eq_fast];rfl')),.me "values" ⟨_,_,ok_H_values P x os⟩ ⋯ ⋯ ⋯ (by decide+kernel) (tl _ (by rw[builtinLookup_eq_fast];rfl')),.me "items" ⟨_,_,ok_H_items P x os⟩ ⋯ ⋯ ⋯ (by decide+kernel) (tl _ (by rw[builtinLookup_eq_fast];rfl')),.me "setdefault" ⟨_,_,ok_H_setdefault P x os⟩ ⋯ ⋯ ⋯ (by decide+kernel) (tl _ (by rw[builtinLookup_eq_fast];rfl')),trivial⟩
noncomputable def globs:List (Str×V):=[("_MAX_STRING_SIZE",.d (.int 40)),("_MOVE_COST",.d (.int 2)),("_CASE_COST",.d (.int 1)),("_name_disallowed_re",.pat true),("_value_disallowed_re",.pat false),("bool",.ty "bool"),("str",.ty "str"),("list",.ty "list")]
noncomputable def b1I:List (Int×Tok):=[(65024,343),(65025,344),(65026,345),(65027,346),(65028,347),(65029,348),(6150,329),(65030,349),(65031,350),(65032,351),(65033,352),(6155,330),(6156,331),(6157,332),(8203,333),(8204,334),(8205,335),(65034,353),(65035,354),(65036,355),(65037,356),(65038,357),(65039,358),(173,327),(847,328),(8288,336),(65279,337)]
noncomputable def prim1 (x:PyData):Option PyData:=(str? x).bind fun s=>one (strL s) fun c=>some (.bool (b1I.any fun p=>p.1==c))
noncomputable def prim3 (x:PyData):Option PyData:=(str? x).bind fun s=>one (strL s) fun c=>some (.str ((b3L.lookup (c:Int)).getD (Txt.lower s)))
noncomputable def prims (f:Str):Option (PyData→Option PyData):=bif f==("in_table_b1":Str)then some prim1 else bif f==("map_table_b3":Str)then some prim3 else none
noncomputable def G0:Env':=⟨fun x=>globs.lookup x,fnT tab,fun _=>none⟩
noncomputable def G:Env':=⟨fun x=>globs.lookup x,fnT tab,prims⟩
theorem globs_ok:AllM (GlobOK (K P x os)) globs:=⟨⟨.int 40 291,.inl ⋯,rfl,fun _=>⟨_,rfl⟩⟩,⟨.int 2 293,.inl ⋯,rfl,fun _=>⟨_,rfl⟩⟩,⟨.int 1 295,.inl ⋯,rfl,fun _=>⟨_,rfl⟩⟩,⟨.ref 121,.inl ⋯,rfl,fun _=>rfl⟩,⟨.ref 126,.inl ⋯,rfl,fun _=>rfl⟩,
  ⟨.type "bool",.inr ⟨by rfl',by rfl'⟩,rfl,fun _=>rfl⟩,⟨.type "str",.inr ⟨by rfl',by rfl'⟩,rfl,fun _=>rfl⟩,⟨.type "list",.inr ⟨by rfl',by rfl'⟩,rfl,fun _=>rfl⟩,trivial⟩
theorem bui_ok:AllM (fun p=>(K P x os).gm p.1=none∧(K P x os).bm p.1=some p.2.val) bTab:=⟨⟨by rfl',by rfl'⟩,⟨by rfl',by rfl'⟩,⟨by rfl',by rfl'⟩,⟨by rfl',by rfl'⟩,⟨by rfl',by rfl'⟩,⟨by rfl',by rfl'⟩,⟨by rfl',by rfl'⟩,⟨by rfl',by rfl'⟩,⟨by rfl',by rfl'⟩,⟨by rfl',by rfl'⟩,⟨by rfl',by rfl'⟩,⟨by rfl',by rfl'⟩,⟨by rfl',by rfl'⟩,trivial⟩
theorem pat_ok:∀b,PatOK (hp P x) ((K P x os).pa b) (if b then nameCode else valueCode)
  |true=> .mk (o:=o130 P) (oc:=o129 P) ⋯ rfl rfl rfl rfl ⋯ rfl ⋯ rfl
  |false=> .mk (o:=o135 P) (oc:=o134 P) ⋯ rfl rfl rfl rfl ⋯ rfl ⋯ rfl
theorem wdOf {f:Str→Option (PyData→Option PyData)} (hf:∀{n g},f n=some g→∃a o fd,(K P x os).gm n=some (.ref a)∧(K P x os).h₀.get? a=some o∧o.data= .func fd∧∀{x' y},g x'=some y→Prim pw w (K P x os) a x' y):Wd pw w (K P x os) ⟨fun x=>globs.lookup x,fnT tab,f⟩ (faT tab) where
  N:=⟨.of_isNs ⋯,.of_isNs ⋯,fun x v e=>(globs_ok P _ os).lk e⟩
  D:=⟨.of_ok ⋯,fun e=>(fnT_at (tab_ok (prog:=pw) (w:=w) P x os) e).fd⟩
  fnName:=fun e n=>(fnT_at (tab_ok (prog:=pw) (w:=w) P x os) e).gm n
  co:=fun k f=>f 246 (sS "Headers") (sS "Headers") [.type "object"] [] [] none none none none (some (vS "Headers" 2415)) (some (vS "Headers" 2423)) (some (.bool true)) (k _ _ ⋯) (Heap.Ns.keeps (.of_isNs ⋯) k)
  nga:=⋯
  ngx:=⋯
  nsa:=⋯
  nhd:=⋯
  meth:=fun e=>(fnT_at (tab_ok (prog:=pw) (w:=w) P x os) e).meth
  clsName:=⋯
  pat:=pat_ok P x os
  prim:=fun e=>let⟨a,o,fd,h1,h2,h3,h4⟩:=hf e;⟨a,o,fd,h1,h2,h3,fun e=>(h4 e).run⟩
  bui:=fun e=>(bui_ok P x os).lk e
  sysm:=⟨o1 P,by rfl',fun ep h=>absurd (congrArg (fun d=>match d with | .dict es _=>es.size |_=>0) h) (show ¬(3:Nat)=0 by decide)⟩
  zip:=⟨by rfl',by rfl'⟩
theorem mkS_of {s:Str} {l:List Nat} (h:strL s=l):s=mkS l:=h ▸ (mkS_strL s).symm
noncomputable def bc (c:Nat):List (Str×V):=[("code",.d (.str (mkS [c])))]
noncomputable def s1 (c:Nat) (o:Mine.Objs):Mine.St:=⟨[("code",some (.d (.str (mkS [c]))))],o⟩
noncomputable def s2 (c:Nat) (r:Option V) (o:Mine.Objs):Mine.St:=⟨[("code",some (.d (.str (mkS [c])))),("r",r)],o⟩
theorem prim1_ok {d y:PyData} (h:prim1 d=some y):Prim pw w (K P x os) 70 d y:=by
  obtain⟨s,hs,h⟩:=Option.bind_eq_some_iff.mp h
  cases d with
  | str s'=>
    obtain rfl:s'=s:=Option.some.inj hs
    obtain⟨c,q,rfl⟩:∃c:Nat,strL s'=[c]∧PyData.bool (b1I.any fun p=>p.1==(c:Int))=y:=Hd.one (P:=(·=y)) (.of h rfl) fun c q e=>⟨c,q,e⟩
    rw[mkS_of q]
    exact prim_set (c:=(c:Int)) (d:= .str (mkS [c])) (wdOf P x os (f:=fun _=>none) nofun) (ok_in_table_b1 (prog:=pw) (w:=w) P x os) rfl ⋯ ⋯ (fun o=>Hd.of (a:=bc c) ⋯ (Hd.of (a:=s1 c o) ⋯ (Hd.of (a:=(V.d (.int c),s1 c o)) ⋯ ⟨rfl,rfl⟩))) (b:=60) ⋯
      fun h k=>setOf_of (m:=27) b1I (k _ _ (show(hp P x).get? 60=some (o64 P) by rfl')) ⟨rfl,rfl,rfl⟩ rfl ⋯ (by decide+kernel) ⋯ ⋯
  |_=>cases hs
theorem prim3_ok {es:List DictEntry} {ep:Nat} (hx:x 0=dObj es ep) (hE:Ents b3L es) {d y:PyData} (h:prim3 d=some y):Prim pw w (K P x os) 116 d y:=by
  have hM:∀h:Heap,Up (K P x os).h₀ h→h.MapOf (intKind pw w) 71 (fun k=>findBy (intKind pw w).is es.toArray k):=fun h k=>mapOf_of (k _ _ ((Heap.get?_eq_some (hp P x) 71 (dObj es ep)).mpr ⟨(show(hp P x).objs[71]?=some (x 0) by rfl').trans (congrArg some hx),rfl⟩)) hE
  obtain⟨s,hs,h⟩:=Option.bind_eq_some_iff.mp h
  cases d with
  | str s'=>
    obtain rfl:s'=s:=Option.some.inj hs
    obtain⟨c,q,rfl⟩:∃c:Nat,strL s'=[c]∧PyData.str ((b3L.lookup (c:Int)).getD (Txt.lower s'))=y:=Hd.one (P:=(·=y)) (.of h rfl) fun c q e=>⟨c,q,e⟩
    rw[mkS_of q]
    have key:=ents_find (prog:=pw) (w:=w) hE (c:Int)
    have go:=fun(z y:PyData)=>prim_dict (z:=z) (y:=y) (c:=(c:Int)) (d:= .str (mkS [c])) (b:=71) (wdOf P x os (f:=fun _=>none) nofun) (ok_map_table_b3 (prog:=pw) (w:=w) P x os) rfl ⋯ ⋯ ⋯
    generalize b3L.lookup (c:Int)=v at key
    cases v with
    |none=>exact go .none _ (fun o=>Hd.of (a:=bc c) ⋯ (Hd.of (a:=s2 c none o) ⋯ (Hd.of (a:=(V.d (.int c),s2 c none o)) ⋯ ⟨rfl,Hd.of (a:=s2 c (some (.d .none)) o) ⋯ (Hd.of (a:=(Fl.ret (.d (.str (Txt.lower (mkS [c])))),s2 c (some (.d .none)) o)) ⋯ ⟨rfl,rfl⟩)⟩))) ⋯ ⋯ hM (by rw[show findBy (intKind pw w).is es.toArray c=none from key];exact rfl)
    | some v=>
      obtain⟨t,key⟩:=key
      exact go (.str v) _ (fun o=>Hd.of (a:=bc c) ⋯ (Hd.of (a:=s2 c none o) ⋯ (Hd.of (a:=(V.d (.int c),s2 c none o)) ⋯ ⟨rfl,Hd.of (a:=s2 c (some (.d (.str v))) o) ⋯ (Hd.of (a:=(Fl.ret (.d (.str v)),s2 c (some (.d (.str v))) o)) ⋯ ⟨rfl,rfl⟩)⟩))) ⋯ ⋯ hM (by rw[key];exact⟨t,rfl⟩)
  |_=>cases hs
theorem wd {es:List DictEntry} {ep:Nat} (hx:x 0=dObj es ep) (hE:Ents b3L es):Wd pw w (K P x os) G (faT tab):=wdOf P x os fun {f g} e=>by
  unfold prims at e
  cases q:f==("in_table_b1":Str)with
  |true=>obtain rfl:=eq_of_beq q;cases e;exact⟨70,o76 P,_,by rfl',by rfl',rfl,prim1_ok P x os⟩
  | false=>
    rw[q]at e
    cases q:f==("map_table_b3":Str)with
    |true=>obtain rfl:=eq_of_beq q;cases e;exact⟨116,o125 P,_,by rfl',by rfl',rfl,prim3_ok P x os hx hE⟩
    |false=>rw[q]at e;cases e
end
end V02
end
section
namespace V02
open PySem PySem.W PyProof.Rows Mine H02
theorem ints_rds {F:Addr→Obj→Prop} {vs:List Value} {ns:List Int} (h:IntsAre vs ns):Rds F (ns.map .int) vs:=by
  induction h with
  |nil=>rfl
  |cons i t r ih=>exact Rds.cons ⟨_,rfl⟩ ih
theorem top_call {w:World} {s₀ s₁:Shared} {mg:Str→Option Value} {ns:List Int} {l:Addr} {items:Array Value} {a:Addr} (hlaw:Hd ((fs G 169).call "law" [.d (.list (ns.map .int))] [] []) fun r=>r.1= .d (.bool true)) (hY:Y w s₀) (keeps:∀b o,s₀.heap.get? b=some o→s₁.heap.get? b=some o) (hg:s₁.gens=#[])
    (hn:s₁.heap.Ns mainGlobals mg) (hmg:mg "law"=some (.ref a)) (hL:∃o n,s₁.heap.get? l=some o∧o.cls= .type "list"∧o.data= .seq items n∧o.dict=none) (hI:IntsAre items.toList ns) {Q:Value→Shared→Prop} {E:Value→Shared→Prop}
    (h:∀s',(∀b o,s₁.heap.get? b=some o→s'.heap.get? b=some o)→s'.os=s₁.os→s'.gens=#[]→Q (.bool true) s'):wpAny (model pw w) callerA (PySem.call (.ref a) [.ref l]) Q E s₁:=by
  obtain⟨x,es,ep,os,hx,hE,rfl⟩:=hY
  have h1:(hp w.params x).Ns mainGlobals (K w.params x os).gm:= .of_isNs ⋯
  have h4:(K w.params x os).gm "law"=some (.ref 287):=⋯
  rw[hn.eq_nsMap.trans (h1.keeps keeps).eq_nsMap.symm,h4]at hmg
  obtain rfl:287=a:=Value.ref.inj (Option.some.inj hmg)
  have R0:RelW (K w.params x s₁.os) [] ⟨fun _=> .fz,fun _=>0⟩ s₁:=⟨fun e=>⟨rfl,keeps _ _ e⟩,fun n=>absurd rfl n,hg,rfl,⟨nofun,nofun⟩⟩
  obtain⟨ol,n,ho,hc,hd,hnd⟩:=hL
  exact SC.call0 (sound (wd w.params x s₁.os hx hE) 169).call hlaw ⟨rfl,by decide,by decide⟩ R0 ⟨rfl,⟨rfl,⟨rfl,ho⟩,hc,hd,ints_rds hI,hnd⟩,rfl,fun _ q=>q.elim⟩ fun r val ρ' s' e WS rv nv=>by
    rw[e]at rv
    cases(rv:val=_)
    exact h s' (fun b ob e=>(WS.mv.keep b ob e fun q=>q.elim id id).2.2 trivial) WS.rel.os WS.rel.gens
end V02
end
section
open PySem PySem.W PyProof.Rows
namespace Mine
noncomputable def ovs (L:List (Str×V)) (σ:Str→Option V) (x:Str):Option V:=(L.lookup x).elim (σ x) some
noncomputable def S (N:List Str) (L:List (Str×V)) (σ:Str→Option V) (o:Objs):St:=⟨N.map fun x=>(x,ovs L σ x),o⟩
noncomputable def sq:Stmt→List Expr×List Stmt×List Stmt
  | .Assign ts e _=>(e::ts,[],[])
  | .AugAssign t _ e _=>([e,t],[],[])
  | .Return e _=>(e.toList,[],[])
  | .If t a b _=>([t],a,b)
  | .While t b o _=>([t],b,o)
  | .For t e b o _=>([e,t],b,o)
  | .Expr e _=>([e],[],[])
  |_=>([],[],[])
noncomputable def kids:Expr→List Expr
  | .BinOp l _ r _=>[l,r]
  | .UnaryOp _ x _=>[x]
  | .BoolOp _ es _=>es
  | .IfExp t a b _=>[t,a,b]
  | .Compare l _ es _=>l::es
  | .List es _=>es
  | .Tuple es _ _=>es
  | .Subscript v i _=>[v,i]
  | .Slice a b c _=>a.toList++b.toList++c.toList
  | .Attribute o _ _=>[o]
  | .Call g args _ _=>g::args
  | .ListComp e gs _ _=>e::(gs.map fun g=>[g.iter,g.target]++g.ifs).flatten
  |_=>[]
noncomputable def e0:Expr:= .Name ⟨#[]⟩ default
noncomputable def kd (e:Expr) (i:Nat):Expr:=((kids e)[i]?).getD e0
noncomputable def st' (B:List Stmt) (k:Nat):Stmt:=(B[k]?).getD (.Pass default)
noncomputable def sE (B:List Stmt) (k i:Nat):Expr:=((sq (st' B k)).1[i]?).getD e0
noncomputable def sB (B:List Stmt) (k:Nat):List Stmt:=(sq (st' B k)).2.1
noncomputable def sO (B:List Stmt) (k:Nat):List Stmt:=(sq (st' B k)).2.2
noncomputable def nmE (e:Expr):Str:=(nameE e).getD ⟨#[]⟩
noncomputable def nmS (B:List Stmt) (k:Nat):Str:=nmE (sE B k 1)
noncomputable def opE:Expr→Operator | .BinOp _ op _ _=>op |_=> .Add
noncomputable def gnE:Expr→List Comprehension×Scope | .ListComp _ gs sc _=>(gs,sc) |_=>([],⟨.module,[],false,false,[]⟩)
section
variable {G:Env'} {n:Nat} {C:Cx} {o o':Objs} {v:V} {st st1 st2:St} {e:Expr}
theorem x_bin {a b} (h0:ev G (n+1) C e st=evBin (fs G n) C (kd e 0) (opE e) (kd e 1) st) (h1:ev G n C (kd e 0) st=some (a,st)) (h2:ev G n C (kd e 1) st=some (b,st)) (hv:binop st.objs (opE e) a b=some v):ev G (n+1) C e st=some (v,st):=by
  rw[h0];show(ev G n C (kd e 0) st).bind _=_
  rw[h1];show(ev G n C (kd e 1) st).bind _=_
  rw[h2];show(binop st.objs (opE e) a b).map _=_
  rw[hv];rfl
theorem evs1 {f:Expr→St→Option (V×St)} (h:f e st=some (v,st)):evs f [e] st=some ([v],st):=by
  show(f e st).bind _=_
  rw[h];rfl
theorem evs_c {f:Expr→St→Option (V×St)} {es vs} (h:f e st=some (v,st)) (h2:evs f es st=some (vs,st)):evs f (e::es) st=some (v::vs,st):=by
  show(f e st).bind _=_
  rw[h];show(evs f es st).map _=_
  rw[h2];rfl
theorem x_list {vs xs} (h0:ev G (n+1) C e st=evList (fs G n) C (kids e) st) (h:evs (ev G n C) (kids e) st=some (vs,st)) (hl:decide (vs.length≤maxLen)=true) (hx:rd0s vs=some xs):ev G (n+1) C e st=some (.fl xs,st):=by
  rw[h0];show(evs (ev G n C) (kids e) st).bind _=_
  rw[h];show gd (decide (vs.length≤maxLen)) _=_
  rw[hl];show(rd0s vs).map _=_
  rw[hx];rfl
theorem x_item {w j} (h0:ev G (n+1) C e st=evItem (fs G n) C (kd e 0) (kd e 1) st) (h1:ev G n C (kd e 0) st=some (w,st)) (h2:ev G n C (kd e 1) st=some (.d (.int j),st)) (hv:itemV st.objs w j=some v):ev G (n+1) C e st=some (v,st):=by
  rw[h0];show(ev G n C (kd e 0) st).bind _=_
  rw[h1];show(ev G n C (kd e 1) st).bind _=_
  rw[h2]
  cases w with
  |obj i=>cases hv
  |_=>exact(congrArg (Option.map fun r=>(r,st)) hv).trans rfl
theorem part_s (h:ev G n C e st=some (v,st)):evPart (fs G n) C (some e) st=some (some v,st):=by
  show(ev G n C e st).map _=_
  rw[h];rfl
theorem x_slice {lo hi sp w l h s} (h0:ev G (n+1) C e st=evSlice (fs G n) C (kd e 0) lo hi sp st) (h1:ev G n C (kd e 0) st=some (w,st)) (h2:evPart (fs G n) C lo st=some (l,st)) (h3:evPart (fs G n) C hi st=some (h,st)) (h4:evPart (fs G n) C sp st=some (s,st)) (hv:sliceV st.objs w l h s=some v):ev G (n+1) C e st=some (v,st):=by
  rw[h0];show(ev G n C (kd e 0) st).bind _=_
  rw[h1];show(evPart (fs G n) C lo st).bind _=_
  rw[h2];show(evPart (fs G n) C hi st).bind _=_
  rw[h3];show(evPart (fs G n) C sp st).bind _=_
  rw[h4];show(sliceV st.objs w l h s).map _=_
  rw[hv];rfl
theorem x_ife {r} (c:Bool) (h0:ev G (n+1) C e st=(tst G n C (kd e 0) st).bind fun p=>bif p.1 then ev G n C (kd e 1) p.2 else ev G n C (kd e 2) p.2) (h:tst G n C (kd e 0) st=some (c,st)) (h1:c=true→ev G n C (kd e 1) st=r) (h2:c=false→ev G n C (kd e 2) st=r):ev G (n+1) C e st=r:=by
  rw[h0,h]
  cases c
  · exact h2 rfl
  · exact h1 rfl
noncomputable def bn:Bf→Str
  | .len=>"len" | .ord=>"ord" | .chr=>"chr" | .range=>"range" | .list=>"list" | .sum=>"sum" | .min=>"min" | .isinstance=>"isinstance" | .int=>"int" | .str=>"str" | .type=>"type" | .abs=>"abs" | .max=>"max"
theorem bn_lk (b:Bf):bTab.lookup (bn b)=some b:=by cases b<;>rfl'
theorem x_bui (b:Bf) {vs} (h0:ev G (n+1) C e st=evBui (fs G n) C (bn b) (kids e).tail st) (h:evs (ev G n C) (kids e).tail st=some (vs,st)) (hc:callB st.objs b vs=some v):ev G (n+1) C e st=some (v,st):=by
  rw[h0];unfold evBui;rw[bn_lk];show(evs (ev G n C) (kids e).tail st).bind _=_
  rw[h];show(lenO b vs).elim ((callB st.objs b vs).map _) _=_
  cases q:lenO b vs with
  |none=>rw[hc];rfl
  |some k=>obtain⟨rfl,rfl⟩:=lenO_ex q;exact nomatch (show none=some v from hc)
theorem x_fnH (f:Str) {vs} {P:V×St→Prop} (h0:ev G (n+1) C e st=evFn (fs G n) C f (kids e).tail st) (h:evs (ev G n C) (kids e).tail st=some (vs,st)) (hc:Hd (call G n f vs [] st.objs) fun r=>P (r.1,⟨st.vars,r.2⟩)):Hd (ev G (n+1) C e st) P:=by
  rw[h0];show Hd ((evs (ev G n C) (kids e).tail st).bind _) P
  rw[h]
  exact hc.get fun r hr e=>by show Hd ((call G n f vs [] st.objs).map _) P;rw[hr];exact e
theorem x_fn (f:Str) {vs} (h0:ev G (n+1) C e st=evFn (fs G n) C f (kids e).tail st) (h:evs (ev G n C) (kids e).tail st=some (vs,st)) (hc:call G n f vs [] st.objs=some (v,st.objs)):ev G (n+1) C e st=some (v,st):=by
  rw[h0];show(evs (ev G n C) (kids e).tail st).bind _=_
  rw[h];show(call G n f vs [] st.objs).map _=_
  rw[hc];rfl
theorem i_val {it:It} (h0:iter G (n+1) C e st=iterV (fs G n) C e st) (h:ev G n C e st=some (v,st)) (hi:itIn st.objs v=some it):iter G (n+1) C e st=some (it,st):=by
  rw[h0];show(ev G n C e st).bind _=_
  rw[h];show(itIn st.objs v).map _=_
  rw[hi];rfl
theorem t_val {c} (h0:tst G (n+1) C e st=tstV (fs G n) C e st) (h:ev G n C e st=some (v,st)) (hc:truthV st.objs v=some c):tst G (n+1) C e st=some (c,st):=by
  rw[h0];show(ev G n C e st).bind _=_
  rw[h];show(truthV st.objs v).map _=_
  rw[hc];rfl
theorem t_cmp (op:CmpOp) {a b c} (h0:tst G (n+1) C e st=(ev G n C (kd e 0) st).bind fun p=>evChain (ev G n C) p.1 [op] [kd e 1] p.2) (h1:ev G n C (kd e 0) st=some (a,st)) (h2:ev G n C (kd e 1) st=some (b,st)) (hc:cmpop st.objs op a b=some c):tst G (n+1) C e st=some (c,st):=by
  rw[h0,h1];show(ev G n C (kd e 1) st).bind _=_
  rw[h2];show(cmpop st.objs op a b).bind _=_
  rw[hc];rfl
theorem t_not {c} (h0:tst G (n+1) C e st=(tst G n C (kd e 0) st).map fun p=>(!p.1,p.2)) (h:tst G n C (kd e 0) st=some (c,st)):tst G (n+1) C e st=some (!c,st):=by rw[h0,h];rfl
theorem a_1 {t:Expr→St→Option (Bool×St)} {c} (h:t e st=some (c,st)):evAnd t [e] st=some (c,st):=by
  show(t e st).bind _=_
  rw[h];cases c<;>rfl
theorem a_c {t:Expr→St→Option (Bool×St)} {es c d} (h:t e st=some (c,st)) (h2:c=true→evAnd t es st=some (d,st)):evAnd t (e::es) st=some (c&&d,st):=by
  show(t e st).bind _=_
  rw[h]
  cases c
  · rfl
  · exact h2 rfl
theorem o_1 {t:Expr→St→Option (Bool×St)} {c} (h:t e st=some (c,st)):evOr t [e] st=some (c,st):=by
  show(t e st).bind _=_
  rw[h];cases c<;>rfl
theorem o_c {t:Expr→St→Option (Bool×St)} {es c d} (h:t e st=some (c,st)) (h2:c=false→evOr t es st=some (d,st)):evOr t (e::es) st=some (c||d,st):=by
  show(t e st).bind _=_
  rw[h]
  cases c
  · exact h2 rfl
  · rfl
theorem gd_t {α:Type} {b:Bool} {x:Option α} (h:b=true):gd b x=x:=by subst h;rfl
noncomputable def Nx (G:Env') (n:Nat) (C:Cx) (ss:List Stmt) (P:Fl×St→Prop) (p:Fl×St):Prop:=Hd (bif p.1.isNext then exs (ex G n C) ss p.2 else some p) P
variable {P:Fl×St→Prop} {B ss:List Stmt} {k:Nat}
theorem Nx.z {f:Option (Fl×St)} (h:f=some (.next,st)) (k:Hd (exs (ex G n C) ss st) P):Hd f (Nx G n C ss P):= .of h k
theorem Nx.y {f:Option (Fl×St)} (h:f=some (.next,st)) (h0:ss=[]) (k:P (.next,st)):Hd f (Nx G n C ss P):= .of h (by subst h0;exact k)
theorem Nx.i (h:Hd (exs (ex G n C) ss st) P):Nx G n C ss P (.next,st):=h
theorem Nx.r (h:P (.ret v,st)):Nx G n C ss P (.ret v,st):=h
theorem exs_app {f:Stmt→St→Option (Fl×St)}:∀(a b:List Stmt) {st:St},exs f a st=some (.next,st1)→exs f (a++b) st=exs f b st1
  |[],b,st,h=>by cases(h:some (Fl.next,st)=_);rfl
  | s::a,b,st,h=>Hd.get (x:=f s st) (P:=fun p=>(bif p.1.isNext then exs f a p.2 else some p)=some (.next,st1)) (by cases q:f s st with |none=>exact absurd ((congrArg (fun z=>z.bind fun p=>bif p.1.isNext then exs f a p.2 else some p) q).symm.trans h) nofun |some p=>exact(congrArg (fun z=>z.bind fun p=>bif p.1.isNext then exs f a p.2 else some p) q).symm.trans h) fun p hp h=>by
    show(f s st).bind (fun p=>bif p.1.isNext then exs f (a++b) p.2 else some p)=_
    rw[hp]
    show(bif p.1.isNext then exs f (a++b) p.2 else some p)=_
    cases q:p.1.isNext with
    |true=>rw[q]at h;exact exs_app a b h
    |false=>rw[q]at h;cases h;cases q
theorem Ks (m:Nat) (st1:St) (h:exs (ex G n C) ((B.drop k).take m) st=some (.next,st1)) (h2:Hd (exs (ex G n C) (B.drop (k+m)) st1) P):Hd (exs (ex G n C) (B.drop k) st) P:=by
  rw[←List.take_append_drop m (B.drop k),exs_app _ _ h,List.drop_drop];exact h2
theorem A (v:V) (st2:St) (h0:exs (ex G (n+2) C) (B.drop k) st=((ev G (n+1) C (sE B k 0) st).bind fun p=>(bindN C (nmS B k) p.1 p.2).map fun st=>(Fl.next,st)).bind fun p=>bif p.1.isNext then exs (ex G (n+2) C) (B.drop (k+1)) p.2 else some p)
    (h:ev G (n+1) C (sE B k 0) st=some (v,st1)) (hb:bindN C (nmS B k) v st1=some st2) (h2:Hd (exs (ex G (n+2) C) (B.drop (k+1)) st2) P):Hd (exs (ex G (n+2) C) (B.drop k) st) P:=by
  rw[h0,h];show Hd (((bindN C (nmS B k) v st1).map _).bind _) P
  rw[hb];exact h2
theorem AT {st2:St} (v:V) (h0:exs (ex G (n+2) C) (B.drop k) st=((ev G (n+1) C (sE B k 0) st).bind fun p=>(bind G (n+1) C (sE B k 1) p.1 p.2).map fun st=>(Fl.next,st)).bind fun p=>bif p.1.isNext then exs (ex G (n+2) C) (B.drop (k+1)) p.2 else some p)
    (h:ev G (n+1) C (sE B k 0) st=some (v,st1)) (hb:bind G (n+1) C (sE B k 1) v st1=some st2) (h2:Hd (exs (ex G (n+2) C) (B.drop (k+1)) st2) P):Hd (exs (ex G (n+2) C) (B.drop k) st) P:=by
  rw[h0,h];show Hd (((bind G (n+1) C (sE B k 1) v st1).map _).bind _) P
  rw[hb];exact h2
theorem AD {st2:St} (i:Int) (h0:exs (ex G (n+2) C) (B.drop k) st=((ev G (n+1) C (sE B k 0) st).bind fun p=>(asI p.1).bind fun i=>(bind G (n+1) C (sE B k 1) (.d (.int i)) p.2).bind fun st=>(bind G (n+1) C (sE B k 2) (.d (.int i)) st).map fun st=>(Fl.next,st)).bind fun p=>bif p.1.isNext then exs (ex G (n+2) C) (B.drop (k+1)) p.2 else some p)
    (h:ev G (n+1) C (sE B k 0) st=some (.d (.int i),st)) (hb:((bind G (n+1) C (sE B k 1) (.d (.int i)) st).bind fun st=>(bind G (n+1) C (sE B k 2) (.d (.int i)) st).map fun st=>(Fl.next,st))=some (.next,st2)) (h2:Hd (exs (ex G (n+2) C) (B.drop (k+1)) st2) P):Hd (exs (ex G (n+2) C) (B.drop k) st) P:=by
  rw[h0,h];show Hd (Option.bind ((bind G (n+1) C (sE B k 1) (.d (.int i)) st).bind _) _) P
  rw[hb];exact h2
theorem b_sub {i j:Nat} {xs:List PyData} {x:PyData} (h0:bind G (n+1) C e v st=(ev G n C (kd e 0) st).bind fun p=>p.1.obj?.elim (p.1.hl?.bind fun k=>bindSub (fs G n) C k (kd e 1) v p.2) fun k=>(ev G n C (kd e 1) p.2).bind fun q=>(objCall (fs G n) "Headers.__setitem__" k [q.1,v] q.2).map fun r=>r.2) (ha:isAll (kd e 1)=false) (h1:ev G n C (kd e 0) st=some (.hl i,st)) (h2:ev G n C (kd e 1) st=some (.d (.int j),st)) (hx:rd0 v=some x) (hl:listAt st.objs i=some xs) (hj:idx? j xs.length=some j):bind G (n+1) C e v st=some (setCell i (.list (xs.set j x)) st):=by
  rw[h0,h1];show bindSub (fs G n) C i (kd e 1) v st=_
  unfold bindSub
  rw[ha];show(ev G n C (kd e 1) st).bind _=_
  rw[h2];show(rd0 v).bind _=_
  rw[hx];show(listAt st.objs i).bind _=_
  rw[hl];show gd (decide (0≤(j:Int))) ((idx? (j:Int) xs.length).map _)=_
  rw[gd_t (decide_eq_true (Int.natCast_nonneg j)),hj];rfl
theorem AH (h0:exs (ex G (n+2) C) (B.drop k) st=((ev G (n+1) C (sE B k 0) st).bind fun p=>(bindN C (nmS B k) p.1 p.2).map fun st=>(Fl.next,st)).bind fun p=>bif p.1.isNext then exs (ex G (n+2) C) (B.drop (k+1)) p.2 else some p)
    (h:Hd (ev G (n+1) C (sE B k 0) st) fun r=>Hd (bindN C (nmS B k) r.1 r.2) fun st2=>Hd (exs (ex G (n+2) C) (B.drop (k+1)) st2) P):Hd (exs (ex G (n+2) C) (B.drop k) st) P:=
  h.get fun r hr h=>h.get fun st2 h2 h3=>A r.1 st2 h0 hr h2 h3
theorem AP {i:Nat} {xs:List PyData} {x:PyData} (h0:exs (ex G (n+2) C) (B.drop k) st=((evMeth (fs G n) C (.hl i) "append" [kd (sE B k 0) 1] [] st).map fun p=>(Fl.next,p.2)).bind fun p=>bif p.1.isNext then exs (ex G (n+2) C) (B.drop (k+1)) p.2 else some p)
    (hl:listAt st.objs i=some xs) (h:ev G n C (kd (sE B k 0) 1) st=some (v,st)) (hx:rd0 v=some x) (hn:decide (xs.length<maxLen)=true) (h2:Hd (exs (ex G (n+2) C) (B.drop (k+1)) (setCell i (.list (xs++[x])) st)) P):Hd (exs (ex G (n+2) C) (B.drop k) st) P:=by
  rw[h0,show evMeth (fs G n) C (.hl i) "append" [kd (sE B k 0) 1] [] st=some (.d .none,setCell i (.list (xs++[x])) st)from ?_]
  · exact h2
  show gd (true&&(listAt st.objs i).isSome) ((evs (ev G n C) [kd (sE B k 0) 1] st).bind _)=_
  rw[hl,evs1 h];show(rd0 v).bind _=_
  rw[hx];show(listAt st.objs i).bind _=_
  rw[hl];show gd (decide (xs.length<maxLen)) _=_
  rw[gd_t hn]
theorem R (h0:exs (ex G (n+1) C) (B.drop k) st=((ev G n C (sE B k 0) st).map fun p=>(Fl.ret p.1,p.2)).bind fun p=>bif p.1.isNext then exs (ex G (n+1) C) (B.drop (k+1)) p.2 else some p) (h:ev G n C (sE B k 0) st=some (v,st1)) (h2:P (.ret v,st1)):Hd (exs (ex G (n+1) C) (B.drop k) st) P:=by
  rw[h0,h];exact h2
theorem I (c:Bool) (h0:exs (ex G (n+1) C) (B.drop k) st=((tst G n C (sE B k 0) st).bind fun p=>bif p.1 then exs (ex G n C) (sB B k) p.2 else exs (ex G n C) (sO B k) p.2).bind fun p=>bif p.1.isNext then exs (ex G (n+1) C) (B.drop (k+1)) p.2 else some p)
    (h:tst G n C (sE B k 0) st=some (c,st)) (h1:c=true→Hd (exs (ex G n C) ((sB B k).drop 0) st) (Nx G (n+1) C (B.drop (k+1)) P)) (h2:c=false→Hd (exs (ex G n C) ((sO B k).drop 0) st) (Nx G (n+1) C (B.drop (k+1)) P)):Hd (exs (ex G (n+1) C) (B.drop k) st) P:=by
  rw[h0,h]
  cases c
  · exact(h2 rfl).get fun p hp h=>by show Hd ((exs (ex G n C) (sO B k) st).bind _) P;rw[show exs (ex G n C) (sO B k) st=some p from hp];exact h
  · exact(h1 rfl).get fun p hp h=>by show Hd ((exs (ex G n C) (sB B k) st).bind _) P;rw[show exs (ex G n C) (sB B k) st=some p from hp];exact h
theorem IR (c:Bool) (h0:exs (ex G (n+1) C) (B.drop k) st=((tst G n C (sE B k 0) st).bind fun p=>bif p.1 then exs (ex G n C) (sB B k) p.2 else exs (ex G n C) [] p.2).bind fun p=>bif p.1.isNext then exs (ex G (n+1) C) (B.drop (k+1)) p.2 else some p)
    (h:tst G n C (sE B k 0) st=some (c,st)) (h1:c=true→Hd (exs (ex G n C) ((sB B k).drop 0) st) (Nx G (n+1) C (B.drop (k+1)) P)) (h2:c=false→Hd (exs (ex G (n+1) C) (B.drop (k+1)) st) P):Hd (exs (ex G (n+1) C) (B.drop k) st) P:=by
  rw[h0,h]
  cases c
  · exact h2 rfl
  · exact(h1 rfl).get fun p hp h=>by show Hd ((exs (ex G n C) (sB B k) st).bind _) P;rw[show exs (ex G n C) (sB B k) st=some p from hp];exact h
noncomputable def fstF (c:Nat→Bool):Nat→Nat→Nat
  |0,j=>j
  |m+1,j=>bif c j then fstF c m (j+1)else j
theorem w_count {t:St→Option (Bool×St)} {f:St→Option (Fl×St)} (I:Nat→St→Prop) (c:Nat→Bool) (ht:∀k st,I k st→t st=some (c k,st)) (hb:∀k st,c k=true→I k st→Hd (f st) fun p=>p.1= .next∧I (k+1) p.2):
    ∀(m j fuel:Nat) (st:St),c (j+m)=false→m<fuel→I j st→(∀st,I (fstF c m j) st→P (.next,st))→Hd (whileL t f fuel st) P
  |m,j,0,st,_,hf,_,_=>absurd hf (Nat.not_lt_zero m)
  | 0,j,fuel+1,st,hc,hf,hI,k=>by
    show Hd ((t st).bind _) P
    rw[ht j st hI,show c j=false from hc];exact k st hI
  | m +1,j,fuel+1,st,hc,hf,hI,k=>by
    have k':∀st,I (bif c j then fstF c m (j+1)else j) st→P (.next,st):=k
    show Hd ((t st).bind _) P
    rw[ht j st hI]
    cases q:c j with
    |false=>rw[q]at k';exact k' st hI
    | true=>
      rw[q]at k'
      refine(hb j st q hI).get fun p hp ⟨e,hI⟩=>?_
      show Hd ((f st).bind _) P
      rw[hp]
      obtain⟨fl,st'⟩:=p
      cases(e:fl= .next)
      exact w_count I c ht hb m (j+1) fuel st' (Nat.succ_add_eq_add_succ j m ▸ hc) (Nat.lt_of_succ_lt_succ hf) hI k'
theorem f_all {b:PyData→St→Option St} {f:St→Option (Fl×St)} {it:It} {xs:List PyData} (I:Nat→St→Prop) (hit:∀j st,I j st→nextIt st.objs j it=some xs[j]?)
    (hb:∀j x st,xs[j]?=some x→I j st→Hd (b x st) fun st=>Hd (f st) fun p=>(p.1= .next∧I (j+1) p.2)∨(∃v,p.1= .ret v)∧P p) (k:∀st,I xs.length st→P (.next,st)):
    ∀(m j fuel:Nat) (st:St),j+m=xs.length→m<fuel→I j st→Hd (forL b f it fuel j st) P
  |m,j,0,st,_,hf,_=>absurd hf (Nat.not_lt_zero m)
  | 0,j,fuel+1,st,hj,hf,hI=>by
    obtain rfl:j=xs.length:=hj
    show Hd ((nextIt st.objs xs.length it).bind _) P
    rw[hit _ st hI,List.getElem?_eq_none (Nat.le_refl _)]
    exact k st hI
  | m +1,j,fuel+1,st,hj,hf,hI=>by
    have lt:j<xs.length:=hj ▸ Nat.lt_add_of_pos_right (Nat.succ_pos m)
    show Hd ((nextIt st.objs j it).bind _) P
    rw[hit j st hI,List.getElem?_eq_getElem lt]
    show Hd ((b xs[j] st).bind _) P
    refine(hb j _ st (List.getElem?_eq_getElem lt) hI).get fun st1 h1 h=>h.get fun p hp h=>?_
    rw[h1];show Hd ((f st1).bind _) P
    rw[hp]
    obtain⟨fl,st'⟩:=p
    rcases h with⟨e,hI⟩ | ⟨⟨v,e⟩,h⟩
    · cases(e:fl= .next)
      exact f_all I hit hb k m (j+1) fuel st' ((Nat.succ_add_eq_add_succ j m).trans hj) (Nat.lt_of_succ_lt_succ hf) hI
    · cases(e:fl= .ret v)
      exact h
theorem WH (h0:exs (ex G (n+1) C) (B.drop k) st=(whileL (tst G n C (sE B k 0)) (exs (ex G n C) (sB B k)) whileFuel st).bind fun p=>bif p.1.isNext then exs (ex G (n+1) C) (B.drop (k+1)) p.2 else some p) (h:Hd (whileL (tst G n C (sE B k 0)) (exs (ex G n C) (sB B k)) whileFuel st) (Nx G (n+1) C (B.drop (k+1)) P)):Hd (exs (ex G (n+1) C) (B.drop k) st) P:=by
  rw[h0];exact h.get fun p hp h=>by rw[hp];exact h
theorem c_call {f:Str} {F:Fn} {vs:List V} {ks:List (Str×V)} {P:V×Objs→Prop} (st:St) (h0:call G (n+1) f vs ks o=(exs (ex G n ⟨F.scope,F.mv⟩) (F.body.drop 0) st).bind fun p=>p.1.val.map fun v=>(v,p.2.objs)) (h:Hd (exs (ex G n ⟨F.scope,F.mv⟩) (F.body.drop 0) st) fun p=>Hd (p.1.val.map fun v=>(v,p.2.objs)) P):Hd (call G (n+1) f vs ks o) P:=by
  rw[h0];exact h.get fun p hp h=>by rw[hp];exact h
theorem FI {N:List Str} (it:It) (J:Nat→Prop) (m:Nat) (el:Nat→PyData) (L L1:Nat→List (Str×V)) (O:Nat→Objs) (h0:∀st,exs (ex G (n+1) C) (B.drop k) st=((iter G n C (sE B k 0) st).bind fun p=>gd (okTarget p.1 (sE B k 1)) (forL (fun x st=>bind G n C (sE B k 1) (.d x) st) (exs (ex G n C) (sB B k)) p.1 loopFuel 0 p.2)).bind fun p=>bif p.1.isNext then exs (ex G (n+1) C) (B.drop (k+1)) p.2 else some p)
    (hk:okTarget it (sE B k 1)=true) (hit:∀j,nextIt (O j) j it=some ((List.range m).map el)[j]?) (hi:iter G n C (sE B k 0) st=some (it,st)) (hl:decide (m≤maxLen)=true) {σ:Str→Option V} (hs:st=S N (L 0) σ (O 0)) (hJ:J 0) (hb:∀j σ,j<m→bind G n C (sE B k 1) (.d (el j)) (S N (L j) σ (O j))=some (S N (L1 j) σ (O j)))
    (hf:∀j σ,j<m→J j→Hd (exs (ex G n C) ((sB B k).drop 0) (S N (L1 j) σ (O j))) fun p=>(p.1= .next∧J (j+1)∧∃σ',p.2=S N (L (j+1)) σ' (O (j+1)))∨(∃v,p.1= .ret v)∧P p) (h2:∀σ,J m→Hd (exs (ex G (n+1) C) (B.drop (k+1)) (S N (L m) σ (O m))) P):Hd (exs (ex G (n+1) C) (B.drop k) st) P:=by
  rw[h0,hi]
  have e:((List.range m).map el).length=m:=(List.length_map ..).trans List.length_range
  have q:Hd (forL (fun x st=>bind G n C (sE B k 1) (.d x) st) (exs (ex G n C) (sB B k)) it loopFuel 0 st) (Nx G (n+1) C (B.drop (k+1)) P):=f_all (xs:=(List.range m).map el) (fun j st=>J j∧∃σ,st=S N (L j) σ (O j)) (fun j st ⟨_,σ,e⟩=>by rw[e];exact hit j)
    (fun j x st hx hI=>by
      obtain⟨hJ,σ,rfl⟩:=hI
      obtain⟨a,ha,rfl⟩:=Option.map_eq_some_iff.mp (List.getElem?_map.symm.trans hx)
      have lt:j<m:=List.length_range (n:=m) ▸ (List.getElem?_eq_some_iff.mp ha).1
      rw[List.getElem?_range lt]at ha
      cases ha
      exact .of (hb j σ lt) ((hf j σ lt hJ).get fun p hp h=> .of hp (h.imp_right fun⟨⟨v,e⟩,h⟩=>⟨⟨v,e⟩,by obtain⟨f,s⟩:=p;cases(e:f= .ret v);exact h⟩)))
    (fun st ⟨hJ,σ,hI⟩=>by rw[e]at hI hJ;cases hI;exact h2 σ hJ) m 0 loopFuel st ((Nat.zero_add m).trans e.symm) (Nat.lt_succ_of_le (of_decide_eq_true hl)) ⟨hJ,σ,hs⟩
  show Hd ((gd (okTarget it (sE B k 1)) _).bind _) P
  exact q.get fun p hp h=>by rw[gd_t hk,hp];exact h
theorem c_it {α:Type} {it:It} {l:List α} {φ:α→PyData} {c:α→Bool} {ψ:α→PyData} {f:PyData→St→List PyData→Option (List PyData×St)} (I:St→Prop) (hit:∀j st,I st→nextIt st.objs j it=some (l.map φ)[j]?) (hf:∀x st acc,x∈l→I st→acc.length<maxLen→Hd (f (φ x) st acc) fun q=>q.1=acc++(bif c x then[ψ x]else[])∧I q.2):
    ∀(r:List α) (j fuel:Nat) (st:St) (acc:List PyData),l.drop j=r→r.length<fuel→acc.length+r.length≤maxLen→I st→Hd (compL f it fuel j st acc) fun q=>q.1=acc++(r.filter c).map ψ∧I q.2
  |_,_,0,_,_,_,h,_,_=>absurd h (Nat.not_lt_zero _)
  | [],j,fuel+1,st,acc,hr,_,_,hI=>by
    show Hd ((nextIt st.objs j it).bind _) _
    rw[hit j st hI,List.getElem?_map,show l[j]?=none from List.getElem?_drop.symm.trans (congrArg (·[0]?) hr)]
    exact⟨(List.append_nil acc).symm,hI⟩
  | x ::r,j,fuel+1,st,acc,hr,h,ha,hI=>by
    have hx:l[j]?=some x:=List.getElem?_drop.symm.trans (congrArg (·[0]?) hr)
    show Hd ((nextIt st.objs j it).bind _) _
    rw[hit j st hI,List.getElem?_map,hx]
    show Hd ((f (φ x) st acc).bind _) _
    refine(hf x st acc (List.mem_of_getElem? hx) hI (Nat.lt_of_lt_of_le (Nat.lt_add_of_pos_right (Nat.succ_pos _)) ha)).get fun p hp ⟨e,hI⟩=>?_
    rw[hp]
    refine(c_it I hit hf r (j+1) fuel p.2 p.1 (List.drop_drop.symm.trans (congrArg (List.drop 1) hr)) (Nat.lt_of_succ_lt_succ h) ?_ hI).get fun q hq ⟨e2,hI⟩=> .of hq ⟨?_,hI⟩
    · rw[e]
      cases c x<;>simp<;>simp at ha<;>omega
    · rw[e2,e,List.filter_cons]
      cases c x<;>simp
theorem x_fit {α:Type} {N:List Str} {e:Expr} (it:It) (l:List α) (φ:α→PyData) (c:α→Bool) (w:α→V) (ψ:α→PyData) (L:List (Str×V)) (L1:α→List (Str×V)) (σ:Str→Option V)
    (h0 :ev G (n+3) C e st=((iter G (n+2) C (kd e 1) st).bind fun p=>gd (compOk C (gnE e).2 p.2.vars) ((gd (okTarget p.1 (kd e 2)) (compL (fun x st acc=>(bind G (n+1) ⟨(gnE e).2,[]⟩ (kd e 2) (.d x) st).bind fun st=>(evAnd (tst G (n+1) ⟨(gnE e).2,[]⟩) ((kids e).drop 3) st).bind fun p=>bif p.1 then((ev G (n+1) ⟨(gnE e).2,[]⟩ (kd e 0) p.2).bind fun p=>(rd0 p.1).bind fun y=>gd (decide (acc.length<maxLen)) (some (acc++[y],p.2)))else some (acc,p.2)) p.1 loopFuel 0
        ⟨((localNames (gnE e).2).map fun x=>(x,none))++p.2.vars.filter (fun x=>freeIn (gnE e).2 x.1),p.2.objs⟩ [])).bind fun q=>gd (decide (q.1.length≤maxLen)) (some (.fl q.1,⟨p.2.vars,q.2.objs⟩)))))
    (hi:iter G (n+2) C (kd e 1) st=some (it,st)) (hq:okTarget it (kd e 2)=true) (hit:∀j,nextIt st.objs j it=some (l.map φ)[j]?) (hk:compOk C (gnE e).2 st.vars=true) (hl:decide (l.length≤1000)=true) (hs:(⟨((localNames (gnE e).2).map fun x=>(x,none))++st.vars.filter (fun x=>freeIn (gnE e).2 x.1),st.objs⟩:St)=S N L σ st.objs)
    (hb:∀x σ,x∈l→bind G (n+1) ⟨(gnE e).2,[]⟩ (kd e 2) (.d (φ x)) (S N L σ st.objs)=some (S N (L1 x) σ st.objs)) (hw:∀x σ,S N (L1 x) σ st.objs=S N L (ovs (L1 x) σ) st.objs)
    (ht:∀x σ,x∈l→evAnd (tst G (n+1) ⟨(gnE e).2,[]⟩) ((kids e).drop 3) (S N (L1 x) σ st.objs)=some (c x,S N (L1 x) σ st.objs)) (he:∀x σ,x∈l→c x=true→ev G (n+1) ⟨(gnE e).2,[]⟩ (kd e 0) (S N (L1 x) σ st.objs)=some (w x,S N (L1 x) σ st.objs)) (hr:∀x,x∈l→rd0 (w x)=some (ψ x)):
    ev G (n+3) C e st=some (.fl ((l.filter c).map ψ),st):=by
  rw[h0,hi]
  show gd (compOk C (gnE e).2 st.vars) ((gd (okTarget it (kd e 2)) _).bind _)=_
  rw[hk,hq,hs]
  generalize hz:compL _ _ _ _ _ _=z
  have H:Hd z fun q=>q.1=[]++(l.filter c).map ψ∧∃σ,q.2=S N L σ st.objs:=by
    rw[←hz]
    refine c_it (fun st'=>∃σ,st'=S N L σ st.objs) (fun j st' ⟨σ,e⟩=>by rw[e];exact hit j) (fun x s acc hx hI hl=>?_) l 0 loopFuel _ [] rfl (Nat.lt_succ_of_le (Nat.le_trans (of_decide_eq_true hl) (by decide))) (by rw[List.length_nil,Nat.zero_add];exact Nat.le_trans (of_decide_eq_true hl) (by decide)) ⟨σ,rfl⟩
    obtain⟨σ,rfl⟩:=hI
    show Hd ((bind _ _ _ _ _ (S N L σ st.objs)).bind _) _
    rw[hb x σ hx]
    show Hd ((evAnd _ _ (S N (L1 x) σ st.objs)).bind _) _
    rw[ht x σ hx]
    cases q:c x with
    |false=>exact⟨(List.append_nil _).symm,_,hw x σ⟩
    | true=>
      show Hd ((ev _ _ _ _ (S N (L1 x) σ st.objs)).bind _) _
      rw[he x σ hx q];show Hd ((rd0 (w x)).bind _) _
      rw[hr x hx];show Hd (gd (decide (acc.length<maxLen)) _) _
      rw[decide_eq_true hl]
      exact⟨rfl,_,hw x σ⟩
  exact H.get fun q hq ⟨e,σ',h⟩=>by
    rw[gd_t rfl,gd_t rfl,hq]
    show gd (decide (q.1.length≤maxLen)) (some (V.fl q.1,(⟨st.vars,q.2.objs⟩:St)))=_
    rw[e,h]
    exact gd_t (decide_eq_true (Nat.le_trans (Nat.le_of_eq (by rw[List.nil_append,List.length_map])) (Nat.le_trans (List.length_filter_le ..) (Nat.le_trans (of_decide_eq_true hl) (by decide)))))
theorem FO {N:List Str} (J:Nat→Prop) (m:Nat) (el:Nat→PyData) (L L1:Nat→List (Str×V)) (O:Nat→Objs) (h0:∀st,exs (ex G (n+1) C) (B.drop k) st=((iter G n C (sE B k 0) st).bind fun p=>gd (okTarget p.1 (sE B k 1)) (forL (fun x st=>bind G n C (sE B k 1) (.d x) st) (exs (ex G n C) (sB B k)) p.1 loopFuel 0 p.2)).bind fun p=>bif p.1.isNext then exs (ex G (n+1) C) (B.drop (k+1)) p.2 else some p)
    (hi:iter G n C (sE B k 0) st=some (.vals ((List.range m).map el),st)) (hl:decide (m≤maxLen)=true) {σ:Str→Option V} (hs:st=S N (L 0) σ (O 0)) (hJ:J 0) (hb:∀j σ,j<m→bind G n C (sE B k 1) (.d (el j)) (S N (L j) σ (O j))=some (S N (L1 j) σ (O j)))
    (hf:∀j σ,j<m→J j→Hd (exs (ex G n C) ((sB B k).drop 0) (S N (L1 j) σ (O j))) fun p=>(p.1= .next∧J (j+1)∧∃σ',p.2=S N (L (j+1)) σ' (O (j+1)))∨(∃v,p.1= .ret v)∧P p) (h2:∀σ,J m→Hd (exs (ex G (n+1) C) (B.drop (k+1)) (S N (L m) σ (O m))) P):Hd (exs (ex G (n+1) C) (B.drop k) st) P:=
  FI (.vals ((List.range m).map el)) J m el L L1 O h0 rfl (fun _=>rfl) hi hl hs hJ hb hf h2
theorem x_filt {α:Type} {N:List Str} {e:Expr} (l:List α) (φ:α→PyData) (c:α→Bool) (w:α→V) (ψ:α→PyData) (L:List (Str×V)) (L1:α→List (Str×V)) (σ:Str→Option V)
    (h0 :ev G (n+3) C e st=((iter G (n+2) C (kd e 1) st).bind fun p=>gd (compOk C (gnE e).2 p.2.vars) ((gd (okTarget p.1 (kd e 2)) (compL (fun x st acc=>(bind G (n+1) ⟨(gnE e).2,[]⟩ (kd e 2) (.d x) st).bind fun st=>(evAnd (tst G (n+1) ⟨(gnE e).2,[]⟩) ((kids e).drop 3) st).bind fun p=>bif p.1 then((ev G (n+1) ⟨(gnE e).2,[]⟩ (kd e 0) p.2).bind fun p=>(rd0 p.1).bind fun y=>gd (decide (acc.length<maxLen)) (some (acc++[y],p.2)))else some (acc,p.2)) p.1 loopFuel 0
        ⟨((localNames (gnE e).2).map fun x=>(x,none))++p.2.vars.filter (fun x=>freeIn (gnE e).2 x.1),p.2.objs⟩ [])).bind fun q=>gd (decide (q.1.length≤maxLen)) (some (.fl q.1,⟨p.2.vars,q.2.objs⟩)))))
    (hi:iter G (n+2) C (kd e 1) st=some (.vals (l.map φ),st)) (hk:compOk C (gnE e).2 st.vars=true) (hl:decide (l.length≤1000)=true) (hs:(⟨((localNames (gnE e).2).map fun x=>(x,none))++st.vars.filter (fun x=>freeIn (gnE e).2 x.1),st.objs⟩:St)=S N L σ st.objs)
    (hb:∀x σ,x∈l→bind G (n+1) ⟨(gnE e).2,[]⟩ (kd e 2) (.d (φ x)) (S N L σ st.objs)=some (S N (L1 x) σ st.objs)) (hw:∀x σ,S N (L1 x) σ st.objs=S N L (ovs (L1 x) σ) st.objs)
    (ht:∀x σ,x∈l→evAnd (tst G (n+1) ⟨(gnE e).2,[]⟩) ((kids e).drop 3) (S N (L1 x) σ st.objs)=some (c x,S N (L1 x) σ st.objs)) (he:∀x σ,x∈l→c x=true→ev G (n+1) ⟨(gnE e).2,[]⟩ (kd e 0) (S N (L1 x) σ st.objs)=some (w x,S N (L1 x) σ st.objs)) (hr:∀x,x∈l→rd0 (w x)=some (ψ x)):
    ev G (n+3) C e st=some (.fl ((l.filter c).map ψ),st):=
  x_fit (.vals (l.map φ)) l φ c w ψ L L1 σ h0 hi rfl (fun _=>rfl) hk hl hs hb hw ht he hr
end
end Mine
end
section
open PySem PySem.W PyProof.Rows Mine V02
namespace L1
noncomputable def tx (l:List Nat):V:= .d (.str (mkS l))
noncomputable def ii (i:Int):V:= .d (.int i)
noncomputable def z0:Str→Option V:=fun _=>none
noncomputable def Cf (F:Fn):Cx:=⟨F.scope,F.mv⟩
theorem maxL {n:Nat} (h:n≤1000):decide (n≤maxLen)=true:=decide_eq_true (Nat.le_trans h (by decide))
theorem clamp_nat {k n:Nat}:clampI (k:Int) n=min k n:=by
  unfold clampI
  rw[if_neg (Int.not_lt.mpr (Int.natCast_nonneg k))]
  rcases Nat.le_total k n with h |h
  · rw[Int.min_eq_left (Int.ofNat_le.mpr h),Int.max_eq_right (Int.natCast_nonneg k),Nat.min_eq_left h];rfl
  · rw[Int.min_eq_right (Int.ofNat_le.mpr h),Int.max_eq_right (Int.natCast_nonneg n),Nat.min_eq_right h];rfl
theorem clamp_neg {k n:Nat}:clampI (.negSucc k) n=n - (k+1):=by
  unfold clampI
  rw[if_pos (Int.negSucc_lt_zero k)]
  rcases Nat.le_total (k+1) n with h |h
  · obtain⟨d,rfl⟩:=Nat.exists_eq_add_of_le h
    have e:Int.negSucc k+((k+1+d:Nat):Int)=d:=by omega
    rw[e,Int.min_eq_left (Int.ofNat_le.mpr (Nat.le_add_left d _)),Int.max_eq_right (Int.natCast_nonneg d),Nat.add_sub_cancel_left];rfl
  · have e:Int.negSucc k+(n:Int)≤0:=by omega
    rw[Nat.sub_eq_zero_of_le h,Int.max_eq_left (Int.le_trans (Int.min_le_left ..) e)];rfl
section
variable {o:Objs} {l:List Nat} {k:Nat}
theorem drop_min:l.drop (min k l.length)=l.drop k:=by
  rcases Nat.le_total k l.length with h |h
  · rw[Nat.min_eq_left h]
  · rw[Nat.min_eq_right h,List.drop_of_length_le h,List.drop_length]
theorem sl_from (hl:l.length≤1000):sliceV o (tx l) (some (ii k)) none none=some (tx (l.drop k)):=by
  show gd (decide (l.length≤maxLen)) (some (tx ((l.drop (clampI k l.length)).take (l.length - clampI k l.length))))=_
  rw[maxL hl,clamp_nat,drop_min,List.take_of_length_le (by rw[←drop_min,List.length_drop];exact Nat.le_refl _)];rfl
noncomputable def orN:Nat→V
  |0=> .d .none
  |k+1=>ii (.negSucc k)
theorem sl_to (hl:l.length≤1000):sliceV o (tx l) none (some (orN k)) none=some (tx (l.take (l.length - k))):=by
  cases k with
  |zero=>exact gd_t (maxL hl)
  | succ k=>
    show gd (decide (l.length≤maxLen)) (some (tx (l.take (clampI (.negSucc k) l.length - 0))))=_
    rw[maxL hl,clamp_neg];rfl
theorem tr_tx (hl:l.length≤1000):truthV o (tx l)=some (l.length !=0):=gd_t (maxL hl)
theorem sub_ne {n:Nat} {α:Type} {r:Option α} (h1:r=none→n≤k) (h2:∀x,r=some x→k<n):some (n - k !=0)=some r.isSome:=by
  cases r with
  |none=>rw[Nat.sub_eq_zero_of_le (h1 rfl)];rfl
  |some x=>exact congrArg some (bne_iff_ne.mpr (Nat.sub_ne_zero_of_lt (h2 x rfl)))
theorem tr_drop (hl:l.length≤1000):truthV o (tx (l.drop k))=some (l[k]?).isSome:=by
  rw[tr_tx (Nat.le_trans (List.length_drop ▸ Nat.sub_le ..) hl),List.length_drop]
  exact sub_ne List.getElem?_eq_none_iff.mp fun x h=>(List.getElem?_eq_some_iff.mp h).1
theorem tr_take (hl:l.length≤1000):truthV o (tx (l.take (l.length - k)))=some (l.reverse[k]?).isSome:=by
  rw[tr_tx (Nat.le_trans (List.length_take_le' ..) hl),List.length_take,Nat.min_eq_left (Nat.sub_le ..)]
  exact sub_ne (fun h=>List.length_reverse (as:=l) ▸ List.getElem?_eq_none_iff.mp h) fun x h=>List.length_reverse (as:=l) ▸ (List.getElem?_eq_some_iff.mp h).1
theorem idx_nat {n:Nat} (h:k<n) (hn:n≤1000):idx? (k:Int) n=some k:=by
  show gd (decide (n≤maxLen)) (bif decide (0≤(k:Int))then gd (decide ((k:Int)<n)) (some k)else _)=_
  rw[maxL hn,decide_eq_true (Int.natCast_nonneg k)]
  exact gd_t (decide_eq_true (Int.ofNat_lt.mpr h))
theorem idx_neg {n:Nat} (h:k<n) (hn:n≤1000):idx? (.negSucc k) n=some (n - 1 - k):=by
  show gd (decide (n≤maxLen)) (gd (decide (-(n:Int)≤ .negSucc k)) (some (Int.negSucc k+n).toNat))=_
  rw[maxL hn,show(Int.negSucc k+(n:Int)).toNat=n - 1 - k by omega]
  exact gd_t (decide_eq_true (by omega))
theorem it_tx {c:Nat} (h:l[k]?=some c) (hl:l.length≤1000):itemV o (tx l) (k:Int)=some (tx [c]):=by
  show(idx? (k:Int) l.length).bind _=_
  rw[idx_nat (List.getElem?_eq_some_iff.mp h).1 hl];show(l[k]?).map _=_
  rw[h];rfl
theorem it_txn {c:Nat} (h:l.reverse[k]?=some c) (hl:l.length≤1000):itemV o (tx l) (.negSucc k)=some (tx [c]):=by
  have lt:k<l.length:=List.length_reverse (as:=l) ▸ (List.getElem?_eq_some_iff.mp h).1
  rw[List.getElem?_reverse lt]at h
  show(idx? (.negSucc k) l.length).bind _=_
  rw[idx_neg lt hl];show(l[l.length - 1 - k]?).map _=_
  rw[h];rfl
theorem it_hl {i:Nat} {xs:List PyData} {x:PyData} (hl:listAt o i=some xs) (h:xs[k]?=some x) (hn:xs.length≤1000):itemV o (.hl i) (k:Int)=some (.d x):=by
  show(((listAt o i).map PyData.list).bind lst?).bind _=_
  rw[hl];show(idx? (k:Int) xs.length).bind _=_
  rw[idx_nat (List.getElem?_eq_some_iff.mp h).1 hn];show(xs[k]?).map _=_
  rw[h];rfl
theorem len_tx (hl:l.length≤1000):callB o .len [tx l]=some (ii l.length):=gd_t (maxL hl)
theorem len_fl {xs:List PyData} (hl:xs.length≤1000):callB o .len [.d (.list xs)]=some (ii xs.length):=gd_t (maxL hl)
end
theorem rangeSize_mul {lo st:Int} {k:Nat} (hst:1≤st):Builtin.Range.rangeSize lo (lo+k * st) st=k:=by
  unfold Builtin.Range.rangeSize
  rw[if_pos (by omega)]
  cases k with
  |zero=>rw[if_neg (by simp)];rfl
  | succ k=>
    have h:0<((k+1:Nat):Int) * st:=Int.mul_pos (by omega) (by omega)
    have e:lo+((k+1:Nat):Int) * st - lo - 1=(st - 1)+st * k:=by rw[Int.natCast_succ,Int.add_mul,Int.mul_comm st];omega
    rw[if_pos (by omega),e,Int.add_mul_ediv_left _ _ (by omega),Int.ediv_eq_zero_of_lt (by omega) (by omega)]
    omega
theorem range_gen {lo st:Int} {k:Nat} (hk:k≤1000) (h1:1≤st) (h2:st≤1000) (hlo: -1000000≤lo∧lo≤1000000):rangeL lo (lo+k * st) st=some ((List.range k).map fun(i:Nat)=>PyData.int (lo+i * st)):=by
  have b0:0≤(k:Int) * st:=Int.mul_nonneg (by omega) (by omega)
  have b1:(k:Int) * st≤1000 * 1000:=Int.mul_le_mul (by omega) h2 (by omega) (by omega)
  have b2:st * ((k:Int)+1)≤1000 * 1001:=Int.mul_le_mul h2 (by omega) (by omega) (by omega)
  have hs:Builtin.Range.small lo (lo+k * st) st=true:=by
    unfold Builtin.Range.small Builtin.Range.rangeFitsLong
    rw[rangeSize_mul h1]
    simp
    refine⟨⟨⟨⟨by omega,by omega⟩,by omega⟩,by omega⟩,.inr ?_⟩
    rw[if_pos (by omega)]
    omega
  unfold rangeL
  rw[decide_eq_true (show st≠0 by omega),hs,rangeSize_mul h1,decide_eq_true (show((k:Int))≤maxLen by show(k:Int)≤((1000000:Nat):Int);omega)]
  rfl
theorem range_vals {k:Nat} (hk:k≤1000):rangeL 0 k 1=some ((List.range k).map fun(i:Nat)=>PyData.int i):=by
  have:=range_gen (lo:=0) (st:=1) hk (by decide) (by decide) ⟨by decide,by decide⟩
  simpa using this
theorem mulV {o:Objs} {x y:Int} (h:(i64 x||i64 y)=true):binop o .Mult (ii x) (ii y)=some (ii (x * y)):=by
  show(gd (i64 x||i64 y) (some (x * y))).map _=_
  rw[gd_t h];rfl
noncomputable def low1 (c:Nat):List Nat:=strL (Txt.lower (mkS [c]))
noncomputable def costN (x y:Nat):Int:=bif [x]==[y]then 0 else bif low1 x==low1 y then 1 else 2
noncomputable def Ls (x y:Nat):List (Str×V):=[("ch_a",tx [x]),("ch_b",tx [y])]
noncomputable def Ns:List Str:=["ch_a","ch_b"]
theorem sc (n x y:Nat) (o:Objs):call G (n+12) "_substitution_cost" [tx [x],tx [y]] [] o=some (ii (costN x y),o):=by
  refine Hd.get (c_call (F:=F_substitution_cost) (P:=(·=(ii (costN x y),o))) (S Ns (Ls x y) z0 o) ⋯ (IR ([x]==[y]) ⋯ ⋯ (fun h=> .of (a:=(.ret (ii 0),S Ns (Ls x y) z0 o)) ⋯ ?_) fun h=>IR (low1 x==low1 y) ⋯ ⋯ (fun h2=> .of (a:=(.ret (ii 1),S Ns (Ls x y) z0 o)) ⋯ ?_) fun h2=> .of (a:=(.ret (ii 2),S Ns (Ls x y) z0 o)) ⋯ ?_)) fun _ e q=>e.trans (congrArg some q)
  · exact congrArg (fun z=>(ii z,o)) (show 0=costN x y by unfold costN;rw[h];rfl)
  · exact congrArg (fun z=>(ii z,o)) (show 1=costN x y by unfold costN;rw[h,h2];rfl)
  · exact congrArg (fun z=>(ii z,o)) (show 2=costN x y by unfold costN;rw[h,h2];rfl)
end L1
end
section
open PySem PySem.W Mine V02
namespace L1
section
variable {α β:Type}
noncomputable def eqA (e:α→β→Bool) (a:List α) (b:List β) (k:Nat):Bool:=(a[k]?).elim false fun x=>(b[k]?).elim false fun y=>e x y
noncomputable def preP (e:α→β→Bool) (a:List α) (b:List β):Nat:=fstF (eqA e a b) a.length 0
structure IS where
  row:List Int
  dist:Int
  res:Int
  mn:Int
noncomputable def minI (a b:Int):Int:=bif decide (b<a)then b else a
noncomputable def stepR (cs:List Int) (j:Nat) (s:IS):Int:=minI (minI s.res (s.row.getD j 0)+2) (s.dist+cs.getD j 0)
noncomputable def stepI (cs:List Int) (j:Nat) (s:IS):IS:=⟨s.row.set j (stepR cs j s),s.row.getD j 0,stepR cs j s,bif decide (stepR cs j s<s.mn)then stepR cs j s else s.mn⟩
noncomputable def innerI (cs:List Int) (s:IS) (j:Nat):IS:=Nat.rec s (fun j s=>stepI cs j s) j
noncomputable def big:Int:=9223372036854775807
noncomputable def rowI (cs:List Int) (i:Nat) (row:List Int):IS:=innerI cs ⟨row,i * 2,i * 2,big⟩ cs.length
noncomputable def outerI (m:Int):List (List Int)→Nat→List Int→Int→Int
  |[],_,_,res=>res
  |cs::rest,i,row,res=>bif decide (m<(rowI cs i row).mn)then m+1 else outerI m rest (i+1) (rowI cs i row).row (rowI cs i row).res
noncomputable def tailP (c:β→α→Int) (a:List α) (b:List β) (m:Int):Int:=
  bif decide (m<((b.length:Int) - a.length) * 2)then m+1 else outerI m (b.map fun y=>a.map (c y)) 0 ((List.range a.length).map fun(i:Nat)=>2+(i:Int) * 2) 0
noncomputable def coreP (c:β→α→Int) (c':α→β→Int) (a:List α) (b:List β) (m:Int):Int:=
  bif !(a.length !=0)|| !(b.length !=0)then 2 * ((a.length:Int)+b.length)
  else bif decide ((40:Int)<a.length)||decide ((40:Int)<b.length)then m+1
  else bif decide ((b.length:Int)<a.length)then tailP c' b a m else tailP c a b m
noncomputable def levP (e:α→β→Bool) (c:β→α→Int) (c':α→β→Int) (a:List α) (b:List β) (m:Int):Int:=
  coreP c c' ((a.drop (preP e a b)).take ((a.drop (preP e a b)).length - preP e (a.drop (preP e a b)).reverse (b.drop (preP e a b)).reverse))
    ((b.drop (preP e a b)).take ((b.drop (preP e a b)).length - preP e (a.drop (preP e a b)).reverse (b.drop (preP e a b)).reverse)) m
end
noncomputable def BL:List Stmt:=F_levenshtein_distance.body
noncomputable def CL:Cx:=Cf F_levenshtein_distance
noncomputable def NL:List Str:=["a","b","max_cost","pre","post","row","result","bindex","bchar","distance","minimum","index","substitute","insert_delete"]
noncomputable def Lp (a b:List Nat) (m k:Int):List (Str×V):=[("a",tx a),("b",tx b),("max_cost",ii m),("pre",ii k)]
noncomputable def beqN (x y:Nat):Bool:=[x]==[y]
noncomputable def pN:Nat→Int
  |0=>0
  |k+1=> .negSucc k
noncomputable def Lq (a b:List Nat) (m p q:Int):List (Str×V):=[("a",tx a),("b",tx b),("max_cost",ii m),("pre",ii p),("post",ii q)]
noncomputable def cellI (l:List Int):Cell:= .list (l.map .int)
noncomputable def Li (o:Objs) (a b:List Nat) (m p q:Int) (y:Nat) (i:Int) (s:IS):List (Str×V):=("distance",ii s.dist)::("result",ii s.res)::("minimum",ii s.mn)::("bchar",tx [y])::("bindex",ii i)::("row",.hl o.length)::Lq a b m p q
noncomputable def BO:List Stmt:=sB BL 15
noncomputable def BI:List Stmt:=sB BO 3
noncomputable def Lb (o:Objs) (a b:List Nat) (m p q:Int) (y:Nat) (i:Int) (s:IS) (cs:List Int) (k:Nat):List (Str×V):=("insert_delete",ii (minI s.res (s.row.getD k 0)+2))::("substitute",ii (s.dist+cs.getD k 0))::("index",ii k)::Li o a b m p q y i ⟨s.row,s.row.getD k 0,stepR cs k s,s.mn⟩
noncomputable def PI (o:Objs) (a b:List Nat) (m p q:Int) (y:Nat) (i:Int) (P:Fl×St→Prop) (s:IS):Prop:=∀σ,P (.next,S NL (Li o a b m p q y i s) σ (o++[cellI s.row]))
theorem at_end {o:Objs} {xs:List PyData}:listAt (o++[.list xs]) o.length=some xs:=by unfold listAt;rw[List.getElem?_append_right (Nat.le_refl _),Nat.sub_self];rfl
theorem set_end {o:Objs} {c d:Cell}:(o++[c]).set o.length d=o++[d]:=by rw[List.set_append_right _ _ (Nat.le_refl _),Nat.sub_self];rfl
theorem inner_len (cs:List Int) (s:IS):∀j,(innerI cs s j).row.length=s.row.length
  |0=>rfl
  |j+1=>List.length_set.trans (inner_len cs s j)
section
variable {n:Nat} {a b:List Nat} {m p q:Int} {o:Objs} {σ:Str→Option V} {k:Nat}
theorem lev2 (ha:a.length≤1000) (hb:b.length≤1000):tst G (n+20) CL (sE BL 2 0) (S NL (Lp a b m k) σ o)=some (eqA beqN a b k,S NL (Lp a b m k) σ o):=by
  refine(show _=evAnd (tst G (n+19) CL) [kd (sE BL 2 0) 0,kd (sE BL 2 0) 1,kd (sE BL 2 0) 2] (S NL (Lp a b m k) σ o)from ⋯).trans ?_
  have t1:tst G (n+19) CL (kd (sE BL 2 0) 0) (S NL (Lp a b m k) σ o)=some ((a[k]?).isSome,S NL (Lp a b m k) σ o):=t_val ⋯ (x_slice (lo:=some (.Name "pre" default)) (hi:=none) (sp:=none) ⋯ ⋯ (part_s (v:=ii k) ⋯) ⋯ ⋯ (sl_from ha)) (tr_drop ha)
  have t2:tst G (n+19) CL (kd (sE BL 2 0) 1) (S NL (Lp a b m k) σ o)=some ((b[k]?).isSome,S NL (Lp a b m k) σ o):=t_val ⋯ (x_slice (lo:=some (.Name "pre" default)) (hi:=none) (sp:=none) ⋯ ⋯ (part_s (v:=ii k) ⋯) ⋯ ⋯ (sl_from hb)) (tr_drop hb)
  unfold eqA
  cases h1:a[k]? with
  |none=>rw[h1]at t1;exact a_c (d:=false) t1 nofun
  | some x=>
    rw[h1]at t1
    cases h2:b[k]? with
    |none=>rw[h2]at t2;exact a_c (c:=true) (d:=false) t1 fun _=>a_c (d:=false) t2 nofun
    |some y=>rw[h2]at t2;exact a_c (c:=true) (d:=beqN x y) t1 fun _=>a_c (c:=true) (d:=beqN x y) t2 fun _=>a_1 (t_cmp .Eq ⋯ (x_item ⋯ ⋯ ⋯ (it_tx h1 ha)) (x_item ⋯ ⋯ ⋯ (it_tx h2 hb)) ⋯)
theorem po {e:Expr} (h:∀σ,ev G (n+17) CL e (S NL (Lq a b m p 0) σ o)=some (.d .none,S NL (Lq a b m p 0) σ o)) (h':∀k σ,ev G (n+17) CL e (S NL (Lq a b m p (.negSucc k)) σ o)=some (ii (.negSucc k),S NL (Lq a b m p (.negSucc k)) σ o)):ev G (n+17) CL e (S NL (Lq a b m p (pN k)) σ o)=some (orN k,S NL (Lq a b m p (pN k)) σ o):=by
  cases k with
  |zero=>exact h σ
  |succ k=>exact h' k σ
theorem pm:pN k - 1= .negSucc k:=by cases k<;>rfl
theorem lev6 (ha:a.length≤1000) (hb:b.length≤1000):tst G (n+20) CL (sE BL 6 0) (S NL (Lq a b m p (pN k)) σ o)=some (eqA beqN a.reverse b.reverse k,S NL (Lq a b m p (pN k)) σ o):=by
  refine(show _=evAnd (tst G (n+19) CL) [kd (sE BL 6 0) 0,kd (sE BL 6 0) 1,kd (sE BL 6 0) 2] (S NL (Lq a b m p (pN k)) σ o)from ⋯).trans ?_
  have t1:tst G (n+19) CL (kd (sE BL 6 0) 0) (S NL (Lq a b m p (pN k)) σ o)=some ((a.reverse[k]?).isSome,S NL (Lq a b m p (pN k)) σ o):=t_val ⋯ (x_slice (lo:=none) (hi:=some (kd (kd (kd (sE BL 6 0) 0) 1) 0)) (sp:=none) ⋯ ⋯ ⋯ (part_s (po (fun _=>⋯) fun _ _=>⋯)) ⋯ (sl_to ha)) (tr_take ha)
  have t2:tst G (n+19) CL (kd (sE BL 6 0) 1) (S NL (Lq a b m p (pN k)) σ o)=some ((b.reverse[k]?).isSome,S NL (Lq a b m p (pN k)) σ o):=t_val ⋯ (x_slice (lo:=none) (hi:=some (kd (kd (kd (sE BL 6 0) 1) 1) 0)) (sp:=none) ⋯ ⋯ ⋯ (part_s (po (fun _=>⋯) fun _ _=>⋯)) ⋯ (sl_to hb)) (tr_take hb)
  unfold eqA
  cases h1:a.reverse[k]? with
  |none=>rw[h1]at t1;exact a_c (d:=false) t1 nofun
  | some x=>
    rw[h1]at t1
    cases h2:b.reverse[k]? with
    |none=>rw[h2]at t2;exact a_c (c:=true) (d:=false) t1 fun _=>a_c (d:=false) t2 nofun
    |some y=>rw[h2]at t2;exact a_c (c:=true) (d:=beqN x y) t1 fun _=>a_c (c:=true) (d:=beqN x y) t2 fun _=>a_1 (t_cmp .Eq ⋯ (x_item (j:=pN k - 1) ⋯ ⋯ ⋯ (pm ▸ it_txn h1 ha)) (x_item (j:=pN k - 1) ⋯ ⋯ ⋯ (pm ▸ it_txn h2 hb)) ⋯)
theorem inner_step {cs:List Int} {s:IS} {y x:Nat} {i:Int} {P:Fl×St→Prop} (hx:a[k]?=some x) (hc:cs.getD k 0=costN y x) (ha:a.length≤1000) (hr:s.row.length=a.length) (h:PI o a b m p q y i P (stepI cs k s)):
    Hd (exs (ex G (n+20) CL) (BI.drop 0) (S NL (("index",ii k)::Li o a b m p q y i s) σ (o++[cellI s.row]))) P:=by
  have lt:=(List.getElem?_eq_some_iff.mp hx).1
  have hl:(s.row.map PyData.int).length=a.length:=(List.length_map ..).trans hr
  have hi:(s.row.map PyData.int)[k]?=some (.int (s.row.getD k 0)):=by rw[List.getElem?_map,List.getD_eq_getElem?_getD,List.getElem?_eq_getElem (hr ▸ lt)];rfl
  have hs {o}:call G (n+17) "_substitution_cost" [tx [y],tx [x]] [] o=some (ii (cs.getD k 0),o):=by rw[hc];exact sc _ y x o
  have e {c:Bool} (h:decide (stepR cs k s<s.mn)=c):stepI cs k s=⟨s.row.set k (stepR cs k s),s.row.getD k 0,stepR cs k s,bif c then stepR cs k s else s.mn⟩:=congrArg (fun c=>IS.mk (s.row.set k (stepR cs k s)) (s.row.getD k 0) (stepR cs k s) (bif c then stepR cs k s else s.mn)) h
  refine A (ii (s.dist+cs.getD k 0)) (S NL (("substitute",ii (s.dist+cs.getD k 0))::("index",ii k)::Li o a b m p q y i s) σ (o++[cellI s.row])) ⋯ (x_bin (a:=ii s.dist) ⋯ ⋯ (x_fn "_substitution_cost" ⋯ (evs_c ⋯ (evs1 (x_item ⋯ ⋯ ⋯ (it_tx hx ha)))) hs) ⋯) ⋯
    (A (ii (s.row.getD k 0)) (S NL (("distance",ii (s.row.getD k 0))::("substitute",ii (s.dist+cs.getD k 0))::("index",ii k)::Li o a b m p q y i s) σ (o++[cellI s.row])) ⋯ (x_item (w:= .hl o.length) ⋯ ⋯ ⋯ (it_hl at_end hi (hl ▸ ha))) ⋯
    (Ks 2 (S NL (Lb o a b m p q y i s cs k) σ (o++[cellI s.row])) ⋯
    (AT (st2:=S NL (Lb o a b m p q y i s cs k) σ (o++[cellI (s.row.set k (stepR cs k s))])) (ii (stepR cs k s)) ⋯ ⋯ ((b_sub (st:=S NL (Lb o a b m p q y i s cs k) σ (o++[cellI s.row])) (i:=o.length) (x:= .int (stepR cs k s)) ⋯ ⋯ ⋯ ⋯ ⋯ at_end (idx_nat (hl ▸ lt) (hl ▸ ha))).trans (congrArg (fun o'=>some (S NL (Lb o a b m p q y i s cs k) σ o')) (set_end.trans (congrArg (fun l=>o++[Cell.list l]) List.map_set.symm))))
    (I (decide (stepR cs k s<s.mn)) ⋯ ⋯ (fun h'=>Nx.y (st:=S NL (Li o a b m p q y i ⟨s.row.set k (stepR cs k s),s.row.getD k 0,stepR cs k s,stepR cs k s⟩) (ovs (Lb o a b m p q y i s cs k) σ) (o++[cellI (s.row.set k (stepR cs k s))])) ⋯ ⋯ ((show PI o a b m p q y i P ⟨_,_,_,_⟩from e h' ▸ h) _))
      fun h'=>Nx.y (st:=S NL (Li o a b m p q y i ⟨s.row.set k (stepR cs k s),s.row.getD k 0,stepR cs k s,s.mn⟩) (ovs (Lb o a b m p q y i s cs k) σ) (o++[cellI (s.row.set k (stepR cs k s))])) ⋯ ⋯ ((show PI o a b m p q y i P ⟨_,_,_,_⟩from e h' ▸ h) _)))))
end
end L1
end
section
open PySem PySem.W Mine V02
namespace L1
noncomputable def elI (j:Nat):PyData:= .int j
theorem it_rng {o:Objs} {m:Nat} (hm:m≤1000):itIn o (.rng 0 m 1)=some (.vals ((List.range m).map elI)):=(show itIn o (.rng 0 m 1)=(rangeL 0 m 1).map It.vals from ⋯).trans ((congrArg (Option.map It.vals) (range_vals hm)).trans ⋯)
theorem b_list {o:Objs} {lo hi s:Int} {xs:List PyData} (h:rangeL lo hi s=some xs):callB o .list [.rng lo hi s]=some (.fl xs):=(show callB o .list [.rng lo hi s]=(rangeL lo hi s).map V.fl from ⋯).trans (congrArg (Option.map V.fl) h)
noncomputable def row0 (k:Nat):List Int:=(List.range k).map fun(i:Nat)=>2+(i:Int) * 2
noncomputable def oS (cs:List (List Int)) (k:Nat) (j:Nat):List Int×Int:=Nat.rec (row0 k,0) (fun j s=>((rowI (cs.getD j []) j s.1).row,(rowI (cs.getD j []) j s.1).res)) j
noncomputable def csO (a b:List Nat):List (List Int):=b.map fun y=>a.map (costN y)
noncomputable def Lo (o:Objs) (a b:List Nat) (m p q:Int) (j:Nat):List (Str×V):=("result",ii (oS (csO a b) a.length j).2)::("row",.hl o.length)::Lq a b m p q
section
variable {n:Nat} {a b:List Nat} {m p q:Int} {o:Objs} {σ:Str→Option V} {k:Nat}
theorem oS_len {cs:List (List Int)} {k:Nat}:∀j,(oS cs k j).1.length=k
  |0=>(List.length_map ..).trans List.length_range
  |j+1=>(inner_len _ _ _).trans (oS_len j)
noncomputable def Pf (v:Int) (o:Objs) (r:Fl×St):Prop:=r.1= .ret (ii v)∧∃j,r.2.objs=o++j
theorem outer_step {P:Fl×St→Prop} {y:Nat} {s:List Int×Int} (hy:b[k]?=some y) (ha:a.length≤1000) (hb:b.length≤1000) (hs:oS (csO a b) a.length k=s) (h1:decide (m<(rowI (a.map (costN y)) k s.1).mn)=true→∀σ,P (.ret (ii (m+1)),S NL (Li o a b m p q y k (rowI (a.map (costN y)) k s.1)) σ (o++[cellI (rowI (a.map (costN y)) k s.1).row])))
    (h2:decide (m<(rowI (a.map (costN y)) k s.1).mn)=false→∀σ,P (.next,S NL (Li o a b m p q y k (rowI (a.map (costN y)) k s.1)) σ (o++[cellI (rowI (a.map (costN y)) k s.1).row]))):
    Hd (exs (ex G (n+30) CL) (BO.drop 0) (S NL (("bindex",ii k)::Lo o a b m p q k) σ (o++[cellI s.1]))) P:=by
  have hr:s.1.length=a.length:=hs ▸ oS_len k
  have er:rowI (a.map (costN y)) k s.1=innerI (a.map (costN y)) ⟨s.1,k * 2,k * 2,big⟩ a.length:=congrArg (innerI _ _) (List.length_map ..)
  rw[er]at h1 h2
  refine A (tx [y]) (S NL (("bchar",tx [y])::("bindex",ii k)::Lo o a b m p q k) σ (o++[cellI s.1])) ⋯ (x_item ⋯ ⋯ ⋯ (it_tx hy hb)) ⋯
    (AD (k * 2) ⋯ (x_bin ⋯ ⋯ ⋯ (mulV (Bool.or_true _))) (st2:=S NL (("distance",ii (k * 2))::("result",ii (k * 2))::("bchar",tx [y])::("bindex",ii k)::Lo o a b m p q k) σ (o++[cellI s.1])) ⋯ (Ks 1 (S NL (Li o a b m p q y k ⟨s.1,k * 2,k * 2,big⟩) σ (o++[cellI s.1])) ⋯
    (FO (fun _=>True) a.length elI (fun j=>Li o a b m p q y k (innerI (a.map (costN y)) ⟨s.1,k * 2,k * 2,big⟩ j)) (fun j=>("index",ii j)::Li o a b m p q y k (innerI (a.map (costN y)) ⟨s.1,k * 2,k * 2,big⟩ j)) (fun j=>o++[cellI (innerI (a.map (costN y)) ⟨s.1,k * 2,k * 2,big⟩ j).row])
      (fun _=>⋯) (i_val ⋯ (x_bui .range ⋯ (evs1 (x_bui .len ⋯ (evs1 ⋯) (len_tx ha))) ⋯) (it_rng ha)) (maxL ha) (σ:=σ) ⋯ trivial (fun _ _ _=>⋯)
      (fun j σ lt _=>inner_step (x:=a[j]) (List.getElem?_eq_getElem lt) (by rw[List.getD_eq_getElem?_getD,List.getElem?_map,List.getElem?_eq_getElem lt];rfl) ha ((inner_len _ _ _).trans hr) fun _=> .inl ⟨rfl,trivial,_,rfl⟩)
      fun σ _=>IR (decide (m<(innerI (a.map (costN y)) ⟨s.1,k * 2,k * 2,big⟩ a.length).mn)) ⋯ ⋯ (fun h=> .of (a:=(.ret (ii (m+1)),S NL (Li o a b m p q y k (innerI (a.map (costN y)) ⟨s.1,k * 2,k * 2,big⟩ a.length)) σ (o++[cellI (innerI (a.map (costN y)) ⟨s.1,k * 2,k * 2,big⟩ a.length).row]))) ⋯ (Nx.r (h1 h σ))) fun h=>h2 h σ)))
theorem outer_all (ha:a.length≤1000) (hb:b.length≤1000):Hd (exs (ex G (n+33) CL) (BL.drop 12) (S NL (Lq a b m p q) σ o)) (Pf (tailP costN a b m) o):=by
  unfold tailP
  refine IR (decide (m<((b.length:Int) - a.length) * 2)) ⋯ (t_cmp (b:=ii m) .Gt ⋯ (x_bin (b:=ii 2) ⋯ (x_bin (v:=ii ((b.length:Int) - a.length)) ⋯ (x_bui .len ⋯ (evs1 ⋯) (len_tx hb)) (x_bui .len ⋯ (evs1 ⋯) (len_tx ha)) ⋯) ⋯ (mulV (Bool.or_true _))) ⋯ ⋯) (fun h=> .of (a:=(.ret (ii (m+1)),S NL (Lq a b m p q) σ o)) ⋯ (Nx.r ?_)) fun h=>?_
  · rw[h];exact⟨rfl,[],(List.append_nil o).symm⟩
  rw[h]
  have hr:rangeL 2 (2 * ((a.length:Int)+1)) 2=some ((row0 a.length).map PyData.int):=by
    rw[show(2:Int) * ((a.length:Int)+1)=2+a.length * 2 by omega,range_gen ha (by decide) (by decide) ⟨by decide,by decide⟩]
    exact congrArg some List.map_map.symm
  refine A (.fl ((row0 a.length).map PyData.int)) (S NL (("row",.hl o.length)::Lq a b m p q) σ (o++[cellI (row0 a.length)])) ⋯
    (x_bui .list ⋯ (evs1 (x_bui .range (vs:=[ii 2,ii (2 * ((a.length:Int)+1)),ii 2]) ⋯ (evs_c ⋯ (evs_c (x_bin (a:=ii 2) ⋯ ⋯ (x_bin (b:=ii 1) (v:=ii ((a.length:Int)+1)) ⋯ (x_bui .len ⋯ (evs1 ⋯) (len_tx ha)) ⋯ ⋯) (mulV ⋯)) (evs1 ⋯))) (v:= .rng 2 (2 * ((a.length:Int)+1)) 2) ⋯)) (b_list hr)) ⋯
    (Ks 1 (S NL (Lo o a b m p q 0) σ (o++[cellI (row0 a.length)])) ⋯
    (FO (N:=NL) (fun j=>outerI m (csO a b) 0 (row0 a.length) 0=outerI m ((csO a b).drop j) j (oS (csO a b) a.length j).1 (oS (csO a b) a.length j).2) b.length elI (Lo o a b m p q) (fun j=>("bindex",ii j)::Lo o a b m p q j) (fun j=>o++[cellI (oS (csO a b) a.length j).1])
      (fun _=>⋯) (i_val ⋯ (x_bui .range ⋯ (evs1 (x_bui .len ⋯ (evs1 ⋯) (len_tx hb))) ⋯) (it_rng hb)) (maxL hb) (σ:=σ) ⋯ rfl (fun _ _ _=>⋯)
      (fun j σ lt hJ=>?_)
      fun σ hJ=> .of (a:=(.ret (ii (oS (csO a b) a.length b.length).2),S NL (Lo o a b m p q b.length) σ (o++[cellI (oS (csO a b) a.length b.length).1]))) ⋯ ⟨congrArg (fun z=>Fl.ret (ii z)) (hJ.trans ?_).symm,_,rfl⟩))
  · have lc:(csO a b).length=b.length:=List.length_map ..
    have hd:(csO a b).drop j=a.map (costN b[j])::(csO a b).drop (j+1):=(List.drop_eq_getElem_cons (lc ▸ lt)).trans (congrArg (·::_) (List.getElem_map ..))
    have hg:(csO a b).getD j []=a.map (costN b[j]):=by rw[List.getD_eq_getElem?_getD,List.getElem?_eq_getElem (lc ▸ lt)];exact List.getElem_map ..
    rw[hd]at hJ
    have e:oS (csO a b) a.length (j+1)=((rowI (a.map (costN b[j])) j (oS (csO a b) a.length j).1).row,(rowI (a.map (costN b[j])) j (oS (csO a b) a.length j).1).res):=congrArg (fun c=>((rowI c j (oS (csO a b) a.length j).1).row,(rowI c j (oS (csO a b) a.length j).1).res)) hg
    refine outer_step (List.getElem?_eq_getElem lt) ha hb rfl (fun h _=> .inr ⟨⟨_,rfl⟩,congrArg (fun z=>Fl.ret (ii z)) (hJ.trans (congrArg (fun c=>bif c then _ else _) h)).symm,_,rfl⟩) fun h σ=> .inl ⟨rfl,(hJ.trans (congrArg (fun c=>bif c then _ else _) h)).trans (by rw[e];rfl),ovs (Li o a b m p q b[j] j (rowI (a.map (costN b[j])) j (oS (csO a b) a.length j).1)) σ,?_⟩
    show _=S NL (("result",ii (oS (csO a b) a.length (j+1)).2)::("row",.hl o.length)::Lq a b m p q) _ (o++[cellI (oS (csO a b) a.length (j+1)).1])
    rw[e];rfl'
  · rw[List.drop_of_length_le (show(csO a b).length≤b.length from Nat.le_of_eq (List.length_map ..))];rfl
end
end L1
end
section
open PySem PySem.W Mine V02
namespace L1
theorem eqA_end {e:Nat→Nat→Bool} {a b:List Nat}:eqA e a b (0+a.length)=false:=by unfold eqA;rw[Nat.zero_add,List.getElem?_eq_none (Nat.le_refl _)];rfl
section
variable {n:Nat} {a b:List Nat} {m p q:Int} {o:Objs} {σ:Str→Option V} {k:Nat}
theorem core_all (ha:a.length≤1000) (hb:b.length≤1000):Hd (exs (ex G (n+33) CL) (BL.drop 9) (S NL (Lq a b m p q) σ o)) (Pf (coreP costN costN a b m) o):=by
  unfold coreP
  refine IR (!(a.length !=0)|| !(b.length !=0)) ⋯ ((show tst G (n+32) CL (sE BL 9 0) (S NL (Lq a b m p q) σ o)=evOr (tst G (n+31) CL) [kd (sE BL 9 0) 0,kd (sE BL 9 0) 1] (S NL (Lq a b m p q) σ o)from ⋯).trans (o_c (t_not ⋯ (t_val ⋯ (v:=tx a) ⋯ (tr_tx ha))) fun _=>o_1 (t_not ⋯ (t_val ⋯ (v:=tx b) ⋯ (tr_tx hb)))))
    (fun h=>R ⋯ (x_bin (a:=ii 2) (b:=ii ((a.length:Int)+b.length)) ⋯ ⋯ (x_bin ⋯ (x_bui .len ⋯ (evs1 ⋯) (len_tx ha)) (x_bui .len ⋯ (evs1 ⋯) (len_tx hb)) ⋯) (mulV ⋯)) (Nx.r ?_)) fun h=>?_
  · rw[h];exact⟨rfl,[],(List.append_nil o).symm⟩
  rw[h]
  refine IR (decide ((40:Int)<a.length)||decide ((40:Int)<b.length)) ⋯ ((show tst G (n+32) CL (sE BL 10 0) (S NL (Lq a b m p q) σ o)=evOr (tst G (n+31) CL) [kd (sE BL 10 0) 0,kd (sE BL 10 0) 1] (S NL (Lq a b m p q) σ o)from ⋯).trans (o_c (t_cmp .Gt (b:=ii 40) ⋯ (x_bui .len ⋯ (evs1 ⋯) (len_tx ha)) ⋯ ⋯) fun _=>o_1 (t_cmp .Gt (b:=ii 40) ⋯ (x_bui .len ⋯ (evs1 ⋯) (len_tx hb)) ⋯ ⋯)))
    (fun h=> .of (a:=(.ret (ii (m+1)),S NL (Lq a b m p q) σ o)) ⋯ (Nx.r ?_)) fun h=>?_
  · rw[h];exact⟨rfl,[],(List.append_nil o).symm⟩
  rw[h]
  refine I (decide ((b.length:Int)<a.length)) ⋯ (t_cmp .Lt ⋯ (x_bui .len ⋯ (evs1 ⋯) (len_tx hb)) (x_bui .len ⋯ (evs1 ⋯) (len_tx ha)) ⋯) (fun h=>Nx.z (st:=S NL (Lq b a m p q) σ o) ⋯ ?_) fun h=>Nx.z (st:=S NL (Lq a b m p q) σ o) ⋯ ?_
  · rw[h];exact outer_all hb ha
  · rw[h];exact outer_all ha hb
theorem len_map_take {l:List Nat} {k:Nat} (h:l.length≤1000):(l.take k).length≤1000:=Nat.le_trans (List.length_take_le' ..) h
theorem len_drop {l:List Nat} {k:Nat} (h:l.length≤1000):(l.drop k).length≤1000:=Nat.le_trans (List.length_drop ▸ Nat.sub_le ..) h
noncomputable def levV (a b:List Nat) (m:Int):Int:=bif a==b then 0 else levP beqN costN costN a b m
noncomputable def La (a b:List Nat) (m:Int):List (Str×V):=[("a",tx a),("b",tx b),("max_cost",ii m)]
theorem lev_in (ha:a.length≤1000) (hb:b.length≤1000) {st:St} (e:st=S NL (Lq a b m p (pN (preP beqN a.reverse b.reverse))) z0 o):Hd (exs (ex G (n+33) CL) (BL.drop 7) st) (Pf (coreP costN costN (a.take (a.length - preP beqN a.reverse b.reverse)) (b.take (b.length - preP beqN a.reverse b.reverse)) m) o):=by
  rw[e]
  generalize preP beqN a.reverse b.reverse=k
  exact A (tx (a.take (a.length - k))) (S NL (Lq (a.take (a.length - k)) b m p (pN k)) z0 o) ⋯ (x_slice (lo:=none) (hi:=some (kd (kd (sE BL 7 0) 1) 0)) (sp:=none) ⋯ ⋯ ⋯ (part_s (po (fun _=>⋯) fun _ _=>⋯)) ⋯ (sl_to ha)) ⋯
    (A (tx (b.take (b.length - k))) (S NL (Lq (a.take (a.length - k)) (b.take (b.length - k)) m p (pN k)) z0 o) ⋯ (x_slice (lo:=none) (hi:=some (kd (kd (sE BL 8 0) 1) 0)) (sp:=none) ⋯ ⋯ ⋯ (part_s (po (fun _=>⋯) fun _ _=>⋯)) ⋯ (sl_to hb)) ⋯
    (core_all (len_map_take ha) (len_map_take hb)))
theorem lev_mid (ha:a.length≤1000) (hb:b.length≤1000) {st:St} (e:st=S NL (Lp a b m k) z0 o):Hd (exs (ex G (n+33) CL) (BL.drop 5) st) (Pf (coreP costN costN (a.take (a.length - preP beqN a.reverse b.reverse)) (b.take (b.length - preP beqN a.reverse b.reverse)) m) o):=by
  rw[e]
  exact Ks 1 (S NL (Lq a b m k (pN 0)) z0 o) ⋯ (WH ⋯ (w_count (fun j st=>st=S NL (Lq a b m k (pN j)) z0 o) (eqA beqN a.reverse b.reverse) (fun j st e=>e ▸ lev6 ha hb) (fun j st _ e=>e ▸ Hd.of (a:=(.next,S NL (Lq a b m k (pN j - 1)) z0 o)) ⋯ ⟨rfl,congrArg (fun q=>S NL (Lq a b m k q) z0 o) pm⟩) a.reverse.length 0 whileFuel _ eqA_end (Nat.lt_of_le_of_lt (List.length_reverse ▸ ha) (by decide)) rfl fun st e=>Nx.i (lev_in ha hb e)))
theorem lev_pre (ha:a.length≤1000) (hb:b.length≤1000) {st:St} (e:st=S NL (Lp a b m (preP beqN a b)) z0 o):Hd (exs (ex G (n+33) CL) (BL.drop 3) st) (Pf (levP beqN costN costN a b m) o):=by
  rw[e];unfold levP
  generalize preP beqN a b=k
  exact A (tx (a.drop k)) (S NL (Lp (a.drop k) b m k) z0 o) ⋯ (x_slice (lo:=some (.Name "pre" default)) (hi:=none) (sp:=none) ⋯ ⋯ (part_s (v:=ii k) ⋯) ⋯ ⋯ (sl_from ha)) ⋯
    (A (tx (b.drop k)) (S NL (Lp (a.drop k) (b.drop k) m k) z0 o) ⋯ (x_slice (lo:=some (.Name "pre" default)) (hi:=none) (sp:=none) ⋯ ⋯ (part_s (v:=ii k) ⋯) ⋯ ⋯ (sl_from hb)) ⋯
    (lev_mid (len_drop ha) (len_drop hb) rfl))
theorem lev_spec (ha:a.length≤1000) (hb:b.length≤1000):Hd (call G (n+34) "_levenshtein_distance" [tx a,tx b,ii m] [] o) fun r=>r.1=ii (levV a b m)∧∃j,r.2=o++j:=by
  have q (c:Bool) (h:(a==b)=c):levV a b m=bif c then 0 else levP beqN costN costN a b m:=congrArg (fun c=>bif c then 0 else levP beqN costN costN a b m) h
  refine c_call (F:=F_levenshtein_distance) (S NL (La a b m) z0 o) ⋯ ((show Hd _ (Pf (levV a b m) o)from ?_).get fun p hp ⟨h,hj⟩=> .of hp ?_)
  · refine IR (C:=CL) (B:=BL) (a==b) ⋯ ⋯ (fun h=>Hd.of (a:=(.ret (ii 0),S NL (La a b m) z0 o)) ⋯ (Nx.r (q _ h ▸ ⟨rfl,[],(List.append_nil o).symm⟩))) fun h=>?_
    rw[q _ h]
    exact Ks 1 (S NL (Lp a b m 0) z0 o) ⋯ (WH ⋯ (w_count (fun k st=>st=S NL (Lp a b m k) z0 o) (eqA beqN a b) (fun k st e=>e ▸ lev2 ha hb) (fun k st _ e=>e ▸ Hd.of (a:=(.next,S NL (Lp a b m (k+1:Nat)) z0 o)) ⋯ ⟨rfl,rfl⟩) a.length 0 whileFuel _ eqA_end (Nat.lt_of_le_of_lt ha (by decide)) rfl fun st e=>Nx.i (lev_pre ha hb e)))
  · rw[h];exact⟨rfl,hj⟩
end
end L1
end
section
open PySem PySem.W Mine V02
namespace L1
noncomputable def b3N:List (Nat×List Nat):=H02.b3L.map fun p=>(p.1.toNat,strL p.2)
theorem strL_mkS {l:List Nat}:strL (mkS l)=l:=rfl
theorem b3_tab:H02.b3L=b3N.map fun p=>((p.1:Int),mkS p.2):=⋯
theorem lookup_cast (c:Nat):∀l:List (Nat×List Nat),(l.map fun p=>((p.1:Int),mkS p.2)).lookup (c:Int)=(l.lookup c).map mkS
  |[]=>rfl
  | (k,x)::r=>by
    simp only[List.map_cons,List.lookup_cons]
    by_cases h:c=k
    · subst h;simp
    · have h1:((c:Int)==(k:Int))=false:=by simp;omega
      have h2:(c==k)=false:=by simp[h]
      rw[h1,h2]
      exact lookup_cast c r
noncomputable def M (c:Nat):List Nat:=match b3N.lookup c with |some l=>l |none=>Unicode.lowerOf c
theorem toList_flatten:∀l:List (Array Nat),(l.toArray.flatten).toList=l.flatMap Array.toList:=by
  intro l;simp[List.flatMap]
theorem lowerAt_list (l:List Nat) (i:Nat) (hi:i<l.length) (h:l[i]≠931):Unicode.lowerAt l.toArray i=Unicode.lowerOf l[i]:=by
  unfold Unicode.lowerAt
  have:l.toArray[i]?=some l[i]:=by simp[hi]
  rw[this]
  have h':(l[i]==0x3A3)=false:=by simpa using h
  simp[h']
theorem lower_mkS (l:List Nat) (h:931∉l):Txt.lower (mkS l)=mkS (l.flatMap Unicode.lowerOf):=by
  unfold Txt.lower placed mkS
  have e:(l.toArray.mapIdx fun i _=>(Unicode.lowerAt l.toArray i).toArray)=(l.map fun c=>(Unicode.lowerOf c).toArray).toArray:=by
    apply Array.ext
    · simp
    · intro i h1 h2
      have hi:i<l.length:=by simpa using h1
      simp only[Array.getElem_mapIdx,List.getElem_toArray,List.getElem_map]
      rw[lowerAt_list l i hi (fun q=>h (q ▸ List.getElem_mem hi))]
  congr 1
  apply Array.toList_inj.mp
  show(Array.flatten (l.toArray.mapIdx fun i _=>(Unicode.lowerAt l.toArray i).toArray)).toList=_
  rw[e,toList_flatten]
  simp[List.flatMap]
  rfl
end L1
end
section
open PySem PySem.W Mine V02
namespace L1
theorem low1_eq (c:Nat):low1 c=Unicode.lowerOf c:=by
  by_cases h:c=931
  · subst h;decide+kernel
  · unfold low1
    rw[lower_mkS [c] (by simpa using fun q=>h q.symm),strL_mkS];simp
theorem prim3_spec (c:Nat):prim3 (.str (mkS [c]))=some (.str (mkS (M c))):=by
  show some (PyData.str ((H02.b3L.lookup (c:Int)).getD (Txt.lower (mkS [c]))))=_
  unfold M
  rw[b3_tab,lookup_cast]
  cases b3N.lookup c with
  |some l=>rfl
  |none=>exact congrArg (fun s=>some (PyData.str s)) ((mkS_strL _).symm.trans (congrArg mkS (low1_eq c)))
end L1
end
section
open PySem PySem.W Mine V02
namespace L1
theorem mem_lookN:∀{l:List (Nat×List Nat)} {c:Nat} {x:List Nat},l.lookup c=some x→(c,x)∈l
  |[],c,x,h=>by simp at h
  | (k,y)::r,c,x,h=>by
    rw[List.lookup_cons]at h
    by_cases q:c=k
    · subst q;simp at h;subst h;simp
    · have h2:(c==k)=false:=by simp[q]
      rw[h2]at h
      exact List.mem_cons_of_mem _ (mem_lookN h)
theorem several_none {c:Nat} (h:c≠304):UnicodeData.severalLower.lookup c=none:=by
  have:UnicodeData.severalLower=[(304,[105,775])]:=⋯
  rw[this]
  have h':(c==304)=false:=by simpa using h
  simp[List.lookup,h']
theorem low_none {c:Nat} (h:c≠304):Unicode.lowerOf c=[(Unicode.shifted UnicodeData.oneLower c).getD c]:=by
  unfold Unicode.lowerOf Unicode.image
  rw[several_none h]
end L1
end
section
open PySem PySem.W Mine V02
namespace L1
section
variable {e:Nat→Nat→Bool} {c c':Nat→Nat→Int} {φ ψ:Nat→Nat} {a b:List Nat} {m:Int}
theorem eqA_map {k:Nat}:eqA e (a.map φ) (b.map ψ) k=eqA (fun i j=>e (φ i) (ψ j)) a b k:=by
  unfold eqA;rw[List.getElem?_map,List.getElem?_map]
  cases a[k]?<;>cases b[k]?<;>rfl
theorem preP_map:preP e (a.map φ) (b.map ψ)=preP (fun i j=>e (φ i) (ψ j)) a b:=by
  unfold preP;rw[List.length_map,show eqA e (a.map φ) (b.map ψ)=_ from funext fun k=>eqA_map]
theorem tailP_map:tailP c (a.map φ) (b.map ψ) m=tailP (fun j i=>c (ψ j) (φ i)) a b m:=by
  unfold tailP
  rw[List.length_map,List.length_map,List.map_map]
  exact congrArg (fun z=>bif decide (m<((b.length:Int) - a.length) * 2)then m+1 else outerI m z _ _ _) (List.map_congr_left fun y _=>List.map_map)
theorem coreP_map:coreP c c' (a.map φ) (b.map ψ) m=coreP (fun j i=>c (ψ j) (φ i)) (fun i j=>c' (φ i) (ψ j)) a b m:=by
  unfold coreP;rw[List.length_map,List.length_map,tailP_map,tailP_map]
theorem levP_map:levP e c c' (a.map φ) (b.map ψ) m=levP (fun i j=>e (φ i) (ψ j)) (fun j i=>c (ψ j) (φ i)) (fun i j=>c' (φ i) (ψ j)) a b m:=by
  unfold levP
  rw[preP_map,←List.map_drop,←List.map_drop,←List.map_reverse,←List.map_reverse,preP_map,List.length_map,List.length_map,←List.map_take,←List.map_take,coreP_map]
noncomputable def sameP (e:Nat→Nat→Bool):List Nat→List Nat→Bool
  |[],[]=>true
  |x::xs,y::ys=>e x y&&sameP e xs ys
  |_,_=>false
theorem same_map:∀{a b:List Nat},(a.map φ==b.map ψ)=sameP (fun i j=>beqN (φ i) (ψ j)) a b
  |[],[]=>rfl
  |[],_::_=>rfl
  |_::_,[]=>rfl
  | x::xs,y::ys=>by
    show(φ x==ψ y&&(xs.map φ==ys.map ψ))=((φ x==ψ y&&true)&&sameP _ xs ys)
    rw[Bool.and_true,same_map]
end
structure Rl (c:Int) (x y:Nat):Prop where
  e:beqN x y=(c==0)
  l:costN x y=c
  r:costN y x=c
noncomputable def levT (c:Nat→Nat→Int) (a b:List Nat) (m:Int):Int:=bif sameP (fun i j=>c i j==0) a b then 0 else levP (fun i j=>c i j==0) (fun j i=>c i j) c a b m
theorem lev_T {c:Nat→Nat→Int} {φ ψ:Nat→Nat} (h:∀i j,Rl (c i j) (φ i) (ψ j)) {a b:List Nat} {m:Int}:levV (a.map φ) (b.map ψ) m=levT c a b m:=by
  unfold levV levT
  rw[same_map,levP_map,show(fun i j=>beqN (φ i) (ψ j))=_ from funext fun i=>funext fun j=>(h i j).e,show(fun j i=>costN (ψ j) (φ i))=_ from funext fun j=>funext fun i=>(h i j).r,show(fun i j=>costN (φ i) (ψ j))=c from funext fun i=>funext fun j=>(h i j).l]
theorem Rl.symm {c:Int} {x y:Nat} (h:Rl c x y):Rl c y x:=⟨(show((y==x)&&true)=(c==0) by rw[←h.e];exact congrArg (·&&true) (Bool.beq_comm ..)),h.r,h.l⟩
theorem Rl.refl (x:Nat):Rl 0 x x:=by
  have e:([x]==[x])=true:=beq_self_eq_true [x]
  have c:costN x x=0:=by unfold costN;rw[e];rfl
  exact⟨e,c,c⟩
theorem Rl.ne {x y:Nat} (h:x≠y):Rl (bif low1 x==low1 y then 1 else 2) x y:=by
  have f {x y:Nat} (h:x≠y):([x]==[y])=false:=beq_eq_false_iff_ne.mpr fun q=>h (List.cons.inj q).1
  have g {x y:Nat} (h:x≠y):costN x y=bif low1 x==low1 y then 1 else 2:=by unfold costN;rw[f h];rfl
  exact⟨(f h).trans (by cases low1 x==low1 y<;>rfl),g h,(g fun q=>h q.symm).trans (by rw[Bool.beq_comm])⟩
noncomputable def t3:List Int:=[0,1,2]
end L1
end
section
open PySem PySem.W Mine V02
namespace Mine
variable {G:Env'} {n:Nat} {C:Cx} {o:Objs} {v:V} {P:Fl×St→Prop} {B:List Stmt} {k:Nat}
open L1
theorem set_S {N:List Str} {L:List (Str×V)} {σ:Str→Option V} {c:Cell} {xs ys:List PyData} (hy:xs=ys):setCell o.length (.list xs) (S N L σ (o++[c]))=S N L σ (o++[.list ys]):=by subst hy;exact congrArg (S N L σ) set_end
theorem c_eq {f:Str} {F:Fn} {vs:List V} {ks:List (Str×V)} {o':Objs} (st:St) (h0:call G (n+1) f vs ks o=(exs (ex G n ⟨F.scope,F.mv⟩) (F.body.drop 0) st).bind fun p=>p.1.val.map fun v=>(v,p.2.objs)) (h:Hd (exs (ex G n ⟨F.scope,F.mv⟩) (F.body.drop 0) st) fun p=>p.1= .ret v∧p.2.objs=o'):call G (n+1) f vs ks o=some (v,o'):=by
  rw[h0];exact h.get fun p hp ⟨h1,h2⟩=>by
    rw[hp];show p.1.val.map _=_
    rw[h1,←h2];rfl
end Mine
namespace L1
theorem gDf {α:Type} {f:Nat→α} {l:List Nat} {j:Nat} (h:j<l.length):(l.map f)[j]?=some (f (l.getD j 0)):=by rw[List.getElem?_map,List.getD_eq_getElem?_getD,List.getElem?_eq_getElem h];rfl
theorem len_hl {o:Objs} {i:Nat} {xs:List PyData} (h:Mine.listAt o i=some xs) (hl:xs.length≤1000):callB o .len [.hl i]=some (ii xs.length):=by
  show(((Mine.listAt o i).map PyData.list).bind lst?).bind _=_
  rw[h];exact gd_t (maxL hl)
end L1
namespace L1
noncomputable def strD (c:Nat):PyData:= .str (mkS [c])
noncomputable def txtD (w:List Nat):PyData:= .str (mkS w)
noncomputable def natD (l:List Nat):List PyData:=l.map elI
theorem itL {o:Objs} {xs:List PyData} {x:PyData} {i:Int} {j:Nat} (h:idx? i xs.length=some j) (hx:xs[j]?=some x):itemV o (.d (.list xs)) i=some (.d x):=by
  show(idx? i xs.length).bind _=_
  rw[h];show(xs[j]?).map _=_
  rw[hx];rfl
noncomputable def md (x:Int) (n:Nat):Nat:=(x.fmod n).toNat
theorem md_eq {x:Int} {n:Nat} (h:n≠0):x.fmod n=md x n:=(Int.toNat_of_nonneg (Int.fmod_nonneg_of_pos x (Int.ofNat_lt.mpr (Nat.pos_of_ne_zero h)))).symm
theorem md_lt {x:Int} {n:Nat} (h:n≠0):md x n<n:=Int.ofNat_lt.mp (md_eq (x:=x) h ▸ Int.fmod_lt_of_pos x (Int.ofNat_lt.mpr (Nat.pos_of_ne_zero h)))
theorem modV {o:Objs} {x:Int} {n:Nat} (h:n≠0):binop o .Mod (ii x) (ii n)=some (ii (md x n)):=by
  show(gd (decide ((n:Int)≠0)) (some (x.fmod n))).map _=_
  rw[gd_t (b:=decide ((n:Int)≠0)) (decide_eq_true fun q=>h (Int.ofNat.inj q)),md_eq h];rfl
theorem gD {l:List Nat} {j:Nat} (h:j<l.length):(l.map strD)[j]?=some (strD (l.getD j 0)):=by rw[List.getElem?_map,List.getD_eq_getElem?_getD,List.getElem?_eq_getElem h];rfl
theorem listAt_app {o c:Objs} {i:Nat} {xs:List PyData} (h:Mine.listAt o i=some xs):Mine.listAt (o++c) i=some xs:=by
  unfold Mine.listAt at h ⊢
  obtain⟨a,ha,_⟩:=Option.bind_eq_some_iff.mp h
  rw[List.getElem?_append_left (List.getElem?_eq_some_iff.mp ha).1];exact h
end L1
namespace Mine
variable {G:Env'} {n:Nat} {C:Cx} {o:Objs} {v a:V} {st:St} {e:Expr}
theorem x_mt (s:List Nat) (m:Str) (h0:ev G (n+1) C e st=evMeth (fs G n) C (L1.tx s) m [kd e 1] [] st) (hr:recvOk st.objs m (L1.tx s)=true) (h:ev G n C (kd e 1) st=some (a,st)) (hc:callM st.objs (mkS s) m [a]=some v):ev G (n+1) C e st=some (v,st):=by
  rw[h0];show gd (recvOk st.objs m (L1.tx s)) ((evs (ev G n C) [kd e 1] st).bind _)=_
  rw[gd_t hr,evs1 h];show((callM st.objs (mkS s) m [a]).map _)=_
  rw[hc];rfl
end Mine
namespace L1
theorem strs_map:∀ws:List (List Nat),strs? (ws.map fun w=>PyData.str (mkS w))=some (ws.map mkS)
  |[]=>rfl
  |w::ws=>by show(strs? (ws.map fun w=>PyData.str (mkS w))).map _=_;rw[strs_map ws];rfl
theorem mkS_app (a b:List Nat):mkS a++mkS b=mkS (a++b):=by
  show Str.mk (a.toArray++b.toArray)=Str.mk (a++b).toArray
  rw[List.append_toArray]
theorem join_mkS:∀ws:List (List Nat),Txt.join (mkS []) (ws.map mkS)=mkS ws.flatten
  |[]=>by unfold Txt.join;rw[StrLaws.glued_eq_join];rfl
  |[w]=>by unfold Txt.join;rw[StrLaws.glued_eq_join];exact congrArg mkS (List.append_nil w).symm
  | w::x::r=>by
    have ih:=join_mkS (x::r)
    unfold Txt.join at ih ⊢
    rw[StrLaws.glued_eq_join]at ih ⊢
    show mkS w++mkS []++Str.join (mkS []) ((x::r).map mkS)=_
    rw[ih,mkS_app,mkS_app,List.append_nil];rfl
theorem foldl_len:∀(ws:List (List Nat)) (a:Nat),(ws.map mkS).foldl (fun s t=>s+t.length+0) a=a+ws.flatten.length
  |[],a=>rfl
  | w::ws,a=>by
    rw[List.map_cons,List.foldl_cons,foldl_len ws,List.flatten_cons,List.length_append,←Nat.add_assoc];rfl
theorem join_ok {o:Objs} {ws:List (List Nat)} (h:ws.flatten.length≤1000000):callM o (mkS []) "join" [.fl (ws.map fun w=> .str (mkS w))]=some (tx ws.flatten):=by
  show(strs? (ws.map fun w=>PyData.str (mkS w))).bind _=_
  rw[strs_map]
  show gd (JoinOk (mkS []) (ws.map mkS)) (some (V.d (.str (Txt.join (mkS []) (ws.map mkS)))))=_
  rw[join_mkS,gd_t ?_];rfl
  unfold JoinOk
  rw[show((ws.map mkS).toArray.foldl (fun x1 x2=>x1+x2.length+(mkS []).length) 0)=ws.flatten.length from(List.foldl_toArray ..).trans ((foldl_len ws 0).trans (Nat.zero_add _))]
  exact(Bool.not_eq_true' _).mpr (decide_eq_false (Nat.not_lt.mpr (by rw[sizeLine_eq];exact Nat.le_trans h (by decide))))
theorem addT {o:Objs} {a b:List Nat} (h:a.length+b.length≤1000000):binop o .Add (tx a) (tx b)=some (tx (a++b)):=gd_t (decide_eq_true h)
theorem chrV {o:Objs} {c:Nat} (h:c≤1114111):callB o .chr [ii c]=some (tx [c]):=gd_t (b:=decide (0≤(c:Int)∧(c:Int)≤0x10FFFF)) (decide_eq_true ⟨Int.natCast_nonneg c,Int.ofNat_le.mpr h⟩)
end L1
namespace Mine
noncomputable def forE (B:List Stmt) (k:Nat):Stmt:= .For (sE B k 1) (sE B k 0) (sB B k) [] (st' B k).pos
theorem for_h {G:Env'} {n:Nat} {C:Cx} {B:List Stmt} {k:Nat} (hd:B.drop k=forE B k::B.drop (k+1)) (st:St):exs (ex G (n+1) C) (B.drop k) st=((iter G n C (sE B k 0) st).bind fun p=>gd (okTarget p.1 (sE B k 1)) (forL (fun x st=>bind G n C (sE B k 1) (.d x) st) (exs (ex G n C) (sB B k)) p.1 loopFuel 0 p.2)).bind fun p=>bif p.1.isNext then exs (ex G (n+1) C) (B.drop (k+1)) p.2 else some p:=
  (congrArg (fun l=>exs (ex G (n+1) C) l st) hd).trans rfl
end Mine
end
section
open PySem PySem.W Mine V02
namespace Mine
noncomputable def kwsE:Expr→List Keyword | .Call _ _ ks _=>ks |_=>[]
section
variable {G:Env'} {n:Nat} {C:Cx} {o o':Objs} {v a:V} {st:St} {e:Expr} {vs:List V} {ks:List (Str×V)}
theorem x_ob (i:Nat) (m f:Str) (h0:ev G (n+1) C e st=evMeth (fs G n) C (.obj i) m (kids e).tail (kwsE e) st) (hf:("Headers."++m:Str)=f) (hr:(instAt st.objs i).isSome=true) (h:evs (ev G n C) (kids e).tail st=some (vs,st)) (hk:evKws (ev G n C) (kwsE e) st=some (ks,st)) (hc:call G n f (.obj i::vs) ks st.objs=some (v,o')):ev G (n+1) C e st=some (v,⟨st.vars,o'⟩):=by
  subst hf
  rw[h0];show gd (instAt st.objs i).isSome ((evs (ev G n C) (kids e).tail st).bind _)=_
  rw[gd_t hr,h];show(evKws (ev G n C) (kwsE e) st).bind _=_
  rw[hk];show(call G n ("Headers."++m) (.obj i::vs) ks st.objs).map _=_
  rw[hc];rfl
theorem x_pt (b:Bool) (s:List Nat) (h0:ev G (n+1) C e st=evMeth (fs G n) C (.pat b) "search" [kd e 1] [] st) (h:ev G n C (kd e 1) st=some (L1.tx s,st)) (hs:(s.all fun c=>decide (32≤c)&&c !=127)=true):ev G (n+1) C e st=some (.d .none,st):=by
  rw[h0];show(evs (ev G n C) [kd e 1] st).bind _=_
  rw[evs1 h];exact gd_t hs
theorem x_low (s:List Nat) (h0:ev G (n+1) C e st=evMeth (fs G n) C (L1.tx s) "lower" [] [] st) (hl:s.length≤1000):ev G (n+1) C e st=some (.d (.str (Txt.lower (mkS s))),st):=by
  rw[h0];show(gd (decide (s.length≤maxLen)) _).map _=_
  rw[gd_t (L1.maxL hl)];rfl
end
end Mine
namespace L1
theorem tf {P:Prop} (h:true=false):P:=Bool.noConfusion h
theorem ft {P:Prop} (h:false=true):P:=Bool.noConfusion h
noncomputable def okW (w:List Nat):Bool:=w.all fun c=>decide (32≤c)&&c !=127
noncomputable def NC:List Str:=["self","value","name","regex"]
noncomputable def BC:List Stmt:=F_Hconvert_string_type.body
noncomputable def CC:Cx:=Cf F_Hconvert_string_type
noncomputable def LC (i:Nat) (w:List Nat) (b:Bool):List (Str×V):=[("self",.obj i),("value",tx w),("name",.d (.bool b))]
section
variable {n i:Nat} {w:List Nat} {b:Bool} {o:Objs}
theorem cv_spec (hw:okW w=true):call G (n+20) "Headers._convert_string_type" [.obj i,tx w] [("name",.d (.bool b))] o=some (tx w,o):=
  by
  have hp (b:Bool):ev G (n+17) CC (sE (sB BC 0) 0 0) (S NC (LC i w b) z0 o)=some (.pat b,S NC (LC i w b) z0 o):=by cases b<;>rfl'
  refine c_eq (F:=F_Hconvert_string_type) (S NC (LC i w b) z0 o) ⋯ ?_
  refine IR (C:=CC) (B:=BC) (n:=n+18) (k:=0) true ⋯ ⋯ (fun _=>?_) tf
  refine A (.pat b) (S NC (("regex",.pat b)::LC i w b) z0 o) ⋯ (hp b) ⋯ ?_
  refine IR false ⋯ (t_val ⋯ (x_pt b w ⋯ ⋯ hw) ⋯) ft fun _=>?_
  exact .of (a:=(.ret (tx w),S NC (("regex",.pat b)::LC i w b) z0 o)) ⋯ (Nx.r ⟨rfl,rfl⟩)
end
end L1
end
section
open PySem PySem.W Mine V02
namespace Mine
section
variable {G:Env'} {n:Nat} {C:Cx} {o o':Objs} {v a:V} {st:St} {B:List Stmt} {k:Nat} {P:Fl×St→Prop}
theorem x_mit {α:Type} {N:List Str} {e:Expr} (it:It) (l:List α) (φ:α→PyData) (w:α→V) (ψ:α→PyData) (L:List (Str×V)) (L1:α→List (Str×V)) (σ:Str→Option V)
    (h0 :ev G (n+3) C e st=((iter G (n+2) C (kd e 1) st).bind fun p=>gd (compOk C (gnE e).2 p.2.vars) ((gd (okTarget p.1 (kd e 2)) (compL (fun x st acc=>(bind G (n+1) ⟨(gnE e).2,[]⟩ (kd e 2) (.d x) st).bind fun st=>(evAnd (tst G (n+1) ⟨(gnE e).2,[]⟩) ((kids e).drop 3) st).bind fun p=>bif p.1 then((ev G (n+1) ⟨(gnE e).2,[]⟩ (kd e 0) p.2).bind fun p=>(rd0 p.1).bind fun y=>gd (decide (acc.length<maxLen)) (some (acc++[y],p.2)))else some (acc,p.2)) p.1 loopFuel 0
        ⟨((localNames (gnE e).2).map fun x=>(x,none))++p.2.vars.filter (fun x=>freeIn (gnE e).2 x.1),p.2.objs⟩ [])).bind fun q=>gd (decide (q.1.length≤maxLen)) (some (.fl q.1,⟨p.2.vars,q.2.objs⟩)))))
    (hi:iter G (n+2) C (kd e 1) st=some (it,st)) (hq:okTarget it (kd e 2)=true) (hit:∀j,nextIt st.objs j it=some (l.map φ)[j]?) (hk:compOk C (gnE e).2 st.vars=true) (hl:decide (l.length≤1000)=true) (hs:(⟨((localNames (gnE e).2).map fun x=>(x,none))++st.vars.filter (fun x=>freeIn (gnE e).2 x.1),st.objs⟩:St)=S N L σ st.objs)
    (hb:∀x σ,x∈l→bind G (n+1) ⟨(gnE e).2,[]⟩ (kd e 2) (.d (φ x)) (S N L σ st.objs)=some (S N (L1 x) σ st.objs)) (hw:∀x σ,S N (L1 x) σ st.objs=S N L (ovs (L1 x) σ) st.objs)
    (ht:(kids e).drop 3=[]) (he:∀x σ,x∈l→ev G (n+1) ⟨(gnE e).2,[]⟩ (kd e 0) (S N (L1 x) σ st.objs)=some (w x,S N (L1 x) σ st.objs)) (hr:∀x,x∈l→rd0 (w x)=some (ψ x)):
    ev G (n+3) C e st=some (.fl (l.map ψ),st):=
  (x_fit (c:=fun _=>true) it l φ w ψ L L1 σ h0 hi hq hit hk hl hs hb hw (fun x σ _=>by rw[ht];rfl) (fun x σ h _=>he x σ h) hr).trans (congrArg (fun l=>some (V.fl (l.map ψ),st)) (List.filter_eq_self.mpr fun _ _=>rfl))
end
end Mine
end
section
open PySem PySem.W Mine V02
namespace L1
noncomputable abbrev Ent:=List Nat×List Nat
noncomputable def entD (p:Ent):PyData:= .tuple [txtD p.1,txtD p.2]
noncomputable def lowW (w:List Nat):List Nat:=strL (Txt.lower (mkS w))
noncomputable def kwN (b:Bool):List (Str×V):=[("name",.d (.bool b))]
structure HA (o:Objs) (i h:Nat) (es:List Ent):Prop where
  i:instAt o i=some (some h)
  l:Mine.listAt o h=some (es.map entD)
  n:es.length≤1000
section
variable {n i h:Nat} {w:List Nat} {o:Objs} {es:List Ent} {st:St} {e:Expr} {C:Cx}
theorem x_hd (h0:ev G (n+1) C e st=evAttr (fs G n) C (kd e 0) "_headers" st) (h1:ev G n C (kd e 0) st=some (.obj i,st)) (H:HA st.objs i h es):ev G (n+1) C e st=some (.hl h,st):=by
  rw[h0];show(ev G n C (kd e 0) st).bind _=_
  rw[h1];show(instAt st.objs i).bind _=_
  rw[H.i];rfl
theorem i_hd (h0:iter G (n+1) C e st=iterV (fs G n) C e st) (h1:ev G n C e st=some (.hl h,st)) (H:HA st.objs i h es):iter G (n+1) C e st=some (.cell h,st):=
  i_val h0 h1 (by show(Mine.listAt st.objs h).map _=_;rw[H.l];rfl)
theorem x_cv (k:Expr) (w:List Nat) (b:Bool) (h0:ev G (n+21) C e st=evMeth (fs G (n+20)) C (.obj i) "_convert_string_type" (kids e).tail (kwsE e) st) (hk:evKws (ev G (n+20) C) (kwsE e) st=some (kwN b,st)) (hr:(instAt st.objs i).isSome=true) (h:evs (ev G (n+20) C) (kids e).tail st=some ([tx w],st)) (hw:okW w=true):ev G (n+21) C e st=some (tx w,st):=
  x_ob i "_convert_string_type" "Headers._convert_string_type" h0 ⋯ hr h hk (cv_spec hw)
end
noncomputable def NA:List Str:=["self","name"]
noncomputable def BA:List Stmt:=F_H_get_all.body
noncomputable def CA:Cx:=Cf F_H_get_all
noncomputable def sH (w:List Nat) (p:Ent):Bool:=lowW p.1==w
noncomputable def LA (i:Nat) (w:List Nat):List (Str×V):=[("self",.obj i),("name",tx w)]
section
variable {n i h:Nat} {w:List Nat} {o:Objs} {es:List Ent}
theorem HA.is (H:HA o i h es):(instAt o i).isSome=true:=by rw[H.i];rfl
theorem HA.it (H:HA o i h es) (j:Nat):nextIt o j (.cell h)=some (es.map entD)[j]?:=by
  show(Mine.listAt o h).map _=_
  rw[H.l];rfl
theorem nm_low (C:Cx) {e:Expr} {st:St} (h0:ev G (n+21) C e st=evMeth (fs G (n+20)) C (.obj i) "_convert_string_type" (kids e).tail (kwsE e) st) (hk:evKws (ev G (n+20) C) (kwsE e) st=some (kwN true,st)) (H:HA st.objs i h es) (ha:(kids e).tail=[kd e 1]) (hl:ev G (n+20) C (kd e 1) st=evMeth (fs G (n+19)) C (tx w) "lower" [] [] st) (h1:w.length≤1000) (h2:okW (lowW w)=true):ev G (n+21) C e st=some (tx (lowW w),st):=
  x_cv e (lowW w) true h0 hk H.is (ha ▸ evs1 (x_low w hl h1)) h2
theorem ga_1 (H:HA o i h es) (hn:∀p∈es,p.1.length≤1000):ev G (n+30) CA (sE BA 1 0) (S NA (LA i w) z0 o)=some (.fl ((es.filter (sH w)).map fun p=>txtD p.2),S NA (LA i w) z0 o):=
  x_fit (N:=[".0","kv","name"]) (.cell h) es entD (sH w) (fun p=>tx p.2) (fun p=>txtD p.2) [("name",tx w)] (fun p=>[("kv",.d (entD p)),("name",tx w)]) z0 ⋯ (i_hd ⋯ (x_hd ⋯ ⋯ H) H) ⋯ H.it ⋯ (decide_eq_true H.n) ⋯ (fun _ _ _=>⋯) (fun _ _=>⋯)
    (fun p σ hp=>a_1 (t_cmp .Eq (b:=tx w) ⋯ (x_low p.1 ⋯ (hn p hp)) ⋯ ⋯)) (fun _ _ _ _=>⋯) (fun _ _=>⋯)
theorem all_spec (H:HA o i h es) (hn:∀p∈es,p.1.length≤1000) (h1:w.length≤1000) (h2:okW (lowW w)=true):call G (n+35) "Headers.get_all" [.obj i,tx w] [] o=some (.fl ((es.filter (sH (lowW w))).map fun p=>txtD p.2),o):=
  c_eq (F:=F_H_get_all) (S NA (LA i w) z0 o) ⋯ (A (C:=CA) (B:=BA) (k:=0) (tx (lowW w)) (S NA (LA i (lowW w)) z0 o) ⋯ (nm_low CA ⋯ ⋯ H ⋯ ⋯ h1 h2) ⋯ (R ⋯ (ga_1 H hn) ⟨rfl,rfl⟩))
end
end L1
end
section
open PySem PySem.W Mine V02
namespace Mine
variable {G:Env'} {n:Nat} {C:Cx} {v a b:V} {st:St} {e:Expr}
theorem x_cmp (op:CmpOp) {c} (h0:ev G (n+1) C e st=(ev G n C (kd e 0) st).bind fun p=>(evChain (ev G n C) p.1 [op] [kd e 1] p.2).map fun q=>(V.d (.bool q.1),q.2)) (h1:ev G n C (kd e 0) st=some (a,st)) (h2:ev G n C (kd e 1) st=some (b,st)) (hc:cmpop st.objs op a b=some c):ev G (n+1) C e st=some (.d (.bool c),st):=by
  rw[h0,h1];show((ev G n C (kd e 1) st).bind _).map _=_
  rw[h2];show((cmpop st.objs op a b).bind _).map _=_
  rw[hc];rfl
end Mine
namespace L1
theorem range_map {α β:Type} {d:α} {f:α→β} {l:List α}:(List.range l.length).map (fun j=>f (l.getD j d))=l.map f:=by
  refine List.ext_getElem? fun j=>?_
  rw[List.getElem?_map,List.getElem?_map]
  rcases Nat.lt_or_ge j l.length with h |h
  · rw[List.getElem?_range h];show some (f (l.getD j d))=_;rw[List.getD_eq_getElem?_getD,List.getElem?_eq_getElem h];rfl
  · rw[List.getElem?_eq_none (Nat.le_trans (Nat.le_of_eq List.length_range) h),List.getElem?_eq_none h];rfl
theorem find_step {α:Type} {d:α} {c:α→Bool} {l:List α} {j:Nat} (lt:j<l.length):(l.drop j).find? c=bif c (l.getD j d)then some (l.getD j d)else(l.drop (j+1)).find? c:=by
  rw[List.drop_eq_getElem_cons lt,List.find?_cons,List.getD_eq_getElem?_getD,List.getElem?_eq_getElem lt]
  show(match c l[j]with |true=>some l[j] |false=>_)=bif c l[j]then some l[j]else _
  cases c l[j]<;>rfl
noncomputable def NG:List Str:=["self","name","default","k","v"]
noncomputable def BG:List Stmt:=F_H_get.body
noncomputable def CG:Cx:=Cf F_H_get
noncomputable def LG (i:Nat) (w:List Nat):List (Str×V):=[("self",.obj i),("name",tx w),("default",.d .none)]
noncomputable def ent (es:List Ent) (j:Nat):Ent:=es.getD j ([],[])
noncomputable def fndV (x:Option Ent):V:=x.elim (.d .none) fun p=>tx p.2
section
variable {n i h:Nat} {w:List Nat} {o:Objs} {es:List Ent}
theorem get_spec (H:HA o i h es) (hn:∀p∈es,p.1.length≤1000) (h1:w.length≤1000) (h2:okW (lowW w)=true):call G (n+35) "Headers.get" [.obj i,tx w] [] o=some (fndV (es.find? (sH (lowW w))),o):=
  c_eq (F:=F_H_get) (S NG (LG i w) z0 o) ⋯ (A (C:=CG) (B:=BG) (k:=0) (tx (lowW w)) (S NG (LG i (lowW w)) z0 o) ⋯ (nm_low CG ⋯ ⋯ H ⋯ ⋯ h1 h2) ⋯
    (FI (.cell h) (fun j=>es.find? (sH (lowW w))=(es.drop j).find? (sH (lowW w))) es.length (fun j=>entD (ent es j)) (fun _=>LG i (lowW w)) (fun j=>("k",tx (ent es j).1)::("v",tx (ent es j).2)::LG i (lowW w)) (fun _=>o) (for_h ⋯) ⋯ (fun j=>(H.it j).trans (congrArg (fun l=>some l[j]?) range_map.symm)) (i_hd ⋯ (x_hd ⋯ ⋯ H) H) (maxL H.n) (σ:=z0) ⋯ rfl (fun _ _ _=>⋯)
      (fun j σ lt hJ=>IR (sH (lowW w) (ent es j)) ⋯ (t_cmp .Eq (b:=tx (lowW w)) ⋯ (x_low (ent es j).1 ⋯ (hn _ (by unfold ent;rw[List.getD_eq_getElem?_getD,List.getElem?_eq_getElem lt];exact List.getElem_mem lt))) ⋯ ⋯)
        (fun q=> .of (a:=(.ret (tx (ent es j).2),S NG (("k",tx (ent es j).1)::("v",tx (ent es j).2)::LG i (lowW w)) σ o)) ⋯ (Nx.r (.inr ⟨⟨_,rfl⟩,by rw[hJ,find_step (d:=([],[])) lt,show sH (lowW w) (es.getD j ([],[]))=true from q];rfl,rfl⟩)))
        fun q=> .of (a:=(.next,S NG (LG i (lowW w)) (ovs (("k",tx (ent es j).1)::("v",tx (ent es j).2)::LG i (lowW w)) σ) o)) ⋯ (.inl ⟨rfl,by rw[hJ,find_step (d:=([],[])) lt,show sH (lowW w) (es.getD j ([],[]))=false from q];rfl,_,rfl⟩))
      fun σ hJ=> .of (a:=(.ret (.d .none),S NG (LG i (lowW w)) σ o)) ⋯ ⟨by rw[hJ,List.drop_length];rfl,rfl⟩))
theorem keys_spec (H:HA o i h es):call G (n+20) "Headers.keys" [.obj i] [] o=some (.fl (es.map fun p=>txtD p.1),o):=
  c_eq (F:=F_H_keys) (S ["self"] [("self",.obj i)] z0 o) ⋯ (R (C:=Cf F_H_keys) (B:=F_H_keys.body) (k:=0) ⋯
    (x_mit (N:=[".0","k","v"]) (.cell h) es entD (fun p=>tx p.1) (fun p=>txtD p.1) [] (fun p=>[("k",tx p.1),("v",tx p.2)]) z0 ⋯ (i_hd ⋯ (x_hd ⋯ ⋯ H) H) ⋯ H.it ⋯ (decide_eq_true H.n) ⋯ (fun _ _ _=>⋯) (fun _ _=>⋯) ⋯ (fun _ _ _=>⋯) (fun _ _=>⋯)) ⟨rfl,rfl⟩)
end
end L1
end
section
open PySem PySem.W Mine V02
namespace Mine
variable {G:Env'} {n:Nat} {C:Cx} {v a:V} {st:St} {e:Expr} {P:Fl×St→Prop} {B:List Stmt} {k:Nat}
theorem E1 (h0:exs (ex G (n+1) C) (B.drop k) st=((ev G n C (sE B k 0) st).map fun p=>(Fl.next,p.2)).bind fun p=>bif p.1.isNext then exs (ex G (n+1) C) (B.drop (k+1)) p.2 else some p) {st2:St} (h:ev G n C (sE B k 0) st=some (v,st2)) (h2:Hd (exs (ex G (n+1) C) (B.drop (k+1)) st2) P):Hd (exs (ex G (n+1) C) (B.drop k) st) P:=by
  rw[h0,h];exact h2
theorem x_tup {vs xs} (h0:ev G (n+1) C e st=evTup (fs G n) C (kids e) st) (h:evs (ev G n C) (kids e) st=some (vs,st)) (hl:decide (vs.length≤maxLen)=true) (ht:triV vs=none) (hx:rd0s vs=some xs):ev G (n+1) C e st=some (.d (.tuple xs),st):=by
  rw[h0];show(evs (ev G n C) (kids e) st).bind _=_
  rw[h];show gd (decide (vs.length≤maxLen)) ((triV vs).elim ((rd0s vs).map _) _)=_
  rw[hl,ht];show(rd0s vs).map _=_
  rw[hx];rfl
theorem c_nx {f:Str} {F:Fn} {vs:List V} {ks:List (Str×V)} {o o':Objs} (st:St) (h0:call G (n+1) f vs ks o=(exs (ex G n ⟨F.scope,F.mv⟩) (F.body.drop 0) st).bind fun p=>p.1.val.map fun v=>(v,p.2.objs)) (h:Hd (exs (ex G n ⟨F.scope,F.mv⟩) (F.body.drop 0) st) fun p=>p.1= .next∧p.2.objs=o'):call G (n+1) f vs ks o=some (.d .none,o'):=by
  rw[h0];exact h.get fun p hp ⟨h1,h2⟩=>by
    rw[hp];show p.1.val.map _=_
    rw[h1,←h2];rfl
theorem APx {i:Nat} {xs:List PyData} {x:PyData} (h0:exs (ex G (n+2) C) (B.drop k) st=(((ev G n C (kd (kd (sE B k 0) 0) 0) st).bind fun p=>evMeth (fs G n) C p.1 "append" [kd (sE B k 0) 1] [] p.2).map fun p=>(Fl.next,p.2)).bind fun p=>bif p.1.isNext then exs (ex G (n+2) C) (B.drop (k+1)) p.2 else some p)
    (h1:ev G n C (kd (kd (sE B k 0) 0) 0) st=some (.hl i,st)) (hl:listAt st.objs i=some xs) (h:ev G n C (kd (sE B k 0) 1) st=some (v,st)) (hx:rd0 v=some x) (hn:decide (xs.length<maxLen)=true) (h2:Hd (exs (ex G (n+2) C) (B.drop (k+1)) (setCell i (.list (xs++[x])) st)) P):Hd (exs (ex G (n+2) C) (B.drop k) st) P:=
  AP (h0.trans (by rw[h1];rfl)) hl h hx hn h2
noncomputable def dE' (B:List Stmt) (k:Nat):Expr:=match st' B k with | .Delete (t::_) _=>t |_=>e0
theorem b_all {h:Nat} {xs old:List PyData} (h0:bind G (n+1) C e v st=(ev G n C (kd e 0) st).bind fun p=>p.1.obj?.elim (p.1.hl?.bind fun k=>bindSub (fs G n) C k (kd e 1) v p.2) fun k=>(ev G n C (kd e 1) p.2).bind fun q=>(objCall (fs G n) "Headers.__setitem__" k [q.1,v] q.2).map fun r=>r.2) (ha:isAll (kd e 1)=true) (h1:ev G n C (kd e 0) st=some (.hl h,st)) (hv:v= .fl xs) (hl:listAt st.objs h=some old) (hn:old.length+xs.length≤maxLen):bind G (n+1) C e v st=some (setCell h (.list xs) st):=by
  subst hv
  rw[h0,h1];show bindSub (fs G n) C h (kd e 1) (.fl xs) st=_
  unfold bindSub
  rw[ha];show(listAt st.objs h).bind _=_
  rw[hl];exact gd_t (decide_eq_true hn)
theorem oc {f:Str} {i:Nat} {vs:List V} {o':Objs} (hi:(instAt st.objs i).isSome=true) (hs:(vs.all fun v=>(asS v).isSome)=true) (hc:call G n f (.obj i::vs) [] st.objs=some (v,o')):objCall (fs G n) f i vs st=some (v,⟨st.vars,o'⟩):=by
  obtain⟨q,hq⟩:=Option.isSome_iff_exists.mp hi
  unfold objCall
  rw[hq];show gd (vs.all fun v=>(asS v).isSome) _=_
  rw[gd_t hs];show(call G n f (.obj i::vs) [] st.objs).map _=_
  rw[hc];rfl
theorem DL {i:Nat} {o':Objs} (h0:exs (ex G (n+1) C) (B.drop k) st=((ev G n C (kd (dE' B k) 0) st).bind fun p=>p.1.obj?.bind fun k=>(ev G n C (kd (dE' B k') 1) p.2).bind fun q=>(objCall (fs G n) "Headers.__delitem__" k [q.1] q.2).map fun r=>(Fl.next,r.2)).bind fun p=>bif p.1.isNext then exs (ex G (n+1) C) (B.drop (k+1)) p.2 else some p) (hk:k'=k)
    (h1:ev G n C (kd (dE' B k) 0) st=some (.obj i,st)) (h2:ev G n C (kd (dE' B k) 1) st=some (a,st)) (hi:(instAt st.objs i).isSome=true) (hs:(asS a).isSome=true) (hc:call G n "Headers.__delitem__" [.obj i,a] [] st.objs=some (v,o')) (h3:Hd (exs (ex G (n+1) C) (B.drop (k+1)) ⟨st.vars,o'⟩) P):Hd (exs (ex G (n+1) C) (B.drop k) st) P:=by
  subst hk
  rw[h0,h1];show Hd (((ev G n C (kd (dE' B k') 1) st).bind _).bind _) P
  rw[h2];show Hd (((objCall (fs G n) "Headers.__delitem__" i [a] st).map _).bind _) P
  rw[oc (f:="Headers.__delitem__") hi (by show((asS a).isSome&&true)=true;rw[hs];rfl) hc];exact h3
theorem b_ob {i:Nat} {o':Objs} {b:V} (h0:bind G (n+1) C e v st=(ev G n C (kd e 0) st).bind fun p=>p.1.obj?.elim (p.1.hl?.bind fun k=>bindSub (fs G n) C k (kd e 1) v p.2) fun k=>(ev G n C (kd e 1) p.2).bind fun q=>(objCall (fs G n) "Headers.__setitem__" k [q.1,v] q.2).map fun r=>r.2)
    (h1:ev G n C (kd e 0) st=some (.obj i,st)) (h2:ev G n C (kd e 1) st=some (a,st)) (hi:(instAt st.objs i).isSome=true) (hs:(asS a).isSome=true) (hv:(asS v).isSome=true) (hc:call G n "Headers.__setitem__" [.obj i,a,v] [] st.objs=some (b,o')):bind G (n+1) C e v st=some ⟨st.vars,o'⟩:=by
  rw[h0,h1];show(ev G n C (kd e 1) st).bind _=_
  rw[h2];show(objCall (fs G n) "Headers.__setitem__" i [a,v] st).map _=_
  rw[oc (f:="Headers.__setitem__") hi (by show((asS a).isSome&&((asS v).isSome&&true))=true;rw[hs,hv];rfl) hc];rfl
theorem x_ix {i:Nat} {o':Objs} (h0:ev G (n+1) C e st=evItem (fs G n) C (kd e 0) (kd e 1) st) (h1:ev G n C (kd e 0) st=some (.obj i,st)) (h2:ev G n C (kd e 1) st=some (a,st)) (hi:(instAt st.objs i).isSome=true) (hs:(asS a).isSome=true) (hc:call G n "Headers.__getitem__" [.obj i,a] [] st.objs=some (v,o')):ev G (n+1) C e st=some (v,⟨st.vars,o'⟩):=by
  rw[h0];show(ev G n C (kd e 0) st).bind _=_
  rw[h1];show(ev G n C (kd e 1) st).bind _=_
  rw[h2];exact oc (f:="Headers.__getitem__") hi (by show((asS a).isSome&&true)=true;rw[hs];rfl) hc
theorem x_ln {i m:Nat} {o':Objs} (h0:ev G (n+1) C e st=evBui (fs G n) C "len" (kids e).tail st) (h:evs (ev G n C) (kids e).tail st=some ([.obj i],st)) (hi:(instAt st.objs i).isSome=true) (hc:call G n "Headers.__len__" [.obj i] [] st.objs=some (.d (.int m),o')) (hm:m≤maxLen):ev G (n+1) C e st=some (.d (.int m),⟨st.vars,o'⟩):=by
  rw[h0];unfold evBui
  rw[show bTab.lookup ("len":Str)=some .len from bn_lk .len];show(evs (ev G n C) (kids e).tail st).bind _=_
  rw[h];show(objCall (fs G n) "Headers.__len__" i [] st).bind _=_
  rw[oc (f:="Headers.__len__") hi rfl hc];exact gd_t (decide_eq_true ⟨Int.natCast_nonneg m,Int.ofNat_le.mpr hm⟩)
end Mine
namespace L1
section
variable {n i h p:Nat} {a b w:List Nat} {o c:Objs} {es:List Ent} {σ:Str→Option V}
theorem instAt_app (h:instAt o i=some x):instAt (o++c) i=some x:=by
  unfold instAt at h ⊢
  obtain⟨a,ha,_⟩:=Option.bind_eq_some_iff.mp h
  rw[List.getElem?_append_left (List.getElem?_eq_some_iff.mp ha).1];exact h
theorem HA.app (H:HA o i h es):HA (o++c) i h es:=⟨instAt_app H.i,listAt_app H.l,H.n⟩
theorem HA.set {es':List Ent} (H:HA o i h es) (hl:es'.length≤1000):HA (o.set h (.list (es'.map entD))) i h es':=by
  have ne:i≠h:=fun q=>by subst q;have h1:=H.i;have h2:=H.l;unfold instAt at h1;unfold Mine.listAt at h2;revert h1 h2;cases o[i]? with |none=>exact nofun |some c=>cases c<;>(intro h1 h2;first |exact nomatch (show none=some _ from h1) |exact nomatch (show none=some _ from h2))
  have lt:h<o.length:=by have h2:=H.l;unfold Mine.listAt at h2;obtain⟨a,ha,_⟩:=Option.bind_eq_some_iff.mp h2;exact(List.getElem?_eq_some_iff.mp ha).1
  refine⟨?_,?_,hl⟩
  · have:=H.i;unfold instAt at this ⊢;rw[List.getElem?_set_ne (Ne.symm ne)];exact this
  · unfold Mine.listAt;rw[List.getElem?_set_self lt];rfl
noncomputable def delE (w:List Nat) (es:List Ent):List Ent:=es.filter fun p=> !sH w p
theorem del_len:(delE w es).length≤es.length:=List.length_filter_le ..
noncomputable def wr (o:Objs) (h:Nat) (es:List Ent):Objs:=o.set h (.list (es.map entD))
theorem wr_wr {es':List Ent}:wr (wr o h es) h es'=wr o h es':=List.set_set ..
noncomputable def CD:Cx:=Cf F_H_delitem
theorem del_1 (H:HA o i h es) (hn:∀p∈es,p.1.length≤1000):ev G (n+30) CD (sE F_H_delitem.body 1 0) (S NA (LA i w) z0 o)=some (.fl ((delE w es).map entD),S NA (LA i w) z0 o):=
  x_fit (N:=[".0","kv","name"]) (.cell h) es entD (fun p=> !sH w p) (fun p=> .d (entD p)) entD [("name",tx w)] (fun p=>[("kv",.d (entD p)),("name",tx w)]) z0 ⋯ (i_hd ⋯ (x_hd ⋯ ⋯ H) H) ⋯ H.it ⋯ (decide_eq_true H.n) ⋯ (fun _ _ _=>⋯) (fun _ _=>⋯)
    (fun p σ hp=>a_1 (t_cmp .NotEq (b:=tx w) ⋯ (x_low p.1 ⋯ (hn p hp)) ⋯ ⋯)) (fun _ _ _ _=>⋯) (fun _ _=>⋯)
theorem del_spec (H:HA o i h es) (hn:∀p∈es,p.1.length≤1000) (h1:w.length≤1000) (h2:okW (lowW w)=true):call G (n+35) "Headers.__delitem__" [.obj i,tx w] [] o=some (.d .none,wr o h (delE (lowW w) es)):=
  c_nx (F:=F_H_delitem) (S NA (LA i w) z0 o) ⋯ (A (C:=CD) (B:=F_H_delitem.body) (k:=0) (tx (lowW w)) (S NA (LA i (lowW w)) z0 o) ⋯ (nm_low CD ⋯ ⋯ H ⋯ ⋯ h1 h2) ⋯
    (AT (.fl ((delE (lowW w) es).map entD)) ⋯ (del_1 H hn) (b_all ⋯ ⋯ (x_hd ⋯ ⋯ H) rfl H.l (by rw[List.length_map,List.length_map];exact Nat.le_trans (Nat.add_le_add H.n (Nat.le_trans del_len H.n)) (by decide))) (.of (a:=(.next,S NA (LA i (lowW w)) z0 (wr o h (delE (lowW w) es)))) ⋯ ⟨rfl,rfl⟩)))
end
end L1
end
section
open PySem PySem.W Mine V02
namespace Mine
variable {G:Env'} {n:Nat} {C:Cx} {v a:V} {st:St} {e:Expr} {P:Fl×St→Prop} {B:List Stmt} {k:Nat}
theorem b_at {i h:Nat} (h0:bind G (n+1) C e v st=(ev G n C (kd e 0) st).bind fun p=>p.1.obj?.bind fun i=>v.hl?.bind fun h=>(instAt p.2.objs i).bind fun k=>gd k.isNone (some (setCell i (.inst (some h)) p.2))) (h1:ev G n C (kd e 0) st=some (.obj i,st)) (hv:v.hl?=some h) (hi:instAt st.objs i=some none):bind G (n+1) C e v st=some (setCell i (.inst (some h)) st):=by
  rw[h0,h1];show(v.hl?.bind fun h=>(instAt st.objs i).bind _)=_
  rw[hv];show(instAt st.objs i).bind _=_
  rw[hi];rfl
theorem x_new {vs:List V} {o':Objs} (h0:ev G (n+1) C e st=evNew (fs G n) C (kids e).tail st) (h:evs (ev G n C) (kids e).tail st=some (vs,st)) (hc:call G n "Headers.__init__" (.obj st.objs.length::vs) [] (st.objs++[.inst none])=some (.d .none,o')):ev G (n+1) C e st=some (.obj st.objs.length,⟨st.vars,o'⟩):=by
  rw[h0];show(evs (ev G n C) (kids e).tail st).bind _=_
  rw[h];show(call G n "Headers.__init__" (.obj st.objs.length::vs) [] (st.objs++[.inst none])).bind _=_
  rw[hc];rfl
end Mine
namespace L1
noncomputable def NS:List Str:=["self","name","val"]
noncomputable def LS (i:Nat) (a b:List Nat):List (Str×V):=[("self",.obj i),("name",tx a),("val",tx b)]
noncomputable def ND:List Str:=["self","name","value","result"]
noncomputable def LD (i:Nat) (a b:List Nat):List (Str×V):=[("self",.obj i),("name",tx a),("value",tx b)]
section
variable {n i h p:Nat} {a b w:List Nat} {o c:Objs} {es:List Ent} {σ:Str→Option V}
theorem lt_max {n:Nat} (h:n<1000):decide (n<maxLen)=true:=decide_eq_true (Nat.lt_trans h (by decide))
theorem mapA {α β:Type} {f:α→β} {l:List α} {x:α}:l.map f++[f x]=(l++[x]).map f:=(List.map_append (f:=f) (l₁:=l) (l₂:=[x])).symm
theorem set_spec (H:HA o i h es) (hn:∀p∈es,p.1.length≤1000) (hl:es.length<1000) (h1:a.length≤1000) (h2:okW (lowW a)=true) (ha:okW a=true) (hb:okW b=true):call G (n+60) "Headers.__setitem__" [.obj i,tx a,tx b] [] o=some (.d .none,wr o h (delE (lowW a) es++[(a,b)])):=by
  have H':=H.set (es':=delE (lowW a) es) (Nat.le_trans del_len H.n)
  refine c_nx (F:=F_H_setitem) (S NS (LS i a b) z0 o) ⋯ (DL (C:=Cf F_H_setitem) (B:=F_H_setitem.body) (k:=0) (k':=0) (a:=tx a) ⋯ rfl ⋯ ⋯ H.is rfl (del_spec H hn h1 h2)
    (APx (v:= .d (entD (a,b))) (i:=h) (xs:=(delE (lowW a) es).map entD) (x:=entD (a,b)) ⋯ (x_hd ⋯ ⋯ H') H'.l (x_tup ⋯ (evs_c (x_cv e0 a true ⋯ ⋯ H'.is ⋯ ha) (evs1 (x_cv e0 b false ⋯ ⋯ H'.is ⋯ hb))) ⋯ ⋯ ⋯) ⋯ (lt_max (Nat.lt_of_le_of_lt (Nat.le_trans (Nat.le_of_eq (List.length_map ..)) del_len) hl))
    (.of (a:=(.next,setCell h (.list ((delE (lowW a) es).map entD++[entD (a,b)])) (S NS (LS i a b) z0 (wr o h (delE (lowW a) es))))) ⋯ ⟨rfl,?_⟩)))
  exact(congrArg (fun l=>(wr o h (delE (lowW a) es)).set h (.list l)) mapA).trans wr_wr
theorem values_spec (H:HA o i h es):call G (n+20) "Headers.values" [.obj i] [] o=some (.fl (es.map fun p=>txtD p.2),o):=
  c_eq (F:=F_H_values) (S ["self"] [("self",.obj i)] z0 o) ⋯ (R (C:=Cf F_H_values) (B:=F_H_values.body) (k:=0) ⋯
    (x_mit (N:=[".0","k","v"]) (.cell h) es entD (fun p=>tx p.2) (fun p=>txtD p.2) [] (fun p=>[("k",tx p.1),("v",tx p.2)]) z0 ⋯ (i_hd ⋯ (x_hd ⋯ ⋯ H) H) ⋯ H.it ⋯ (decide_eq_true H.n) ⋯ (fun _ _ _=>⋯) (fun _ _=>⋯) ⋯ (fun _ _ _=>⋯) (fun _ _=>⋯)) ⟨rfl,rfl⟩)
theorem sl_all {xs:List PyData} (h:Mine.listAt o p=some xs) (hl:xs.length≤1000):sliceV o (.hl p) none none none=some (.fl xs):=by
  have e:sliceL xs none none=xs:=List.take_of_length_le (Nat.le_refl _)
  show(((Mine.listAt o p).map PyData.list).bind lst?).bind _=_
  rw[h];show gd (decide (xs.length≤maxLen)) (some (V.fl (sliceL xs none none)))=_
  rw[e,maxL hl];rfl
theorem items_spec (H:HA o i h es):call G (n+20) "Headers.items" [.obj i] [] o=some (.fl (es.map entD),o):=
  c_eq (F:=F_H_items) (S ["self"] [("self",.obj i)] z0 o) ⋯ (R (C:=Cf F_H_items) (B:=F_H_items.body) (k:=0) ⋯ (x_slice (lo:=none) (hi:=none) (sp:=none) ⋯ (x_hd ⋯ ⋯ H) ⋯ ⋯ ⋯ (sl_all H.l (Nat.le_trans (Nat.le_of_eq (List.length_map ..)) H.n))) ⟨rfl,rfl⟩)
theorem len_spec (H:HA o i h es):call G (n+20) "Headers.__len__" [.obj i] [] o=some (ii es.length,o):=
  c_eq (F:=F_H_len) (S ["self"] [("self",.obj i)] z0 o) ⋯ (R (C:=Cf F_H_len) (B:=F_H_len.body) (k:=0) ⋯ (x_bui .len ⋯ (evs1 (x_hd ⋯ ⋯ H)) ((len_hl H.l (Nat.le_trans (Nat.le_of_eq (List.length_map ..)) H.n)).trans (by rw[List.length_map]))) ⟨rfl,rfl⟩)
theorem item_spec (H:HA o i h es) (hn:∀p∈es,p.1.length≤1000) (h1:w.length≤1000) (h2:okW (lowW w)=true):call G (n+40) "Headers.__getitem__" [.obj i,tx w] [] o=some (fndV (es.find? (sH (lowW w))),o):=
  c_eq (F:=F_H_getitem) (S NA (L1.LA i w) z0 o) ⋯ (R (C:=Cf F_H_getitem) (B:=F_H_getitem.body) (k:=0) ⋯ (x_ob i "get" "Headers.get" ⋯ ⋯ H.is (evs1 ⋯) ⋯ (get_spec H hn h1 h2)) ⟨rfl,rfl⟩)
noncomputable def CS':Cx:=Cf F_H_setdefault
noncomputable def BS':List Stmt:=F_H_setdefault.body
theorem setd_spec (H:HA o i h es) (hn:∀p∈es,p.1.length≤1000) (hl:es.length<1000) (h1:a.length≤1000) (h2:okW (lowW a)=true) (ha:okW a=true) (hb:okW b=true) {r:Option Ent} (hr:es.find? (sH (lowW a))=r):call G (n+60) "Headers.setdefault" [.obj i,tx a,tx b] [] o=some (r.elim (tx b,wr o h (es++[(a,b)])) fun p=>(tx p.2,o)):=by
  cases r with
  | none=>
    refine c_eq (F:=F_H_setdefault) (S ND (LD i a b) z0 o) ⋯ (A (C:=CS') (B:=BS') (k:=0) (.d .none) (S ND (("result",.d .none)::LD i a b) z0 o) ⋯ (x_ob i "get" "Headers.get" ⋯ ⋯ H.is (evs1 ⋯) ⋯ ((get_spec H hn h1 h2).trans (by rw[hr];rfl))) ⋯ (I true ⋯ ⋯ (fun _=>APx (v:= .d (entD (a,b))) (i:=h) (xs:=es.map entD) (x:=entD (a,b)) ⋯ (x_hd ⋯ ⋯ H) H.l (x_tup ⋯ (evs_c (x_cv e0 a true ⋯ ⋯ H.is ⋯ ha) (evs1 (x_cv e0 b false ⋯ ⋯ H.is ⋯ hb))) ⋯ ⋯ ⋯) ⋯ (lt_max (Nat.lt_of_le_of_lt (Nat.le_of_eq (List.length_map ..)) hl)) ?_) tf))
    exact .of (a:=(.ret (tx b),setCell h (.list (es.map entD++[entD (a,b)])) (S ND (("result",.d .none)::LD i a b) z0 o))) ⋯ (Nx.r ⟨rfl,congrArg (fun l=>o.set h (.list l)) mapA⟩)
  |some p=>exact c_eq (F:=F_H_setdefault) (S ND (LD i a b) z0 o) ⋯ (A (C:=CS') (B:=BS') (k:=0) (tx p.2) (S ND (("result",tx p.2)::LD i a b) z0 o) ⋯ (x_ob i "get" "Headers.get" ⋯ ⋯ H.is (evs1 ⋯) ⋯ ((get_spec H hn h1 h2).trans (by rw[hr];rfl))) ⋯ (I false ⋯ ⋯ ft fun _=> .of (a:=(.ret (tx p.2),S ND (("result",tx p.2)::LD i a b) z0 o)) ⋯ (Nx.r ⟨rfl,rfl⟩)))
end
end L1
end
section
open PySem PySem.W Mine V02
namespace L1
noncomputable def NI:List Str:=["self","headers","k","v"]
noncomputable def BI':List Stmt:=F_H_init.body
noncomputable def CI:Cx:=Cf F_H_init
noncomputable def LI (i h:Nat):List (Str×V):=[("self",.obj i),("headers",.hl h)]
section
variable {n i h:Nat} {o:Objs} {es:List Ent} {k:Option Nat}
theorem inst_end:instAt (o++[.inst k]) o.length=some k:=by unfold instAt;rw[List.getElem?_append_right (Nat.le_refl _),Nat.sub_self];rfl
theorem HA.new (hl:Mine.listAt o h=some (es.map entD)) (h1:es.length≤1000):HA (o++[.inst (some h)]) o.length h es:=⟨inst_end,listAt_app hl,h1⟩
theorem init_spec (hl:Mine.listAt o h=some (es.map entD)) (h1:es.length≤1000) (hx:∀p∈es,okW p.1=true∧okW p.2=true):call G (n+55) "Headers.__init__" [.obj o.length,.hl h] [] (o++[.inst none])=some (.d .none,o++[.inst (some h)]):=by
  have H:=HA.new hl h1
  refine c_nx (F:=F_H_init) (S NI (LI o.length h) z0 (o++[.inst none])) ⋯ (Ks (C:=CI) (B:=BI') (k:=0) 1 (S NI (LI o.length h) z0 (o++[.inst none])) ⋯ ?_)
  refine IR false ⋯ (t_cmp .IsNot (a:= .ty "list") (b:= .ty "list") ⋯ (x_bui .type ⋯ (evs1 (v:= .hl h) ⋯) (by show(((Mine.listAt (o++[.inst none]) h).map PyData.list).bind lst?).map _=_;rw[listAt_app hl];rfl)) ⋯ ⋯) ft fun _=>?_
  refine AT (st2:=S NI (LI o.length h) z0 (o++[.inst (some h)])) (.hl h) ⋯ (st1:=S NI (LI o.length h) z0 (o++[.inst none])) ⋯ ((b_at (i:=o.length) (st:=S NI (LI o.length h) z0 (o++[Cell.inst none])) ⋯ ⋯ ⋯ (inst_end (o:=o) (k:=none))).trans (congrArg (fun o'=>some (S NI (LI o.length h) z0 o')) (set_end (c:= .inst none) (d:= .inst (some h))))) ?_
  refine I true ⋯ ⋯ (fun _=>?_) tf
  refine FI (N:=NI) (.cell h) (fun _=>True) es.length (fun j=>entD (ent es j)) (fun _=>LI o.length h) (fun j=>("k",tx (ent es j).1)::("v",tx (ent es j).2)::LI o.length h) (fun _=>o++[.inst (some h)]) (for_h ⋯) ⋯ (fun j=>(H.it j).trans (congrArg (fun l=>some l[j]?) range_map.symm)) (i_val ⋯ (v:= .hl h) ⋯ (by show(Mine.listAt (o++[.inst (some h)]) h).map _=_;rw[H.l];rfl)) (maxL h1) (σ:=z0) ⋯ trivial (fun _ _ _=>⋯) (fun j σ lt _=>?_)
      fun σ _=> .of (a:=(.next,S NI (LI o.length h) σ (o++[.inst (some h)]))) ⋯ (Nx.i ?_)
  · obtain⟨q1,q2⟩:=hx (ent es j) (by unfold ent;rw[List.getD_eq_getElem?_getD,List.getElem?_eq_getElem lt];exact List.getElem_mem lt)
    exact E1 ⋯ (x_cv e0 (ent es j).1 true ⋯ ⋯ H.is ⋯ q1) (E1 ⋯ (x_cv e0 (ent es j).2 false ⋯ ⋯ H.is ⋯ q2) (.of (a:=(.next,S NI (LI o.length h) (ovs (("k",tx (ent es j).1)::("v",tx (ent es j).2)::LI o.length h) σ) (o++[.inst (some h)]))) ⋯ (.inl ⟨rfl,trivial,_,rfl⟩)))
  · exact .of (a:=(.next,S NI (LI o.length h) σ (o++[.inst (some h)]))) ⋯ ⟨rfl,rfl⟩
end
end L1
end
section
open PySem PySem.W Mine V02
namespace Mine
section
variable {G:Env'} {n:Nat} {C:Cx} {v a b:V} {st st1 st2:St} {e:Expr} {P:Fl×St→Prop} {B:List Stmt} {k:Nat} {vs:List V} {o:Objs}
theorem evs_s {f:Expr→St→Option (V×St)} {es} (h:f e st=some (v,st1)) (h2:evs f es st1=some (vs,st2)):evs f (e::es) st=some (v::vs,st2):=by
  show(f e st).bind _=_
  rw[h];show(evs f es st1).map _=_
  rw[h2];rfl
theorem x_bo (op:Operator) {a b} (h0:ev G (n+1) C e st=evBin (fs G n) C (kd e 0) op (kd e 1) st) (h1:ev G n C (kd e 0) st=some (a,st)) (h2:ev G n C (kd e 1) st=some (b,st)) (hv:binop st.objs op a b=some v):ev G (n+1) C e st=some (v,st):=by
  rw[h0];show(ev G n C (kd e 0) st).bind _=_
  rw[h1];show(ev G n C (kd e 1) st).bind _=_
  rw[h2];show(binop st.objs op a b).map _=_
  rw[hv];rfl
theorem x_pm (p:PyData→Option PyData) {x y:PyData} (h0:ev G (n+9) C e st=evPrim (fs G (n+8)) C (n+8) p (kids e).tail st) (h:evs (ev G (n+8) C) (kids e).tail st=some ([.d x],st)) (hp:p x=some y):ev G (n+9) C e st=some (.d y,st):=by
  rw[h0];show(evs (ev G (n+8) C) (kids e).tail st).bind _=_
  rw[h];show gd (decide (8≤n+8)) ((p x).map _)=_
  rw[gd_t (decide_eq_true (Nat.le_add_left 8 n)),hp];rfl
theorem AQ (r:Bool) (vs:List V) (h0:exs (ex G (n+2) C) (B.drop k) st=((evs (ev G (n+1) C) (kids (sE B k 0)) st).bind fun p=>gd (decide (p.1.length=(kids (sE B k 1)).length∧p.1.length≤maxLen)) ((bindAll (bind G (n+1) C) (bif r then((kids (sE B k 1)).zip p.1).reverse else(kids (sE B k 1)).zip p.1) p.2).map fun st=>(Fl.next,st))).bind fun p=>bif p.1.isNext then exs (ex G (n+2) C) (B.drop (k+1)) p.2 else some p)
    (h:evs (ev G (n+1) C) (kids (sE B k 0)) st=some (vs,st1)) (hb:gd (decide (vs.length=(kids (sE B k 1)).length∧vs.length≤maxLen)) ((bindAll (bind G (n+1) C) (bif r then((kids (sE B k 1)).zip vs).reverse else(kids (sE B k 1)).zip vs) st1).map fun st=>(Fl.next,st))=some (Fl.next,st2)) (h2:Hd (exs (ex G (n+2) C) (B.drop (k+1)) st2) P):Hd (exs (ex G (n+2) C) (B.drop k) st) P:=by
  rw[h0,h];show Hd ((gd (decide (vs.length=(kids (sE B k 1)).length∧vs.length≤maxLen)) _).bind _) P
  rw[hb];exact h2
end
end Mine
namespace L1
theorem gDa {α β:Type} {d:α} {f:α→β} {l:List α} {j:Nat} (h:j<l.length):(l.map f)[j]?=some (f (l.getD j d)):=by rw[List.getElem?_map,List.getD_eq_getElem?_getD,List.getElem?_eq_getElem h];rfl
theorem itF {o:Objs} {xs:List PyData} {x:PyData} {i:Int} {j:Nat} (h:idx? i xs.length=some j) (hx:xs[j]?=some x):itemV o (.fl xs) i=some (.d x):=by
  show(idx? i xs.length).bind _=_
  rw[h];show(xs[j]?).map _=_
  rw[hx];rfl
theorem addL {o:Objs} {xs ys:List PyData} (h:xs.length+ys.length≤1000000):binop o .Add (.d (.list xs)) (.fl ys)=some (.fl (xs++ys)):=gd_t (decide_eq_true h)
theorem ltb (a b:Nat):decide ((a:Int)<b)=Nat.blt a b:=by
  cases q:Nat.blt a b with
  |true=>exact decide_eq_true (Int.ofNat_lt.mpr (Nat.le_of_ble_eq_true q))
  |false=>exact decide_eq_false fun h=>by rw[show Nat.blt a b=true from Nat.ble_eq_true_of_le (Int.ofNat_lt.mp h)]at q;exact tf q
noncomputable def isB1 (c:Nat):Bool:=b1I.any fun p=>p.1==(c:Int)
theorem bA {a b:Bool} (h:(a&&b)=true):a=true∧b=true:=Bool.and_eq_true _ _ ▸ h
theorem lowerOf_len (c:Nat):(Unicode.lowerOf c).length≤2:=by
  by_cases h4:c=304
  · subst h4;decide+kernel
  · rw[low_none h4];exact Nat.le_succ 1
theorem vals_len:(b3N.all fun p=>Nat.ble p.2.length 10)=true:=by decide+kernel
theorem M_len (c:Nat):(M c).length≤10:=by
  unfold M
  cases hl:b3N.lookup c with
  |none=>exact Nat.le_trans (lowerOf_len c) (by decide)
  |some l=>exact Nat.le_of_ble_eq_true (List.all_eq_true.mp vals_len _ (mem_lookN hl))
theorem flat_len:∀w:List Nat,(w.flatMap M).length≤10 * w.length
  |[]=>Nat.le_refl 0
  | c::w=>by
    rw[List.flatMap_cons,List.length_append,List.length_cons,Nat.mul_succ,Nat.add_comm]
    exact Nat.add_le_add (flat_len w) (M_len c)
theorem map_c {α β γ:Type} {g:β→γ} {f:α→β} (t:List α):(t.map fun c=>g (f c))=(t.map f).map g:=by rw[List.map_map];rfl
noncomputable def noiseL:List Nat:=[173,847,6150,6155,6156,6157,8203,8204,8205,8288,65279,65024,65025,65026,65027,65028,65029,65030,65031,65032,65033,65034,65035,65036,65037,65038,65039]
noncomputable def offN (u:Nat):Nat:=bif Nat.blt u 55296 then 0 else 2048
noncomputable def codeN (f:Int):Nat:=md f 1112064+offN (md f 1112064)
noncomputable def SgN:List Str:=[".0","sign"]
noncomputable def preW (w:List Nat):List Nat:=(w.filter fun c=> !isB1 c).flatMap M
theorem preW_len {w:List Nat} (h:w.length≤1000):(preW w).length≤10000:=Nat.le_trans (flat_len _) (Nat.mul_le_mul_left 10 (Nat.le_trans (List.length_filter_le ..) h))
section
variable {n:Nat} {o:Objs}
theorem noise_spec:call G (n+20) "_law_noise" [] [] o=some (.fl (natD noiseL),o):=⋯
theorem any_aux {x:Int} {y z:PyData} (b:Bool) (e:binop o .Mod (ii x) (ii 1112064)=some (.d y)) (h2:cmpop o .Lt (.d y) (ii 55296)=some b) (h3:binop o .Add (.d y) (ii 2048)=some (.d z)):call G (n+20) "_law_any" [ii x] [] o=some (.d (bif b then y else z),o):=by
  refine c_eq (F:=F_law_any) (S ["number","code"] [("number",ii x)] z0 o) ⋯ ?_
  refine A (C:=Cf F_law_any) (B:=F_law_any.body) (k:=0) (.d y) (S ["number","code"] [("number",ii x),("code",.d y)] z0 o) ⋯ (x_bo .Mod ⋯ ⋯ ⋯ e) ⋯ ?_
  cases b with
  |true=>exact R (v:= .d y) (st1:=S ["number","code"] [("number",ii x),("code",.d y)] z0 o) ⋯ (x_ife true ⋯ (t_cmp .Lt ⋯ ⋯ ⋯ h2) (fun _=>⋯) nofun) ⟨rfl,rfl⟩
  |false=>exact R (v:= .d z) (st1:=S ["number","code"] [("number",ii x),("code",.d y)] z0 o) ⋯ (x_ife false ⋯ (t_cmp .Lt ⋯ ⋯ ⋯ h2) nofun fun _=>x_bo .Add ⋯ ⋯ ⋯ h3) ⟨rfl,rfl⟩
theorem any_spec {x:Int}:call G (n+20) "_law_any" [ii x] [] o=some (ii (codeN x),o):=by
  have e:binop o .Mod (ii x) (ii 1112064)=some (ii (md x 1112064)):=modV (o:=o) (x:=x) (n:=1112064) (by decide)
  unfold codeN offN
  generalize md x 1112064=m at e ⊢
  rw[any_aux (z:= .int (m+2048:Nat)) (Nat.blt m 55296) e (congrArg some (ltb m 55296)) rfl]
  cases Nat.blt m 55296<;>rfl
theorem prep_spec {w:List Nat} (hw:w.length≤1000):call G (n+40) "_law_prepared" [tx w] [] o=some (tx (preW w),o):=by
  refine c_eq (F:=F_law_prepared) (S ["text"] [("text",tx w)] z0 o) ⋯ (R (C:=Cf F_law_prepared) (B:=F_law_prepared.body) (k:=0) ⋯ (x_mt [] "join" ⋯ ⋯
    (x_filt (N:=SgN) w strD (fun c=> !isB1 c) (fun c=>tx (M c)) (fun c=>txtD (M c)) [] (fun c=>[("sign",tx [c])]) z0 ⋯ ⋯ ⋯ (decide_eq_true hw) ⋯ (fun _ _ _=>⋯) (fun _ _=>⋯)
      (fun c σ _=>a_1 (t_not ⋯ (t_val (v:= .d (.bool (isB1 c))) ⋯ (x_pm prim1 (x:=strD c) (y:= .bool (isB1 c)) ⋯ ⋯ rfl) ⋯))) (fun c σ _ _=>x_pm prim3 (x:=strD c) (y:=txtD (M c)) ⋯ ⋯ (prim3_spec c)) (fun _ _=>⋯))
    ((congrArg (fun l=>callM o (mkS []) "join" [V.fl l]) (map_c (g:=txtD) (f:=M) _)).trans ((join_ok (ws:=(w.filter fun c=> !isB1 c).map M) ?_).trans rfl))) ⟨rfl,rfl⟩)
  exact Nat.le_trans (preW_len hw) (by decide)
end
end L1
end
section
open PySem PySem.W Mine V02
namespace Mine
section
variable {G:Env'} {n:Nat} {C:Cx} {v a:V} {st:St} {e:Expr}
theorem x_dg (tab:List (Str×Str)) (k d:List Nat) (ap cp:Pos) (args:List Expr) (h0:ev G (n+1) C e st=evDGet (fs G n) C tab "get" ap args [] cp st) (hg:(ap.endLine==cp.line&&("get":Str)==("get":Str)&&dctOk tab&&decide (tab.length≤5∧tab.length≠0))=true) (h:evs (ev G n C) args st=some ([L1.tx k,L1.tx d],st)):ev G (n+1) C e st=some (.d (.str ((tab.lookup (mkS k)).getD (mkS d))),st):=by
  rw[h0];unfold evDGet
  rw[gd_t hg];show(evs (ev G n C) args st).bind _=_
  rw[h];rfl
noncomputable def apE:Expr→Pos | .Call (.Attribute _ _ p) _ _ _=>p |_=>default
noncomputable def cpE:Expr→Pos | .Call _ _ _ p=>p |_=>default
end
end Mine
namespace L1
noncomputable def BP:List Stmt:=F_law_piece.body
noncomputable def CP:Cx:=Cf F_law_piece
noncomputable def NP:List Str:=["letter","number","bases","kind","rest","place","twin","ahead"]
noncomputable def basL:List Nat:=[119808,119860,119912,120016,120172,120224,120276,120328,120380,120432]
noncomputable def twT:List (Str×Str):=[("f","ﬀ"),("s","ß"),("k","㏍")]
noncomputable def twN (l:Nat):List Nat:=strL ((twT.lookup (mkS [97+l])).getD (mkS []))
noncomputable def kdN (x:Int):Nat:=md x 4
noncomputable def rsN (x:Int):Int:=x.fdiv 4
noncomputable def nzN (x:Int):Nat:=noiseL.getD (md ((rsN x).fdiv 30) 27) 0
noncomputable def ahN (x:Int):List Nat:=bif md ((rsN x).fdiv 10) 3==0 then[nzN x]else[]
noncomputable def fmL (l:Nat) (x:Int):List Nat:=[97+l,65+l,basL.getD (md (rsN x) 10) 0+l,97+l]
noncomputable def twB (l:Nat) (x:Int):Bool:=kdN x==3&& !(twN l==[])
noncomputable def pcN (l:Nat) (x:Int):List Nat×List Nat:=bif twB l x then(ahN x++twN l,[97+l,97+l])else(ahN x++[(fmL l x).getD (kdN x) 0],[97+l])
noncomputable def P0 (l:Nat) (x:Int):List (Str×V):=[("letter",tx [97+l]),("number",ii x)]
noncomputable def P1 (l:Nat) (x:Int):List (Str×V):=("bases",.d (.list (natD basL)))::("kind",ii (kdN x))::("rest",ii (rsN x))::("place",ii l)::P0 l x
noncomputable def P2 (l:Nat) (x:Int):List (Str×V):=("twin",tx (twN l))::P1 l x
noncomputable def P3 (l:Nat) (x:Int):List (Str×V):=("ahead",tx (ahN x))::P2 l x
noncomputable def twoD (p:List Nat×List Nat):PyData:= .list [txtD p.1,txtD p.2]
section
variable {n l:Nat} {x:Int} {o:Objs}
theorem nz_mem:nzN x∈noiseL:=by
  have lt:md ((rsN x).fdiv 30) 27<noiseL.length:=md_lt (by decide)
  unfold nzN;rw[List.getD_eq_getElem?_getD,List.getElem?_eq_getElem lt];exact List.getElem_mem _
theorem nz_at:(natD noiseL)[md ((rsN x).fdiv 30) 27]?=some (.int (nzN x)):=gDf (f:=elI) (l:=noiseL) (md_lt (by decide))
theorem eq_nat {o:Mine.Objs} (a b:Nat):cmpop o .Eq (ii a) (ii b)=some (a==b):=by
  show gd (okD (.int a)&&okD (.int b)) (some (PyData.eqv (.int a) (.int b)))=_
  rw[gd_t ⋯]
  refine congrArg some (Bool.eq_iff_iff.mpr ?_)
  simp[PyData.eqv]
  omega
theorem pc1 {P:Fl×St→Prop} (h:Hd (exs (ex G (n+40) CP) (BP.drop 2) (S NP (P1 l x) z0 o)) P):Hd (exs (ex G (n+40) CP) (BP.drop 0) (S NP (P0 l x) z0 o)) P:=
  Ks 1 (S NP (("bases",.d (.list (natD basL)))::P0 l x) z0 o) ⋯ (AQ true [ii (kdN x),ii (rsN x),ii l] ⋯ (evs_c (x_bo .Mod (a:=ii x) (b:=ii (4:Nat)) ⋯ ⋯ ⋯ (modV (by decide))) (evs_c (x_bo .FloorDiv (a:=ii x) (b:=ii 4) ⋯ ⋯ ⋯ ⋯) (evs1 (x_bo .Sub (a:=ii (97+l:Nat)) (b:=ii 97) ⋯ (x_bui .ord ⋯ (evs1 (v:=tx [97+l]) ⋯) ⋯) ⋯ (congrArg (fun z=>some (ii z)) (show((97+l:Nat):Int) - 97=l by omega)))))) ⋯ h)
theorem pc2 {P:Fl×St→Prop} (h:Hd (exs (ex G (n+40) CP) (BP.drop 3) (S NP (P2 l x) z0 o)) P):Hd (exs (ex G (n+40) CP) (BP.drop 2) (S NP (P1 l x) z0 o)) P:=
  A (tx (twN l)) (S NP (P2 l x) z0 o) ⋯ (x_dg twT [97+l] [] (apE (sE BP 2 0)) (cpE (sE BP 2 0)) (kids (sE BP 2 0)).tail ⋯ ⋯ (evs_c ⋯ (evs1 ⋯))) ⋯ h
theorem noise_c {z:Nat} (h:z∈noiseL):z≤1114111:=of_decide_eq_true (List.all_eq_true.mp (show(noiseL.all fun c=>decide (c≤1114111))=true by decide) _ h)
theorem pc3 {P:Fl×St→Prop} (h:Hd (exs (ex G (n+40) CP) (BP.drop 4) (S NP (P3 l x) z0 o)) P):Hd (exs (ex G (n+40) CP) (BP.drop 3) (S NP (P2 l x) z0 o)) P:=by
  refine A (tx (ahN x)) (st1:=S NP (P2 l x) z0 o) (S NP (P3 l x) z0 o) ⋯ (x_ife (md ((rsN x).fdiv 10) 3==0) ⋯ (t_cmp .Eq (a:=ii (md ((rsN x).fdiv 10) 3)) (b:=ii (0:Nat)) ⋯ (x_bo .Mod (a:=ii ((rsN x).fdiv 10)) (b:=ii (3:Nat)) ⋯ (x_bo .FloorDiv (a:=ii (rsN x)) (b:=ii 10) ⋯ ⋯ ⋯ ⋯) ⋯ (modV (by decide))) ⋯ (eq_nat _ _)) (fun q=>?_) fun q=>?_) ⋯ h
  · unfold ahN;rw[q]
    exact x_bui .chr ⋯ (evs1 (v:=ii (nzN x)) (x_item (w:= .fl (natD noiseL)) (j:=md ((rsN x).fdiv 30) 27) ⋯ (x_fn (vs:=[]) "_law_noise" ⋯ ⋯ noise_spec) (x_bo .Mod (a:=ii ((rsN x).fdiv 30)) (b:=ii (27:Nat)) ⋯ (x_bo .FloorDiv (a:=ii (rsN x)) (b:=ii 30) ⋯ ⋯ ⋯ ⋯) ⋯ (modV (by decide))) (itF (idx_nat (md_lt (by decide)) (show 27≤1000 by decide)) nz_at))) (chrV (noise_c nz_mem))
  · unfold ahN;rw[q];rfl'
theorem ne_tx {w:List Nat}:cmpop o .NotEq (tx w) (tx [])=some (!(w==[])):=rfl
theorem tw_len:((List.range 26).all fun l=>Nat.ble (twN l).length 1000)=true:=by decide+kernel
theorem ba_le:(basL.all fun b=>Nat.ble b 120432)=true:=by decide
theorem piece_spec (hl:l<26):call G (n+42) "_law_piece" [tx [97+l],ii x] [] o=some (.fl [txtD (pcN l x).1,txtD (pcN l x).2],o):=by
  have hf:kdN x<4:=md_lt (by decide)
  have ha:(ahN x).length≤1:=by unfold ahN;cases md ((rsN x).fdiv 10) 3==0;exact Nat.zero_le 1;exact Nat.le_refl 1
  have ht:(twN l).length≤1000:=Nat.le_of_ble_eq_true (List.all_eq_true.mp tw_len l (List.mem_range.mpr hl))
  have hb:basL.getD (md (rsN x) 10) 0≤120432:=by
    have lt:md (rsN x) 10<basL.length:=md_lt (by decide)
    rw[List.getD_eq_getElem?_getD,List.getElem?_eq_getElem lt];exact Nat.le_of_ble_eq_true (List.all_eq_true.mp ba_le _ (List.getElem_mem lt))
  refine c_eq (F:=F_law_piece) (S NP (P0 l x) z0 o) ⋯ (pc1 (pc2 (pc3 ?_)))
  refine IR (twB l x) ⋯ ((show tst G (n+40) CP (sE BP 4 0) (S NP (P3 l x) z0 o)=evAnd (tst G (n+39) CP) [kd (sE BP 4 0) 0,kd (sE BP 4 0) 1] (S NP (P3 l x) z0 o)from ⋯).trans (a_c (t_cmp .Eq (a:=ii (kdN x)) (b:=ii (3:Nat)) ⋯ ⋯ ⋯ (eq_nat _ _)) fun _=>a_1 (t_cmp .NotEq (a:=tx (twN l)) (b:=tx []) ⋯ ⋯ ⋯ ne_tx))) (fun q=>?_) fun q=>?_
  · unfold pcN;rw[q]
    exact R (st1:=S NP (P3 l x) z0 o) (v:= .fl [txtD (ahN x++twN l),txtD [97+l,97+l]]) ⋯ (x_list (vs:=[tx (ahN x++twN l),tx [97+l,97+l]]) ⋯ (evs_c (x_bo .Add ⋯ ⋯ ⋯ (addT (by omega))) (evs1 (x_bo .Add (a:=tx [97+l]) (b:=tx [97+l]) ⋯ ⋯ ⋯ ⋯))) ⋯ ⋯) (Nx.r ⟨rfl,rfl⟩)
  · unfold pcN;rw[q]
    exact R (st1:=S NP (P3 l x) z0 o) (v:= .fl [txtD (ahN x++[(fmL l x).getD (kdN x) 0]),txtD [97+l]]) ⋯ (x_list (vs:=[tx (ahN x++[(fmL l x).getD (kdN x) 0]),tx [97+l]]) ⋯ (evs_c (x_bo .Add (b:=tx [(fmL l x).getD (kdN x) 0]) ⋯ ⋯
      (x_item (w:= .fl ((fmL l x).map strD)) (j:=kdN x) ⋯ (x_list (vs:=[tx [97+l],tx [65+l],tx [basL.getD (md (rsN x) 10) 0+l],tx [97+l]]) ⋯ (evs_c ⋯ (evs_c (x_bui .chr ⋯ (evs1 (v:=ii (65+l:Nat)) ⋯) (chrV (by omega)))
        (evs_c (x_bui .chr ⋯ (evs1 (v:=ii (basL.getD (md (rsN x) 10) 0+l:Nat)) (x_bo .Add (a:=ii (basL.getD (md (rsN x) 10) 0)) (b:=ii l) ⋯ (x_item (w:= .d (.list (natD basL))) (j:=md (rsN x) 10) ⋯ ⋯ (x_bo .Mod (a:=ii (rsN x)) (b:=ii (10:Nat)) ⋯ ⋯ ⋯ (modV (by decide))) (itL (idx_nat (md_lt (by decide)) (show 10≤1000 by decide)) (gDf (f:=elI) (l:=basL) (md_lt (by decide))))) ⋯ ⋯)) (chrV (by omega))) (evs1 ⋯)))) ⋯ ⋯) ⋯ (itF (idx_nat hf (show 4≤1000 by decide)) (gD hf)))
      (addT (by show _+1≤_;omega))) (evs1 ⋯)) ⋯ ⋯) ⟨rfl,rfl⟩
end
end L1
end
section
open PySem PySem.W Mine V02
namespace Mine
noncomputable def c1E (e:Expr):Expr:= .ListComp (kd e 0) [⟨kd e 2,kd e 1,(kids e).drop 3,0⟩] (gnE e).2 e.pos
noncomputable def c2E (e:Expr):Expr:= .ListComp (kd e 0) [⟨kd e 2,kd e 1,[],0⟩,⟨kd e 4,kd e 3,(kids e).drop 5,0⟩] (gnE e).2 e.pos
section
variable {G:Env'} {n:Nat} {C:Cx} {st:St} {e:Expr}
theorem comp_h (h:e=c1E e):ev G (n+3) C e st=((iter G (n+2) C (kd e 1) st).bind fun p=>gd (compOk C (gnE e).2 p.2.vars) ((gd (okTarget p.1 (kd e 2)) (compL (fun x st acc=>(bind G (n+1) ⟨(gnE e).2,[]⟩ (kd e 2) (.d x) st).bind fun st=>(evAnd (tst G (n+1) ⟨(gnE e).2,[]⟩) ((kids e).drop 3) st).bind fun p=>bif p.1 then((ev G (n+1) ⟨(gnE e).2,[]⟩ (kd e 0) p.2).bind fun p=>(rd0 p.1).bind fun y=>gd (decide (acc.length<maxLen)) (some (acc++[y],p.2)))else some (acc,p.2)) p.1 loopFuel 0
        ⟨((localNames (gnE e).2).map fun x=>(x,none))++p.2.vars.filter (fun x=>freeIn (gnE e).2 x.1),p.2.objs⟩ [])).bind fun q=>gd (decide (q.1.length≤maxLen)) (some (.fl q.1,⟨p.2.vars,q.2.objs⟩)))):=by
  obtain⟨elt,t,i,fs,sc,p,rfl⟩:∃elt t i fs sc p,e= .ListComp elt [⟨t,i,fs,0⟩] sc p:=⟨_,_,_,_,_,_,h⟩
  rw[show(kids (.ListComp elt [⟨t,i,fs,0⟩] sc p)).drop 3=fs from List.append_nil fs];rfl
theorem it_pl {x:Str} {q p:Pos} {as:List Expr} {ks:List Keyword} (h:(x==("zip":Str))=false):iter G (n+1) C (.Call (.Name x q) as ks p) st=iterV (fs G n) C (.Call (.Name x q) as ks p) st:=by
  show(bif x==("zip":Str)then _ else iterV (fs G n) C _ st)=_
  rw[h];rfl
theorem c_flat {α:Type} {it:It} {l:List α} {φ:α→PyData} {ψ:α→List PyData} {f:PyData→St→List PyData→Option (List PyData×St)} (m:α→Nat) (hm:∀x,(ψ x).length≤m x) (I:St→Prop) (hit:∀j st,I st→nextIt st.objs j it=some (l.map φ)[j]?) (hf:∀x st acc,x∈l→I st→acc.length+m x≤maxLen→Hd (f (φ x) st acc) fun q=>q.1=acc++ψ x∧I q.2):
    ∀(r:List α) (j fuel:Nat) (st:St) (acc:List PyData),l.drop j=r→r.length<fuel→acc.length+(r.map m).sum≤maxLen→I st→Hd (compL f it fuel j st acc) fun q=>q.1=acc++r.flatMap ψ∧I q.2
  |_,_,0,_,_,_,h,_,_=>absurd h (Nat.not_lt_zero _)
  | [],j,fuel+1,st,acc,hr,_,_,hI=>by
    show Hd ((nextIt st.objs j it).bind _) _
    rw[hit j st hI,List.getElem?_map,show l[j]?=none from List.getElem?_drop.symm.trans (congrArg (·[0]?) hr)]
    exact⟨(List.append_nil acc).symm,hI⟩
  | x::r,j,fuel+1,st,acc,hr,h,ha,hI=>by
    rw[List.map_cons,List.sum_cons]at ha
    have hx:l[j]?=some x:=List.getElem?_drop.symm.trans (congrArg (·[0]?) hr)
    show Hd ((nextIt st.objs j it).bind _) _
    rw[hit j st hI,List.getElem?_map,hx]
    show Hd ((f (φ x) st acc).bind _) _
    refine(hf x st acc (List.mem_of_getElem? hx) hI (by omega)).get fun p hp ⟨e,hI⟩=>?_
    rw[hp]
    refine(c_flat m hm I hit hf r (j+1) fuel p.2 p.1 (List.drop_drop.symm.trans (congrArg (List.drop 1) hr)) (Nat.lt_of_succ_lt_succ h) (by have:=hm x;rw[e,List.length_append];omega) hI).get fun q hq ⟨e2,hI⟩=> .of hq ⟨?_,hI⟩
    rw[e2,e,List.flatMap_cons,List.append_assoc]
theorem comp_o {C:Cx} {elt t1 i1 t2 i2:Expr} {f2:List Expr} {n1 n2:Int} {it:It} {x:PyData} {st1 st2:St} {acc:List PyData} (h1:bind G (n+2) C t1 (.d x) st=some st1) (h2:decide (n2=0)=true) (h3:iter G (n+2) C i2 st1=some (it,st2)):compF (fs G (n+2)) C elt ⟨t1,i1,[],n1⟩ [⟨t2,i2,f2,n2⟩] x st acc=gd (okTarget it t2) (compL (compF (fs G (n+1)) C elt ⟨t2,i2,f2,n2⟩ []) it loopFuel 0 st2 acc):=by
  show(bind G (n+2) C t1 (.d x) st).bind _=_
  rw[h1];show gd (decide (n2=0)) ((iter G (n+2) C i2 st1).bind _)=_
  rw[h2,h3];rfl
theorem comp_i {C:Cx} {elt t2 i2:Expr} {f2:List Expr} {n2:Int} {x:PyData} {st1:St} {acc:List PyData} (h1:bind G (n+1) C t2 (.d x) st=some st1) (h2:evAnd (tst G (n+1) C) f2 st1=some (false,st1)):compF (fs G (n+1)) C elt ⟨t2,i2,f2,n2⟩ [] x st acc=some (acc,st1):=by
  show(bind G (n+1) C t2 (.d x) st).bind _=_
  rw[h1];show(evAnd (tst G (n+1) C) f2 st1).bind _=_
  rw[h2];rfl
theorem comp_j {C:Cx} {elt t2 i2:Expr} {f2:List Expr} {n2:Int} {x y:PyData} {v:V} {st1:St} {acc:List PyData} (h1:bind G (n+1) C t2 (.d x) st=some st1) (h2:evAnd (tst G (n+1) C) f2 st1=some (true,st1)) (h3:ev G (n+1) C elt st1=some (v,st1)) (h4:rd0 v=some y) (h5:acc.length<maxLen):compF (fs G (n+1)) C elt ⟨t2,i2,f2,n2⟩ [] x st acc=some (acc++[y],st1):=by
  show(bind G (n+1) C t2 (.d x) st).bind _=_
  rw[h1];show(evAnd (tst G (n+1) C) f2 st1).bind _=_
  rw[h2];show(ev G (n+1) C elt st1).bind _=_
  rw[h3];show(rd0 v).bind _=_
  rw[h4];exact gd_t (decide_eq_true h5)
theorem x_two {α β:Type} {N:List Str} (it:It) (l:List α) (φ:α→PyData) (l2:α→List β) (φ2:β→PyData) (c:α→β→Bool) (w:α→β→V) (ψ:α→β→PyData) (L:List (Str×V)) (L1:α→List (Str×V)) (L2:α→β→List (Str×V)) (σ:Str→Option V) (h:e=c2E e)
    (hi:iter G (n+3) C (kd e 1) st=some (it,st)) (hq:okTarget it (kd e 2)=true) (hit:∀j,nextIt st.objs j it=some (l.map φ)[j]?) (hk:compOk C (gnE e).2 st.vars=true) (hl:l.length≤1000) (hl2:∀x,x∈l→(l2 x).length≤1000) (hn:(l.flatMap l2).length≤100000) (hs:(⟨((localNames (gnE e).2).map fun x=>(x,none))++st.vars.filter (fun x=>freeIn (gnE e).2 x.1),st.objs⟩:St)=S N L σ st.objs)
    (hb:∀x σ,x∈l→bind G (n+2) ⟨(gnE e).2,[]⟩ (kd e 2) (.d (φ x)) (S N L σ st.objs)=some (S N (L1 x) σ st.objs)) (hw:∀x σ,S N (L1 x) σ st.objs=S N L (ovs (L1 x) σ) st.objs)
    (hi2:∀x σ,x∈l→iter G (n+2) ⟨(gnE e).2,[]⟩ (kd e 3) (S N (L1 x) σ st.objs)=some (.vals ((l2 x).map φ2),S N (L1 x) σ st.objs))
    (hb2:∀x y σ,x∈l→y∈l2 x→bind G (n+1) ⟨(gnE e).2,[]⟩ (kd e 4) (.d (φ2 y)) (S N (L1 x) σ st.objs)=some (S N (L2 x y) σ st.objs)) (hw2:∀x y σ,S N (L2 x y) σ st.objs=S N (L1 x) (ovs (L2 x y) σ) st.objs)
    (ht:∀x y σ,x∈l→y∈l2 x→evAnd (tst G (n+1) ⟨(gnE e).2,[]⟩) ((kids e).drop 5) (S N (L2 x y) σ st.objs)=some (c x y,S N (L2 x y) σ st.objs)) (he:∀x y σ,x∈l→y∈l2 x→c x y=true→ev G (n+1) ⟨(gnE e).2,[]⟩ (kd e 0) (S N (L2 x y) σ st.objs)=some (w x y,S N (L2 x y) σ st.objs)) (hr:∀x y,x∈l→y∈l2 x→rd0 (w x y)=some (ψ x y)):
    ev G (n+4) C e st=some (.fl (l.flatMap fun x=>((l2 x).filter (c x)).map (ψ x)),st):=by
  have hm:(l.flatMap fun x=>((l2 x).filter (c x)).map (ψ x)).length≤100000:=by
    refine Nat.le_trans ?_ hn
    clear hn hi hit hl hl2 hb hi2 hb2 ht he hr
    induction l with
    |nil=>exact Nat.le_refl 0
    |cons x l ih=>rw[List.flatMap_cons,List.flatMap_cons,List.length_append,List.length_append,List.length_map];exact Nat.add_le_add (List.length_filter_le ..) ih
  obtain⟨elt,t1,i1,t2,i2,f2,sc,p,rfl⟩:∃elt t1 i1 t2 i2 f2 sc p,e= .ListComp elt [⟨t1,i1,[],0⟩,⟨t2,i2,f2,0⟩] sc p:=⟨_,_,_,_,_,_,_,_,h⟩
  rw[show(kids (.ListComp elt [⟨t1,i1,[],0⟩,⟨t2,i2,f2,0⟩] sc p)).drop 5=f2 from List.append_nil f2]at ht
  show(iter G (n+3) C i1 st).bind _=_
  rw[show iter G (n+3) C i1 st=some (it,st)from hi]
  show gd (compOk C sc st.vars) _=_
  rw[show compOk C sc st.vars=true from hk]
  show gd true ((gd (okTarget it t1) _).bind _)=_
  rw[show okTarget it t1=true from hq,show(⟨((localNames sc).map fun x=>(x,none))++st.vars.filter (fun x=>freeIn sc x.1),st.objs⟩:St)=S N L σ st.objs from hs]
  generalize hz:compL _ _ _ _ _ _=z
  have H:Hd z fun q=>q.1=[]++(l.flatMap fun x=>((l2 x).filter (c x)).map (ψ x))∧∃σ,q.2=S N L σ st.objs:=by
    rw[←hz]
    refine c_flat (fun x=>(l2 x).length) (fun x=>Nat.le_trans (Nat.le_of_eq (List.length_map ..)) (List.length_filter_le ..)) (fun st'=>∃σ,st'=S N L σ st.objs) (fun j st' ⟨σ,e⟩=>by rw[e];exact hit j) (fun x s acc hx hI hb'=>?_) l 0 loopFuel _ [] rfl (Nat.lt_succ_of_le (Nat.le_trans hl (by decide))) (by rw[List.length_nil,Nat.zero_add,←List.length_flatMap];exact Nat.le_trans hn (by decide)) ⟨σ,rfl⟩
    obtain⟨σ,rfl⟩:=hI
    show Hd (compF (fs G (n+2)) ⟨sc,[]⟩ elt ⟨t1,i1,[],0⟩ [⟨t2,i2,f2,0⟩] (φ x) (S N L σ st.objs) acc) _
    rw[comp_o (i1:=i1) (n1:=0) (show bind G (n+2) ⟨sc,[]⟩ t1 (.d (φ x)) (S N L σ st.objs)=_ from hb x σ hx) rfl (show iter G (n+2) ⟨sc,[]⟩ i2 (S N (L1 x) σ st.objs)=_ from hi2 x σ hx),show okTarget (.vals ((l2 x).map φ2)) t2=true from rfl,gd_t rfl]
    refine(c_it (it:= .vals ((l2 x).map φ2)) (l:=l2 x) (φ:=φ2) (c:=c x) (ψ:=ψ x) (fun st'=>∃σ,st'=S N (L1 x) σ st.objs) (fun _ _ _=>rfl) (fun y s acc hy hI hl=>?_) (l2 x) 0 loopFuel _ acc rfl (Nat.lt_succ_of_le (Nat.le_trans (hl2 x hx) (by decide))) ?_ ⟨σ,rfl⟩).get fun q hq ⟨e,σ',h⟩=> .of hq ⟨e,_,h.trans (hw x σ')⟩
    · obtain⟨σ,rfl⟩:=hI
      show Hd (compF (fs G (n+1)) ⟨sc,[]⟩ elt ⟨t2,i2,f2,0⟩ [] (φ2 y) (S N (L1 x) σ st.objs) acc) _
      cases q:c x y with
      |false=>rw[comp_i (show bind G (n+1) ⟨sc,[]⟩ t2 (.d (φ2 y)) (S N (L1 x) σ st.objs)=_ from hb2 x y σ hx hy) (q ▸ ht x y σ hx hy)];exact⟨(List.append_nil _).symm,_,hw2 x y σ⟩
      |true=>rw[comp_j (show bind G (n+1) ⟨sc,[]⟩ t2 (.d (φ2 y)) (S N (L1 x) σ st.objs)=_ from hb2 x y σ hx hy) (q ▸ ht x y σ hx hy) (show ev G (n+1) ⟨sc,[]⟩ elt (S N (L2 x y) σ st.objs)=_ from he x y σ hx hy q) (hr x y hx hy) hl];exact⟨rfl,_,hw2 x y σ⟩
    · exact hb'
  exact H.get fun q hq ⟨e,σ',h⟩=>by
    rw[gd_t rfl,gd_t rfl,hq]
    show gd (decide (q.1.length≤maxLen)) (some (V.fl q.1,(⟨st.vars,q.2.objs⟩:St)))=_
    rw[e,h]
    exact gd_t (decide_eq_true (Nat.le_trans (show([]++(l.flatMap fun x=>((l2 x).filter (c x)).map (ψ x))).length≤100000 from hm) (by decide)))
end
end Mine
end
section
open PySem PySem.W Mine V02
namespace L1
@[irreducible] noncomputable def exs (f:Stmt→St→Option (Fl×St)) (ss:List Stmt) (st:St):Option (Fl×St):=Mine.exs f ss st
section
variable {G:Env'} {n:Nat} {C:Cx} {o o':Objs} {v a:V} {st st1 st2:St} {e:Expr} {P:Fl×St→Prop} {B ss:List Stmt} {k k':Nat} {vs:List V}
theorem Ks (m:Nat) (st1:St) (h:exs (ex G n C) ((B.drop k).take m) st=some (.next,st1)) (h2:Hd (exs (ex G n C) (B.drop (k+m)) st1) P):Hd (exs (ex G n C) (B.drop k) st) P:=by with_unfolding_all exact Mine.Ks m st1 h h2
theorem A (v:V) (st2:St) (h0:exs (ex G (n+2) C) (B.drop k) st=((ev G (n+1) C (sE B k 0) st).bind fun p=>(bindN C (nmS B k) p.1 p.2).map fun st=>(Fl.next,st)).bind fun p=>bif p.1.isNext then exs (ex G (n+2) C) (B.drop (k+1)) p.2 else some p)
    (h:ev G (n+1) C (sE B k 0) st=some (v,st1)) (hb:bindN C (nmS B k) v st1=some st2) (h2:Hd (exs (ex G (n+2) C) (B.drop (k+1)) st2) P):Hd (exs (ex G (n+2) C) (B.drop k) st) P:=by with_unfolding_all exact Mine.A v st2 h0 h hb h2
theorem AT {st2:St} (v:V) (h0:exs (ex G (n+2) C) (B.drop k) st=((ev G (n+1) C (sE B k 0) st).bind fun p=>(bind G (n+1) C (sE B k 1) p.1 p.2).map fun st=>(Fl.next,st)).bind fun p=>bif p.1.isNext then exs (ex G (n+2) C) (B.drop (k+1)) p.2 else some p)
    (h:ev G (n+1) C (sE B k 0) st=some (v,st1)) (hb:bind G (n+1) C (sE B k 1) v st1=some st2) (h2:Hd (exs (ex G (n+2) C) (B.drop (k+1)) st2) P):Hd (exs (ex G (n+2) C) (B.drop k) st) P:=by with_unfolding_all exact Mine.AT v h0 h hb h2
theorem AH (h0:exs (ex G (n+2) C) (B.drop k) st=((ev G (n+1) C (sE B k 0) st).bind fun p=>(bindN C (nmS B k) p.1 p.2).map fun st=>(Fl.next,st)).bind fun p=>bif p.1.isNext then exs (ex G (n+2) C) (B.drop (k+1)) p.2 else some p)
    (h:Hd (ev G (n+1) C (sE B k 0) st) fun r=>Hd (bindN C (nmS B k) r.1 r.2) fun st2=>Hd (exs (ex G (n+2) C) (B.drop (k+1)) st2) P):Hd (exs (ex G (n+2) C) (B.drop k) st) P:=by with_unfolding_all exact Mine.AH h0 h
theorem AP {i:Nat} {xs:List PyData} {x:PyData} (h0:exs (ex G (n+2) C) (B.drop k) st=((evMeth (fs G n) C (.hl i) "append" [kd (sE B k 0) 1] [] st).map fun p=>(Fl.next,p.2)).bind fun p=>bif p.1.isNext then exs (ex G (n+2) C) (B.drop (k+1)) p.2 else some p)
    (hl:listAt st.objs i=some xs) (h:ev G n C (kd (sE B k 0) 1) st=some (v,st)) (hx:rd0 v=some x) (hn:decide (xs.length<maxLen)=true) (h2:Hd (exs (ex G (n+2) C) (B.drop (k+1)) (setCell i (.list (xs++[x])) st)) P):Hd (exs (ex G (n+2) C) (B.drop k) st) P:=by with_unfolding_all exact Mine.AP h0 hl h hx hn h2
theorem R (h0:exs (ex G (n+1) C) (B.drop k) st=((ev G n C (sE B k 0) st).map fun p=>(Fl.ret p.1,p.2)).bind fun p=>bif p.1.isNext then exs (ex G (n+1) C) (B.drop (k+1)) p.2 else some p) (h:ev G n C (sE B k 0) st=some (v,st1)) (h2:P (.ret v,st1)):Hd (exs (ex G (n+1) C) (B.drop k) st) P:=by with_unfolding_all exact Mine.R h0 h h2
theorem I (c:Bool) (h0:exs (ex G (n+1) C) (B.drop k) st=((tst G n C (sE B k 0) st).bind fun p=>bif p.1 then exs (ex G n C) (sB B k) p.2 else exs (ex G n C) (sO B k) p.2).bind fun p=>bif p.1.isNext then exs (ex G (n+1) C) (B.drop (k+1)) p.2 else some p)
    (h:tst G n C (sE B k 0) st=some (c,st)) (h1:c=true→Hd (exs (ex G n C) ((sB B k).drop 0) st) (Nx G (n+1) C (B.drop (k+1)) P)) (h2:c=false→Hd (exs (ex G n C) ((sO B k).drop 0) st) (Nx G (n+1) C (B.drop (k+1)) P)):Hd (exs (ex G (n+1) C) (B.drop k) st) P:=by with_unfolding_all exact Mine.I c h0 h h1 h2
theorem IR (c:Bool) (h0:exs (ex G (n+1) C) (B.drop k) st=((tst G n C (sE B k 0) st).bind fun p=>bif p.1 then exs (ex G n C) (sB B k) p.2 else exs (ex G n C) [] p.2).bind fun p=>bif p.1.isNext then exs (ex G (n+1) C) (B.drop (k+1)) p.2 else some p)
    (h:tst G n C (sE B k 0) st=some (c,st)) (h1:c=true→Hd (exs (ex G n C) ((sB B k).drop 0) st) (Nx G (n+1) C (B.drop (k+1)) P)) (h2:c=false→Hd (exs (ex G (n+1) C) (B.drop (k+1)) st) P):Hd (exs (ex G (n+1) C) (B.drop k) st) P:=by with_unfolding_all exact Mine.IR c h0 h h1 h2
theorem AQ (r:Bool) (vs:List V) (h0:exs (ex G (n+2) C) (B.drop k) st=((evs (ev G (n+1) C) (kids (sE B k 0)) st).bind fun p=>gd (decide (p.1.length=(kids (sE B k 1)).length∧p.1.length≤maxLen)) ((bindAll (bind G (n+1) C) (bif r then((kids (sE B k 1)).zip p.1).reverse else(kids (sE B k 1)).zip p.1) p.2).map fun st=>(Fl.next,st))).bind fun p=>bif p.1.isNext then exs (ex G (n+2) C) (B.drop (k+1)) p.2 else some p)
    (h:evs (ev G (n+1) C) (kids (sE B k 0)) st=some (vs,st1)) (hb:gd (decide (vs.length=(kids (sE B k 1)).length∧vs.length≤maxLen)) ((bindAll (bind G (n+1) C) (bif r then((kids (sE B k 1)).zip vs).reverse else(kids (sE B k 1)).zip vs) st1).map fun st=>(Fl.next,st))=some (Fl.next,st2)) (h2:Hd (exs (ex G (n+2) C) (B.drop (k+1)) st2) P):Hd (exs (ex G (n+2) C) (B.drop k) st) P:=by with_unfolding_all exact Mine.AQ r vs h0 h hb h2
theorem DL {i:Nat} {o':Objs} (h0:exs (ex G (n+1) C) (B.drop k) st=((ev G n C (kd (dE' B k) 0) st).bind fun p=>p.1.obj?.bind fun k=>(ev G n C (kd (dE' B k') 1) p.2).bind fun q=>(objCall (fs G n) "Headers.__delitem__" k [q.1] q.2).map fun r=>(Fl.next,r.2)).bind fun p=>bif p.1.isNext then exs (ex G (n+1) C) (B.drop (k+1)) p.2 else some p) (hk:k'=k)
    (h1:ev G n C (kd (dE' B k) 0) st=some (.obj i,st)) (h2:ev G n C (kd (dE' B k) 1) st=some (a,st)) (hi:(instAt st.objs i).isSome=true) (hs:(asS a).isSome=true) (hc:call G n "Headers.__delitem__" [.obj i,a] [] st.objs=some (v,o')) (h3:Hd (exs (ex G (n+1) C) (B.drop (k+1)) ⟨st.vars,o'⟩) P):Hd (exs (ex G (n+1) C) (B.drop k) st) P:=by with_unfolding_all exact Mine.DL h0 hk h1 h2 hi hs hc h3
theorem c_call {f:Str} {F:Fn} {vs:List V} {ks:List (Str×V)} {P:V×Objs→Prop} (st:St) (h0:call G (n+1) f vs ks o=(exs (ex G n ⟨F.scope,F.mv⟩) (F.body.drop 0) st).bind fun p=>p.1.val.map fun v=>(v,p.2.objs)) (h:Hd (exs (ex G n ⟨F.scope,F.mv⟩) (F.body.drop 0) st) fun p=>Hd (p.1.val.map fun v=>(v,p.2.objs)) P):Hd (call G (n+1) f vs ks o) P:=by with_unfolding_all exact Mine.c_call st h0 h
theorem ATH (h0:exs (ex G (n+2) C) (B.drop k) st=((ev G (n+1) C (sE B k 0) st).bind fun p=>(bind G (n+1) C (sE B k 1) p.1 p.2).map fun st=>(Fl.next,st)).bind fun p=>bif p.1.isNext then exs (ex G (n+2) C) (B.drop (k+1)) p.2 else some p)
    (h:Hd (ev G (n+1) C (sE B k 0) st) fun r=>Hd (bind G (n+1) C (sE B k 1) r.1 r.2) fun st2=>Hd (exs (ex G (n+2) C) (B.drop (k+1)) st2) P):Hd (exs (ex G (n+2) C) (B.drop k) st) P:=
  h.get fun r hr h=>h.get fun st2 h2 h3=>AT r.1 h0 hr h2 h3
theorem c_call2 {x:Option (V×Objs)} {P:V×Objs→Prop} {b:List Stmt} {s:St} (h0:x=(exs (ex G n C) b s).bind fun p=>p.1.val.map fun v=>(v,p.2.objs)) (h:Hd (exs (ex G n C) b s) fun p=>Hd (p.1.val.map fun v=>(v,p.2.objs)) P):Hd x P:=by
  rw[h0];exact h.get fun p hp h=>by rw[hp];exact h
theorem Nx.i (h:Hd (exs (ex G n C) ss st) P):Nx G n C ss P (.next,st):=by with_unfolding_all exact Mine.Nx.i h
noncomputable def asE (B:List Stmt) (k:Nat):Stmt:= .Assign [.Name (nmS B k) (sE B k 1).pos] (sE B k 0) (st' B k).pos
theorem as_h (hd:B.drop k=asE B k::B.drop (k+1)) (st:St):exs (ex G (n+2) C) (B.drop k) st=((ev G (n+1) C (sE B k 0) st).bind fun p=>(bindN C (nmS B k) p.1 p.2).map fun st=>(Fl.next,st)).bind fun p=>bif p.1.isNext then exs (ex G (n+2) C) (B.drop (k+1)) p.2 else some p:=by
  with_unfolding_all exact(congrArg (fun l=>Mine.exs (ex G (n+2) C) l st) hd).trans rfl
theorem for_h (hd:B.drop k=forE B k::B.drop (k+1)) (st:St):exs (ex G (n+1) C) (B.drop k) st=((iter G n C (sE B k 0) st).bind fun p=>gd (okTarget p.1 (sE B k 1)) (forL (fun x st=>bind G n C (sE B k 1) (.d x) st) (exs (ex G n C) (sB B k)) p.1 loopFuel 0 p.2)).bind fun p=>bif p.1.isNext then exs (ex G (n+1) C) (B.drop (k+1)) p.2 else some p:=by with_unfolding_all exact Mine.for_h hd st
end
end L1
end
section
open PySem PySem.W Mine V02
namespace L1
noncomputable def rz (lo hi st:Nat):Nat:=(Builtin.Range.rangeSize lo hi st).toNat
theorem rz_le {lo hi st:Nat} (h1:1≤st) (hhi:hi≤1000):rz lo hi st≤1000:=by
  unfold rz Builtin.Range.rangeSize
  rw[if_pos (by omega)]
  split
  · have:=Int.ediv_le_self (a:=(hi:Int) - (lo:Int) - 1) (st:Int) (by omega)
    omega
  · omega
theorem range_any {lo hi st:Nat} (h1:1≤st) (h2:st≤1000) (hlo:lo≤1000) (hhi:hi≤1000):rangeL lo hi st=some ((List.range (rz lo hi st)).map fun i=>elI (lo+i * st)):=by
  have hz:Builtin.Range.rangeSize lo hi st≤1000∧0≤Builtin.Range.rangeSize lo hi st:=by
    unfold Builtin.Range.rangeSize
    rw[if_pos (by omega)]
    split
    · have:=Int.ediv_le_self (a:=(hi:Int) - (lo:Int) - 1) (st:Int) (by omega)
      have:=Int.ediv_nonneg (a:=(hi:Int) - (lo:Int) - 1) (b:=(st:Int)) (by omega) (by omega)
      omega
    · omega
  have hs:Builtin.Range.small lo hi st=true:=by
    unfold Builtin.Range.small Builtin.Range.rangeFitsLong
    simp
    refine⟨⟨⟨⟨by omega,by omega⟩,by omega⟩,by omega⟩,.inr ?_⟩
    rw[if_pos (by omega)]
    omega
  unfold rangeL
  rw[decide_eq_true (show(st:Int)≠0 by omega),hs,decide_eq_true (show Builtin.Range.rangeSize lo hi st≤maxLen by show _≤((1000000:Nat):Int);omega)]
  rfl
noncomputable def BK:List Stmt:=F_law_book.body
noncomputable def CK:Cx:=Cf F_law_book
noncomputable def NK:List Str:=["p","q","wide","high","rule","step","size","rest","places","small","name","lines","book","found","spelled","place","runs","due"]
structure Bk where
  p:Nat
  q:Nat
  w:Nat
  h:Nat
  c:Nat
  m:Nat
  t:Nat
noncomputable def x0N (b:Bk) (y:Nat):Nat:=md (b.t - b.c * y) b.m
noncomputable def xsN (b:Bk) (y:Nat):List Nat:=(List.range (rz (x0N b y) (b.w+1) b.m)).map fun j=>x0N b y+j * b.m
noncomputable def plN (b:Bk):List (Nat×Nat):=(List.range (b.h+1)).flatMap fun y=>(xsN b y).map fun x=>(x,y)
noncomputable def plD (p:Nat×Nat):PyData:= .list [elI p.1,elI p.2]
noncomputable def K0 (b:Bk):List (Str×V):=[("p",tx [b.p]),("q",tx [b.q]),("wide",ii b.w),("high",ii b.h),("rule",.d (.list [elI b.c,elI b.m,elI b.t]))]
noncomputable def K1 (b:Bk):List (Str×V):=("step",ii b.c)::("size",ii b.m)::("rest",ii b.t)::K0 b
noncomputable def K2 (b:Bk):List (Str×V):=("places",.d (.list ((plN b).map plD)))::K1 b
noncomputable def Kc (b:Bk):List (Str×V):=[("wide",ii b.w),("step",ii b.c),("size",ii b.m),("rest",ii b.t)]
section
variable {n:Nat} {b:Bk} {o:Objs}
theorem bk0 {P:Fl×St→Prop} (h:Hd (exs (ex G (n+38+2) CK) (BK.drop (0+1)) (S NK (K1 b) z0 o)) P):Hd (exs (ex G (n+38+2) CK) (BK.drop 0) (S NK (K0 b) z0 o)) P:=by
  refine AT (G:=G) (n:=n+38) (C:=CK) (B:=BK) (k:=0) (v:= .d (.list [elI b.c,elI b.m,elI b.t])) (st:=S NK (K0 b) z0 o) (st1:=S NK (K0 b) z0 o) (st2:=S NK (K1 b) z0 o) ?_ ?_ ?_ h
  · exact ⋯
  · exact ⋯
  · exact ⋯
structure BkOK (b:Bk):Prop where
  w:b.w≤20
  h:b.h≤20
  m:1≤b.m∧b.m≤40
  c:b.c≤20
theorem x0_lt (hb:BkOK b) (y:Nat):x0N b y<b.m:=md_lt (Nat.ne_of_gt hb.m.1)
theorem bkr {y:Nat} {σ:Str→Option V} (hb:BkOK b):iter G (n+30) ⟨(gnE (sE BK 1 0)).2,[]⟩ (kd (sE BK 1 0) 3) (S [".0","y","x","wide","step","size","rest"] (("y",ii y)::Kc b) σ o)=some (.vals ((xsN b y).map elI),S [".0","y","x","wide","step","size","rest"] (("y",ii y)::Kc b) σ o):=by
  have hx:=x0_lt hb y
  have:=hb.m;have:=hb.w
  refine i_val (v:= .rng (x0N b y) (b.w+1:Nat) b.m) ⋯ (x_bui .range (vs:=[ii (x0N b y),ii (b.w+1:Nat),ii b.m]) ⋯ (evs_c (x_bo .Mod (a:=ii (b.t - b.c * y)) (b:=ii b.m) ⋯ ?_ ⋯ (modV (by omega))) (evs_c ⋯ (evs1 ⋯))) ?_) ?_
  · exact x_bo .Sub (a:=ii b.t) (b:=ii (b.c * y)) ⋯ ⋯ (x_bo .Mult (a:=ii b.c) (b:=ii y) ⋯ ⋯ ⋯ (mulV (by rw[show i64 (b.c:Int)=true from decide_eq_true (show(b.c:Int).natAbs<18446744073709551616 by have:=hb.c;omega)];rfl))) ⋯
  · show gd (decide ((b.m:Int)≠0∧(b.m:Int).natAbs<1073741824)) _=_
    exact gd_t (decide_eq_true ⟨by omega,by omega⟩)
  · show(rangeL (x0N b y) (b.w+1:Nat) b.m).map It.vals=_
    rw[range_any hb.m.1 (by omega) (by omega) (by omega)]
    exact congrArg (fun l=>some (It.vals l)) (map_c (g:=elI) (f:=fun j=>x0N b y+j * b.m) _)
theorem xs_len (hb:BkOK b) (y:Nat):(xsN b y).length≤1000:=by
  have:=hb.w
  exact Nat.le_trans (Nat.le_of_eq ((List.length_map ..).trans List.length_range)) (rz_le hb.m.1 (by omega))
theorem fm_len {f:Nat→List Nat} (h:∀y,(f y).length≤1000):∀l:List Nat,(l.flatMap f).length≤1000 * l.length
  |[]=>Nat.le_refl 0
  |y::l=>by rw[List.flatMap_cons,List.length_append,List.length_cons,Nat.mul_succ,Nat.add_comm];exact Nat.add_le_add (fm_len h l) (h y)
theorem pl_len (hb:BkOK b):((List.range (b.h+1)).flatMap (xsN b)).length≤100000:=by
  have:=hb.h
  exact Nat.le_trans (fm_len (xs_len hb) _) (by rw[List.length_range];omega)
theorem bk1 {P:Fl×St→Prop} (hb:BkOK b) (h:Hd (exs (ex G (n+38+2) CK) (BK.drop (1+1)) (S NK (K2 b) z0 o)) P):Hd (exs (ex G (n+38+2) CK) (BK.drop 1) (S NK (K1 b) z0 o)) P:=by
  have:=hb.h
  refine A (.fl ((plN b).map plD)) (st1:=S NK (K1 b) z0 o) (S NK (K2 b) z0 o) (as_h ⋯ _) ?_ ⋯ h
  refine(x_two (n:=n+35) (N:=[".0","y","x","wide","step","size","rest"]) (.vals ((List.range (b.h+1)).map elI)) (List.range (b.h+1)) elI (xsN b) elI (fun _ _=>true) (fun y x=> .fl [elI x,elI y]) (fun y x=>plD (x,y)) (Kc b) (fun y=>("y",ii y)::Kc b) (fun y x=>("y",ii y)::("x",ii x)::Kc b) z0 ⋯ ?_ rfl (fun _=>rfl) ⋯ (by rw[List.length_range];omega) (fun y _=>xs_len hb y) (pl_len hb) ⋯ (fun _ _ _=>⋯) (fun _ _=>⋯) (fun _ _ _=>bkr hb) (fun _ _ _ _ _=>⋯) (fun _ _ _=>⋯) (fun _ _ _ _ _=>⋯) (fun _ _ _ _ _ _=>⋯) (fun _ _ _ _=>⋯)).trans ?_
  · exact i_val (v:= .rng 0 (b.h+1:Nat) 1) (it_pl ⋯) (x_bui .range (vs:=[ii (b.h+1:Nat)]) ⋯ (evs1 ⋯) ⋯) (it_rng (by omega))
  · refine congrArg (fun l=>some (V.fl l,S NK (K1 b) z0 o)) ?_
    unfold plN
    rw[List.map_flatMap]
    refine congrArg (fun f=>List.flatMap f (List.range (b.h+1))) (funext fun y=>?_)
    rw[List.filter_eq_self.mpr fun _ _=>rfl,List.map_map];rfl
end
end L1
end
section
open PySem PySem.W Mine V02
namespace Mine
section
variable {G:Env'} {n:Nat} {C:Cx} {o:Objs} {v a:V} {st:St} {e:Expr} {P:Fl×St→Prop} {B:List Stmt} {k:Nat}
theorem FE {N:List Str} (it:It) (m:Nat) (el:Nat→PyData) (L L1:Nat→List (Str×V)) (O:Nat→Objs) (h0:∀st,exs (ex G (n+1) C) (B.drop k) st=((iter G n C (sE B k 0) st).bind fun p=>gd (okTarget p.1 (sE B k 1)) (forL (fun x st=>bind G n C (sE B k 1) (.d x) st) (exs (ex G n C) (sB B k)) p.1 loopFuel 0 p.2)).bind fun p=>bif p.1.isNext then exs (ex G (n+1) C) (B.drop (k+1)) p.2 else some p)
    (hk:okTarget it (sE B k 1)=true) (hit:∀j t,nextIt (O j++t) j it=some ((List.range m).map el)[j]?) (hi:iter G n C (sE B k 0) st=some (it,st)) (hl:decide (m≤maxLen)=true) {σ:Str→Option V} {t0:Objs} (hs:st=S N (L 0) σ (O 0++t0)) (hb:∀j σ t,j<m→bind G n C (sE B k 1) (.d (el j)) (S N (L j) σ (O j++t))=some (S N (L1 j) σ (O j++t)))
    (hf:∀j σ t,j<m→Hd (exs (ex G n C) ((sB B k).drop 0) (S N (L1 j) σ (O j++t))) fun p=>p.1= .next∧∃σ' t',p.2=S N (L (j+1)) σ' (O (j+1)++t')) (h2:∀σ t,Hd (exs (ex G (n+1) C) (B.drop (k+1)) (S N (L m) σ (O m++t))) P):Hd (exs (ex G (n+1) C) (B.drop k) st) P:=by
  rw[h0,hi]
  have e:((List.range m).map el).length=m:=(List.length_map ..).trans List.length_range
  have q:Hd (forL (fun x st=>bind G n C (sE B k 1) (.d x) st) (exs (ex G n C) (sB B k)) it loopFuel 0 st) (Nx G (n+1) C (B.drop (k+1)) P):=f_all (xs:=(List.range m).map el) (fun j st=>∃σ t,st=S N (L j) σ (O j++t)) (fun j st ⟨σ,t,e⟩=>by rw[e];exact hit j t)
    (fun j x st hx hI=>by
      obtain⟨σ,t,rfl⟩:=hI
      obtain⟨a,ha,rfl⟩:=Option.map_eq_some_iff.mp (List.getElem?_map.symm.trans hx)
      have lt:j<m:=List.length_range (n:=m) ▸ (List.getElem?_eq_some_iff.mp ha).1
      rw[List.getElem?_range lt]at ha
      cases ha
      exact .of (hb j σ t lt) ((hf j σ t lt).get fun p hp h=> .of hp (.inl h)))
    (fun st ⟨σ,t,hI⟩=>by rw[e]at hI;cases hI;exact h2 σ t) m 0 loopFuel st ((Nat.zero_add m).trans e.symm) (Nat.lt_succ_of_le (of_decide_eq_true hl)) ⟨σ,t0,hs⟩
  show Hd ((gd (okTarget it (sE B k 1)) _).bind _) P
  exact q.get fun p hp h=>by rw[gd_t hk,hp];exact h
theorem x_mtO {α:Type} {N:List Str} (it:It) (l:List α) (φ:α→PyData) (ψ:α→PyData) (L:List (Str×V)) (L1:α→List (Str×V)) (σ:Str→Option V) (h:e=c1E e)
    (hi:iter G (n+2) C (kd e 1) st=some (it,st)) (hq:okTarget it (kd e 2)=true) (hit:∀j t,nextIt (st.objs++t) j it=some (l.map φ)[j]?) (hk:compOk C (gnE e).2 st.vars=true) (hl:decide (l.length≤1000)=true) (hs:(⟨((localNames (gnE e).2).map fun x=>(x,none))++st.vars.filter (fun x=>freeIn (gnE e).2 x.1),st.objs⟩:St)=S N L σ st.objs)
    (hb:∀x σ t,x∈l→bind G (n+1) ⟨(gnE e).2,[]⟩ (kd e 2) (.d (φ x)) (S N L σ (st.objs++t))=some (S N (L1 x) σ (st.objs++t))) (hw:∀x σ t,S N (L1 x) σ t=S N L (ovs (L1 x) σ) t)
    (ht:(kids e).drop 3=[]) (he:∀x σ t,x∈l→Hd (ev G (n+1) ⟨(gnE e).2,[]⟩ (kd e 0) (S N (L1 x) σ (st.objs++t))) fun r=>rd0 r.1=some (ψ x)∧∃t',r.2=S N (L1 x) σ (st.objs++t')):
    Hd (ev G (n+3) C e st) fun r=>r.1= .fl (l.map ψ)∧∃t,r.2=⟨st.vars,st.objs++t⟩:=by
  rw[comp_h h,hi]
  show Hd (gd (compOk C (gnE e).2 st.vars) ((gd (okTarget it (kd e 2)) _).bind _)) _
  rw[hk,hq,hs,ht]
  generalize hz:compL _ _ _ _ _ _=z
  have H:Hd z fun q=>q.1=[]++(l.filter fun _=>true).map ψ∧∃σ t,q.2=S N L σ (st.objs++t):=by
    rw[←hz]
    refine c_it (c:=fun _=>true) (fun st'=>∃σ t,st'=S N L σ (st.objs++t)) (fun j st' ⟨σ,t,e⟩=>by rw[e];exact hit j t) (fun x s acc hx hI hl=>?_) l 0 loopFuel _ [] rfl (Nat.lt_succ_of_le (Nat.le_trans (of_decide_eq_true hl) (by decide))) (by rw[List.length_nil,Nat.zero_add];exact Nat.le_trans (of_decide_eq_true hl) (by decide)) ⟨σ,[],by rw[List.append_nil]⟩
    obtain⟨σ,t,rfl⟩:=hI
    show Hd ((bind _ _ _ _ _ (S N L σ (st.objs++t))).bind _) _
    rw[hb x σ t hx]
    show Hd ((ev _ _ _ _ (S N (L1 x) σ (st.objs++t))).bind _) _
    refine(he x σ t hx).get fun r hr ⟨e1,t',e2⟩=>?_
    rw[hr];show Hd ((rd0 r.1).bind _) _
    rw[e1];show Hd (gd (decide (acc.length<maxLen)) (some (acc++[ψ x],r.2))) _
    rw[decide_eq_true hl,e2]
    exact⟨rfl,_,t',hw x σ _⟩
  exact H.get fun q hq ⟨e,σ',t,h⟩=>by
    rw[gd_t rfl,gd_t rfl,hq]
    show Hd (gd (decide (q.1.length≤maxLen)) (some (V.fl q.1,(⟨st.vars,q.2.objs⟩:St)))) _
    have e':q.1=l.map ψ:=e.trans (congrArg (List.map ψ) (List.filter_eq_self.mpr fun _ _=>rfl))
    rw[gd_t (decide_eq_true (by rw[e',List.length_map];exact Nat.le_trans (of_decide_eq_true hl) (by decide))),h]
    exact⟨congrArg V.fl e',t,rfl⟩
theorem x_rc {m:Str} {args:List Expr} {kws:List Keyword} (h0:ev G (n+1) C e st=(ev G n C (kd (kd e 0) 0) st).bind fun p=>evMeth (fs G n) C p.1 m args kws p.2) (h1:ev G n C (kd (kd e 0) 0) st=some (a,st)):ev G (n+1) C e st=evMeth (fs G n) C a m args kws st:=by rw[h0,h1];rfl
end
end Mine
namespace L1
section
variable {G:Env'} {n:Nat} {C:Cx} {st:St} {P:Fl×St→Prop} {B:List Stmt} {k:Nat}
theorem FE {N:List Str} (it:It) (m:Nat) (el:Nat→PyData) (L L1:Nat→List (Str×V)) (O:Nat→Objs) (h0:∀st,exs (ex G (n+1) C) (B.drop k) st=((iter G n C (sE B k 0) st).bind fun p=>gd (okTarget p.1 (sE B k 1)) (forL (fun x st=>bind G n C (sE B k 1) (.d x) st) (exs (ex G n C) (sB B k)) p.1 loopFuel 0 p.2)).bind fun p=>bif p.1.isNext then exs (ex G (n+1) C) (B.drop (k+1)) p.2 else some p)
    (hk:okTarget it (sE B k 1)=true) (hit:∀j t,nextIt (O j++t) j it=some ((List.range m).map el)[j]?) (hi:iter G n C (sE B k 0) st=some (it,st)) (hl:decide (m≤maxLen)=true) {σ:Str→Option V} {t0:Objs} (hs:st=S N (L 0) σ (O 0++t0)) (hb:∀j σ t,j<m→bind G n C (sE B k 1) (.d (el j)) (S N (L j) σ (O j++t))=some (S N (L1 j) σ (O j++t)))
    (hf:∀j σ t,j<m→Hd (exs (ex G n C) ((sB B k).drop 0) (S N (L1 j) σ (O j++t))) fun p=>p.1= .next∧∃σ' t',p.2=S N (L (j+1)) σ' (O (j+1)++t')) (h2:∀σ t,Hd (exs (ex G (n+1) C) (B.drop (k+1)) (S N (L m) σ (O m++t))) P):Hd (exs (ex G (n+1) C) (B.drop k) st) P:=by with_unfolding_all exact Mine.FE it m el L L1 O h0 hk hit hi hl hs hb hf h2
end
theorem upper_mkS (l:List Nat):Txt.upper (mkS l)=mkS (l.flatMap Unicode.upperOf):=by
  unfold Txt.upper placed mkS
  congr 1
  apply Array.toList_inj.mp
  show(Array.flatten (l.toArray.mapIdx fun i c=>(Unicode.upperOf c).toArray)).toList=_
  rw[show(l.toArray.mapIdx fun i c=>(Unicode.upperOf c).toArray)=(l.map fun c=>(Unicode.upperOf c).toArray).toArray from Array.ext (by simp) fun i h1 h2=>by simp only[Array.getElem_mapIdx,List.getElem_toArray,List.getElem_map],toList_flatten]
  simp[List.flatMap]
  rfl
noncomputable def upW (w:List Nat):List Nat:=w.flatMap Unicode.upperOf
end L1
namespace Mine
variable {G:Env'} {n:Nat} {C:Cx} {st:St} {e:Expr}
theorem x_up (s:List Nat) (h0:ev G (n+1) C e st=evMeth (fs G n) C (L1.tx s) "upper" [] [] st) (hl:(L1.upW s).length≤1000):ev G (n+1) C e st=some (L1.tx (L1.upW s),st):=by
  rw[h0];show(gd (decide ((strL (Txt.upper (mkS s))).length≤maxLen)) _).map _=_
  rw[L1.upper_mkS]
  show(gd (decide ((L1.upW s).length≤maxLen)) _).map _=_
  rw[gd_t (L1.maxL hl)];rfl
end Mine
namespace L1
noncomputable def Lay (d:Nat) (x:PyData):Prop:=x.canLay0=true∧x.depth≤d
noncomputable def okT (w:List Nat):Prop:=∀c∈w,c≤1114111
theorem lay_tx {w:List Nat} (h:okT w):Lay 0 (txtD w):=by
  refine⟨?_,Nat.le_refl 0⟩
  show(mkS w).cps.all (·<0x110000)=true
  rw[Array.all_eq_true]
  intro i hi
  exact decide_eq_true (Nat.lt_succ_of_le (h _ (List.getElem_mem (l:=w) (n:=i) hi)))
theorem lay_i (i:Int):Lay 0 (.int i):=⟨rfl,Nat.le_refl 0⟩
theorem lay_b (b:Bool):Lay 0 (.bool b):=⟨rfl,Nat.le_refl 0⟩
theorem lay_all {d:Nat}:∀{xs:List PyData},(∀x∈xs,Lay d x)→PyData.canLayAll0 xs=true∧PyData.depthAll xs≤d
  |[],_=>⟨rfl,Nat.zero_le d⟩
  | x::xs,h=>by
    obtain⟨h1,h2⟩:=lay_all fun y hy=>h y (List.mem_cons_of_mem _ hy)
    obtain⟨h3,h4⟩:=h x List.mem_cons_self
    exact⟨(show(x.canLay0&&PyData.canLayAll0 xs)=true by rw[h3,h1];rfl),Nat.max_le.mpr ⟨h4,h2⟩⟩
theorem lay_l {d:Nat} {xs:List PyData} (h:∀x∈xs,Lay d x):Lay (d+1) (.list xs):=⟨(lay_all h).1,Nat.succ_le_succ (lay_all h).2⟩
theorem lay_t {d:Nat} {xs:List PyData} (h:∀x∈xs,Lay d x):Lay (d+1) (.tuple xs):=⟨(lay_all h).1,Nat.succ_le_succ (lay_all h).2⟩
theorem lay_n {d:Nat}:∀x∈([]:List PyData),Lay d x:=nofun
theorem lay_c {d:Nat} {x:PyData} {xs:List PyData} (h:Lay d x) (h2:∀y∈xs,Lay d y):∀y∈x::xs,Lay d y:=fun y hy=>(List.mem_cons.mp hy).elim (fun e=>e ▸ h) (h2 y)
theorem lay_map {α:Type} {d:Nat} {g:α→PyData} {l:List α} (h:∀a∈l,Lay d (g a)):∀x∈l.map g,Lay d x:=fun x hx=>by
  obtain⟨a,ha,rfl⟩:=List.mem_map.mp hx
  exact h a ha
theorem Lay.mono {c d:Nat} {x:PyData} (h:Lay c x) (hd:c≤d):Lay d x:=⟨h.1,Nat.le_trans h.2 hd⟩
theorem Lay.ok {d:Nat} {x:PyData} (h:Lay d x) (hd:d≤20):okD x=true:=by
  show(x.canLay0&&decide (x.depth≤20))=true
  rw[h.1,decide_eq_true (Nat.le_trans h.2 hd)];rfl
theorem eq_same {o:Objs} {a b:V} {x:PyData} {d:Nat} (ha:rd o a=some x) (hb:rd o b=some x) (hs:asS a=none) (h:Lay d x) (hd:decide (d≤20)=true):cmpop o .Eq a b=some true:=by
  show(((asS a).bind _).elim ((rd o a).bind _) some)=_
  rw[hs,ha];show(rd o b).bind _=_
  rw[hb];show gd (okD x&&okD x) (some (PyData.eqv x x))=_
  rw[h.ok (of_decide_eq_true hd),SeqAt.eqv_refl x h.1];rfl
theorem ne_same {o:Objs} {a b:V} {x:PyData} {d:Nat} (ha:rd o a=some x) (hb:rd o b=some x) (hs:asS a=none) (h:Lay d x) (hd:decide (d≤20)=true):cmpop o .NotEq a b=some false:=by
  show(cmpop o .Eq a b).map not=_
  rw[eq_same ha hb hs h hd];rfl
theorem lowW_eq {w:List Nat} (h:931∉w):lowW w=w.flatMap Unicode.lowerOf:=congrArg strL (lower_mkS w h)
end L1
end
section
open PySem PySem.W Mine V02
namespace L1
noncomputable def wdN (p q:Nat) (a:Nat×Nat):List Nat:=List.replicate a.1 p++List.replicate a.2 q
noncomputable def smB (b:Bk):List (List Nat):=(plN b).map (wdN b.p b.q)
noncomputable def K3 (b:Bk):List (Str×V):=("small",.d (.list ((smB b).map txtD)))::K2 b
theorem mulT {o:Mine.Objs} {p x:Nat} (h:x≤1000):binop o .Mult (tx [p]) (ii x)=some (tx (List.replicate x p)):=by
  have e:repL (x:Int) [p]=List.replicate x p:=by
    unfold repL
    rw[Int.toNat_natCast]
    clear h
    induction x with
    |zero=>rfl
    |succ x ih=>rw[List.replicate_succ,List.flatten_cons,ih];rfl
  show gd (repOk x 1) (some (V.d (.str (mkS (repL x [p])))))=_
  rw[e,gd_t ?_];rfl
  unfold repOk
  exact decide_eq_true ⟨by omega,by show(x:Int)≤((1000000:Nat):Int);omega,by rw[Int.toNat_natCast];show x * 1≤1000000;omega⟩
theorem rz_lt {lo hi m j:Nat} (hm:1≤m):j<rz lo hi m↔lo+j * m<hi:=by
  have hs:∀{s:Nat},(s:Int) * m=((s * m:Nat):Int):=fun {s}=>by omega
  unfold rz Builtin.Range.rangeSize
  rw[if_pos (by omega)]
  split
  · have h1:=Nat.le_div_iff_mul_le (k:=m) (x:=j) (y:=hi - lo - 1) hm
    rw[show(hi:Int) - (lo:Int) - 1=((hi - lo - 1:Nat):Int) by omega,←Int.natCast_ediv]
    generalize (hi - lo - 1) / m=d at h1 ⊢
    generalize j * m=t at h1 ⊢
    omega
  · rw[Int.toNat_zero]
    generalize j * m=t
    omega
theorem mem_xs {b:Bk} (hm:1≤b.m) {x y:Nat}:x∈xsN b y↔x≤b.w∧x % b.m=x0N b y:=by
  have hx:x0N b y<b.m:=md_lt (Nat.ne_of_gt hm)
  refine List.mem_map.trans ⟨fun⟨j,hj,e⟩=>?_,fun⟨h1,h2⟩=>⟨x / b.m,?_,?_⟩⟩
  · have h:=(rz_lt hm).mp (List.mem_range.mp hj)
    rw[←e]
    exact⟨Nat.le_of_lt_succ h,by rw[Nat.add_mul_mod_self_right,Nat.mod_eq_of_lt hx]⟩
  · have:=Nat.div_add_mod x b.m
    rw[Nat.mul_comm]at this
    exact List.mem_range.mpr ((rz_lt hm).mpr (by omega))
  · have:=Nat.div_add_mod x b.m
    rw[Nat.mul_comm]at this
    omega
theorem mem_pl {b:Bk} (hm:1≤b.m) {a:Nat×Nat}:a∈plN b↔a.2≤b.h∧a.1≤b.w∧a.1 % b.m=x0N b a.2:=by
  obtain⟨x,y⟩:=a
  refine List.mem_flatMap.trans ⟨fun⟨y',hy,h⟩=>?_,fun⟨h1,h2⟩=>⟨y,List.mem_range.mpr (Nat.lt_succ_of_le h1),List.mem_map.mpr ⟨x,(mem_xs hm).mpr h2,rfl⟩⟩⟩
  obtain⟨x',hx,e⟩:=List.mem_map.mp h
  cases e
  exact⟨Nat.le_of_lt_succ (List.mem_range.mp hy),(mem_xs hm).mp hx⟩
theorem pl_bd {b:Bk} (hb:BkOK b) {a:Nat×Nat} (h:a∈plN b):a.1≤b.w∧a.2≤b.h:=⟨((mem_pl hb.m.1).mp h).2.1,((mem_pl hb.m.1).mp h).1⟩
theorem fm_len2 {α:Type} {f:Nat→List α} {m:Nat} (h:∀y,(f y).length≤m):∀l:List Nat,(l.flatMap f).length≤m * l.length
  |[]=>Nat.le_refl 0
  |y::l=>by rw[List.flatMap_cons,List.length_append,List.length_cons,Nat.mul_succ,Nat.add_comm];exact Nat.add_le_add (fm_len2 h l) (h y)
theorem rz_le2 {lo hi m:Nat} (hm:1≤m):rz lo hi m≤hi:=Nat.le_of_not_lt fun h=>by
  have:=(rz_lt hm).mp h
  have:=Nat.le_mul_of_pos_right hi hm
  omega
theorem plN_len {b:Bk} (hb:BkOK b):(plN b).length≤441:=by
  have:=hb.w;have:=hb.h
  refine Nat.le_trans (fm_len2 (m:=21) (fun y=>?_) _) (by rw[List.length_range];omega)
  rw[List.length_map]
  exact Nat.le_trans (Nat.le_of_eq ((List.length_map ..).trans List.length_range)) (Nat.le_trans (rz_le2 hb.m.1) (by omega))
theorem pl_nodup {b:Bk} (hm:1≤b.m):(plN b).Nodup:=by
  have hx (y:Nat):(xsN b y).Nodup:=List.pairwise_map.mpr (List.nodup_range.imp fun {j j'} h e=>h (Nat.eq_of_mul_eq_mul_right hm (Nat.add_left_cancel e)))
  refine List.pairwise_flatMap.mpr ⟨fun y _=>List.pairwise_map.mpr ((hx y).imp fun {x x'} h e=>h (congrArg Prod.fst e)),List.pairwise_lt_range.imp fun {y y'} h a ha a' ha' e=>?_⟩
  · obtain⟨x,_,rfl⟩:=List.mem_map.mp ha
    obtain⟨x',_,rfl⟩:=List.mem_map.mp ha'
    exact Nat.ne_of_lt h (congrArg Prod.snd e)
theorem wd_len {p q:Nat} {a:Nat×Nat}:(wdN p q a).length=a.1+a.2:=by unfold wdN;rw[List.length_append,List.length_replicate,List.length_replicate]
section
variable {n:Nat} {b:Bk} {o:Objs}
theorem bk2 {P:Fl×St→Prop} (hb:BkOK b) (h:Hd (exs (ex G (n+38+2) CK) (BK.drop (2+1)) (S NK (K3 b) z0 o)) P):Hd (exs (ex G (n+38+2) CK) (BK.drop 2) (S NK (K2 b) z0 o)) P:=by
  refine A (.fl ((smB b).map txtD)) (st1:=S NK (K2 b) z0 o) (S NK (K3 b) z0 o) (as_h ⋯ _) ?_ ⋯ h
  refine(x_mit (N:=[".0","x","y","p","q"]) (.vals ((plN b).map plD)) (plN b) plD (fun a=>tx (wdN b.p b.q a)) (fun a=>txtD (wdN b.p b.q a)) [("p",tx [b.p]),("q",tx [b.q])] (fun a=>[("x",ii a.1),("y",ii a.2),("p",tx [b.p]),("q",tx [b.q])]) z0 (comp_h ⋯) (i_val (v:= .d (.list ((plN b).map plD))) ⋯ ⋯ ⋯) rfl (fun _=>rfl) ⋯ (decide_eq_true (Nat.le_trans (plN_len hb) (by decide))) ⋯ (fun _ _ _=>⋯) (fun _ _=>⋯) ⋯ (fun a σ ha=>?_) (fun _ _=>⋯)).trans ?_
  · have hp:=pl_bd hb ha
    have:=hb.w;have:=hb.h
    exact x_bo .Add ⋯ (x_bo .Mult ⋯ ⋯ ⋯ (mulT (by omega))) (x_bo .Mult ⋯ ⋯ ⋯ (mulT (by omega))) (addT (by rw[List.length_replicate,List.length_replicate];omega))
  · exact congrArg (fun l=>some (V.fl l,S NK (K2 b) z0 o)) (map_c (g:=txtD) (f:=wdN b.p b.q) _)
end
end L1
end
section
open PySem PySem.W Mine V02
namespace L1
noncomputable def cp (e:Bool) (p:Nat):Nat:=bif e then p - 32 else p
noncomputable def ltOk (p:Nat):Bool:=[true,false].all fun e=>Unicode.lowerOf (cp e p)==[p]&&(Unicode.upperOf (cp e p)==[cp true p]&&(M (cp e p)==[p]&& !isB1 (cp e p)))
theorem lts_ok:((List.range 26).all fun l=>ltOk (97+l))=true:=by decide+kernel
structure LT (p:Nat):Prop where
  a:97≤p
  z:p≤122
theorem LT.ok {p:Nat} (h:LT p) (e:Bool):Unicode.lowerOf (cp e p)=[p]∧Unicode.upperOf (cp e p)=[cp true p]∧M (cp e p)=[p]∧isB1 (cp e p)=false:=by
  have h1:=List.all_eq_true.mp lts_ok (p - 97) (List.mem_range.mpr (by have:=h.a;have:=h.z;omega))
  rw[show 97+(p - 97)=p by have:=h.a;omega]at h1
  obtain⟨q1,q⟩:=bA (List.all_eq_true.mp h1 e (by cases e<;>decide))
  obtain⟨q2,q⟩:=bA q
  obtain⟨q3,q4⟩:=bA q
  exact⟨eq_of_beq q1,eq_of_beq q2,eq_of_beq q3,(Bool.not_eq_true' _).mp q4⟩
theorem LT.bd {p:Nat} (h:LT p) (e:Bool):65≤cp e p∧cp e p≤122:=by
  have:=h.a;have:=h.z
  cases e
  · exact⟨by show 65≤p;omega,h.z⟩
  · exact⟨by show 65≤p - 32;omega,by show p - 32≤122;omega⟩
theorem fm_rep {f:Nat→List Nat} {c d:Nat} (h:f c=[d]):∀x,(List.replicate x c).flatMap f=List.replicate x d
  |0=>rfl
  |x+1=>by rw[List.replicate_succ,List.flatMap_cons,h,fm_rep h x];rfl
theorem fm_wd {f:Nat→List Nat} {p q p' q':Nat} (h:f p=[p']) (h2:f q=[q']) (a:Nat×Nat):(wdN p q a).flatMap f=wdN p' q' a:=by
  unfold wdN;rw[List.flatMap_append,fm_rep h,fm_rep h2]
theorem mem_wd {p q c:Nat} {a:Nat×Nat} (h:c∈wdN p q a):c=p∨c=q:=(List.mem_append.mp h).imp (fun h=>(List.mem_replicate.mp h).2) fun h=>(List.mem_replicate.mp h).2
structure LL (p q:Nat):Prop where
  l:LT p
  r:LT q
  n:p≠q
section
variable {p q:Nat} (h:LL p q) (e e':Bool) (a:Nat×Nat)
include h
theorem up_wd:upW (wdN (cp e p) (cp e' q) a)=wdN (cp true p) (cp true q) a:=fm_wd (h.l.ok e).2.1 (h.r.ok e').2.1 a
theorem wd_bd {c:Nat} (hc:c∈wdN (cp e p) (cp e' q) a):65≤c∧c≤122:=(mem_wd hc).elim (fun x=>x ▸ h.l.bd e) fun x=>x ▸ h.r.bd e'
theorem low_wd:lowW (wdN (cp e p) (cp e' q) a)=wdN p q a:=(lowW_eq fun x=>absurd (wd_bd h e e' a x).2 (by decide)).trans (fm_wd (h.l.ok e).1 (h.r.ok e').1 a)
theorem pre_wd:preW (wdN (cp e p) (cp e' q) a)=wdN p q a:=by
  unfold preW
  rw[List.filter_eq_self.mpr fun c hc=>(mem_wd hc).elim (fun x=>by rw[x,(h.l.ok e).2.2.2];rfl) fun x=>by rw[x,(h.r.ok e').2.2.2];rfl]
  exact fm_wd (h.l.ok e).2.2.1 (h.r.ok e').2.2.1 a
theorem okW_wd:okW (wdN (cp e p) (cp e' q) a)=true:=List.all_eq_true.mpr fun c hc=>by
  have:=wd_bd h e e' a hc
  rw[decide_eq_true (show 32≤c by omega)]
  exact bne_iff_ne.mpr (by omega)
theorem okT_wd:okT (wdN (cp e p) (cp e' q) a):=fun c hc=>Nat.le_trans (wd_bd h e e' a hc).2 (by decide)
theorem wd_inj {a c:Nat×Nat} (hh:wdN p q a=wdN p q c):a=c:=by
  have h1:=congrArg (List.count p) hh
  have h2:=congrArg (List.count q) hh
  have n:=h.n
  unfold wdN at h1 h2
  simp only[List.count_append,List.count_replicate,beq_iff_eq,n,Ne.symm n,if_true,if_false,Nat.add_zero,Nat.zero_add]at h1 h2
  exact Prod.ext h1 h2
theorem sH_wd {a c:Nat×Nat} {v:List Nat}:sH (wdN p q a) (wdN (cp e p) (cp e' q) c,v)=decide (c=a):=by
  unfold sH
  rw[low_wd h]
  by_cases hc:c=a
  · rw[hc,decide_eq_true rfl];exact beq_self_eq_true _
  · rw[decide_eq_false hc];exact beq_false_of_ne fun x=>hc (wd_inj h x)
end
noncomputable def oldT:List Nat:=[111,108,100]
noncomputable def olderT:List Nat:=[111,108,100,101,114]
noncomputable def evA (a:Nat×Nat):Bool:=(a.1+a.2) % 2==0
noncomputable def spN (p q:Nat) (a:Nat×Nat):List Nat:=wdN (cp (evA a) p) (cp (!evA a) q) a
noncomputable def numW (x:Nat):List Nat:=strL (Str.ofString (toString (x:Int)))
noncomputable def vlN (a:Nat×Nat):List Nat:=numW a.1++[32]++numW a.2
noncomputable def oldE (p q:Nat) (a:Nat×Nat):Ent:=(wdN p q a,oldT)
noncomputable def newE (p q:Nat) (a:Nat×Nat):Ent:=(spN p q a,vlN a)
noncomputable def stepE (p q:Nat) (es:List Ent) (a:Nat×Nat):List Ent:=delE (wdN p q a) es++[newE p q a]
noncomputable def e0E (p q:Nat) (a:Nat×Nat) (r:List (Nat×Nat)):List Ent:=(a::r).reverse.map (oldE p q)++[(wdN (cp true p) (cp true q) a,olderT)]
noncomputable def e1E (p q:Nat) (r:List (Nat×Nat)):List Ent:=r.reverse.map (oldE p q)
section
variable {p q:Nat} (h:LL p q)
include h
theorem sH_old {a c:Nat×Nat}:sH (wdN p q a) (oldE p q c)=decide (c=a):=sH_wd h false false
theorem sH_new {a c:Nat×Nat}:sH (wdN p q a) (newE p q c)=decide (c=a):=sH_wd h _ _
theorem del_app {w:List Nat} {x y:List Ent}:delE w (x++y)=delE w x++delE w y:=List.filter_append ..
theorem del_old {a:Nat×Nat} {l:List (Nat×Nat)} (hn:a∉l):delE (wdN p q a) (l.map (oldE p q))=l.map (oldE p q):=List.filter_eq_self.mpr fun x hx=>by
  obtain⟨c,hc,rfl⟩:=List.mem_map.mp hx
  rw[sH_old h,decide_eq_false (fun e:c=a=>hn (e ▸ hc))];rfl
theorem del_new {a:Nat×Nat} {l:List (Nat×Nat)} (hn:a∉l):delE (wdN p q a) (l.map (newE p q))=l.map (newE p q):=List.filter_eq_self.mpr fun x hx=>by
  obtain⟨c,hc,rfl⟩:=List.mem_map.mp hx
  rw[sH_new h,decide_eq_false (fun e:c=a=>hn (e ▸ hc))];rfl
theorem st_all:∀(l s:List (Nat×Nat)),l.Nodup→(∀a∈l,a∉s)→l.foldl (stepE p q) (e1E p q l++s.map (newE p q))=(s++l).map (newE p q)
  |[],s,_,_=>by rw[List.append_nil];rfl
  | a ::l,s,hn,hs=>by
    obtain⟨n1,n2⟩:=List.nodup_cons.mp hn
    rw[List.foldl_cons]
    have e:stepE p q (e1E p q (a::l)++s.map (newE p q)) a=e1E p q l++(s++[a]).map (newE p q):=by
      unfold stepE e1E
      rw[List.reverse_cons,List.map_append,del_app h,del_app h,del_old h fun x=>n1 (List.mem_reverse.mp x),del_new h (hs a List.mem_cons_self)]
      rw[show delE (wdN p q a) ([a].map (oldE p q))=[]from List.filter_eq_nil_iff.mpr fun x hx=>by
        rw[List.mem_singleton.mp hx,sH_old h,decide_eq_true rfl];decide]
      rw[List.append_nil,List.append_assoc,List.map_append];rfl
    rw[e,st_all l (s++[a]) n2 fun c hc hm=>(List.mem_append.mp hm).elim (hs c (List.mem_cons_of_mem _ hc)) fun x=>n1 (List.mem_singleton.mp x ▸ hc),List.append_assoc];rfl
variable {a:Nat×Nat} {r:List (Nat×Nat)}
theorem st_end (hn:(a::r).Nodup):(a::r).foldl (stepE p q) (e1E p q r)=(a::r).map (newE p q):=by
  obtain⟨n1,n2⟩:=List.nodup_cons.mp hn
  rw[List.foldl_cons]
  have e:stepE p q (e1E p q r) a=e1E p q r++[a].map (newE p q):=by
    unfold stepE e1E
    rw[del_old h fun x=>n1 (List.mem_reverse.mp x)];rfl
  rw[e,st_all h r [a] n2 fun c hc hm=>n1 (List.mem_singleton.mp hm ▸ hc)];rfl
theorem e0_split:e0E p q a r=e1E p q r++[oldE p q a,(wdN (cp true p) (cp true q) a,olderT)]:=by
  unfold e0E e1E
  rw[List.reverse_cons,List.map_append,List.append_assoc];rfl
theorem two_H:[oldE p q a,(wdN (cp true p) (cp true q) a,olderT)].filter (sH (wdN p q a))=[oldE p q a,(wdN (cp true p) (cp true q) a,olderT)]:=by
  rw[List.filter_cons,sH_old h,List.filter_cons,sH_wd h,decide_eq_true rfl];rfl
theorem e1_fil (hn:(a::r).Nodup):(e1E p q r).filter (sH (wdN p q a))=[]:=List.filter_eq_nil_iff.mpr fun x hx=>by
  obtain⟨c,hc,rfl⟩:=List.mem_map.mp hx
  rw[sH_old h,decide_eq_false (fun e:c=a=>(List.nodup_cons.mp hn).1 (List.mem_reverse.mp (e ▸ hc)))];decide
theorem e0_fil (hn:(a::r).Nodup):(e0E p q a r).filter (sH (wdN p q a))=[oldE p q a,(wdN (cp true p) (cp true q) a,olderT)]:=by
  rw[e0_split h,List.filter_append,e1_fil h hn,two_H h];rfl
theorem e0_find (hn:(a::r).Nodup):(e0E p q a r).find? (sH (wdN p q a))=some (oldE p q a):=by
  rw[←List.head?_filter,e0_fil h hn];rfl
theorem e0_del (hn:(a::r).Nodup):delE (wdN p q a) (e0E p q a r)=e1E p q r:=by
  rw[e0_split h,del_app h,show delE (wdN p q a) (e1E p q r)=e1E p q r from del_old h fun x=>(List.nodup_cons.mp hn).1 (List.mem_reverse.mp x)]
  rw[show delE (wdN p q a) [oldE p q a,(wdN (cp true p) (cp true q) a,olderT)]=[]from List.filter_eq_nil_iff.mpr fun x hx=>by
    rcases List.mem_cons.mp hx with e |hx
    · rw[e,sH_old h,decide_eq_true rfl];decide
    · rw[List.mem_singleton.mp hx,sH_wd h,decide_eq_true rfl];decide,List.append_nil]
theorem e1_nil (hn:∀c∈r,c≠(0,0)):delE [] (e1E p q r)=e1E p q r:=del_old (a:=(0,0)) h fun x=>hn _ (List.mem_reverse.mp x) rfl
end
theorem pl_tail {b:Bk} (hm:1≤b.m) {a:Nat×Nat} {r:List (Nat×Nat)} (h:plN b=a::r):∀c∈r,c≠(0,0):=by
  intro c hc e
  subst e
  have hp:=(mem_pl hm).mp (h ▸ List.mem_cons_of_mem a hc)
  have hx:x0N b 0=0:=hp.2.2.symm.trans (Nat.zero_mod _)
  have h1:0<rz (x0N b 0) (b.w+1) b.m:=(rz_lt hm).mpr (by rw[hx];omega)
  have e:plN b=(0,0)::(plN b).tail:=by
    unfold plN
    rw[List.range_succ_eq_map,List.flatMap_cons]
    unfold xsN
    obtain⟨k,hk⟩:∃k,rz (x0N b 0) (b.w+1) b.m=k+1:=⟨_,(Nat.succ_pred_eq_of_pos h1).symm⟩
    rw[hk,List.range_succ_eq_map,List.map_cons,List.map_cons,hx,Nat.zero_mul];rfl
  rw[h]at e
  have ha:a=(0,0):=(List.cons.inj e).1
  have hn:=pl_nodup hm
  rw[h,ha]at hn
  exact(List.nodup_cons.mp hn).1 hc
end L1
end
section
open PySem PySem.W Mine V02
namespace L1
theorem sl_rev {o:Objs} {xs:List PyData} (hl:xs.length≤1000):sliceV o (.d (.list xs)) none none (some (ii (-1)))=some (.fl xs.reverse):=gd_t (maxL hl)
theorem addF {o:Objs} {xs ys:List PyData} (h:xs.length+ys.length≤1000000):binop o .Add (.fl xs) (.fl ys)=some (.fl (xs++ys)):=gd_t (decide_eq_true h)
noncomputable def OB (c0 c1:Cell) (es:List Ent) (r:Objs):Objs:=c0::c1:: .list (es.map entD):: .inst (some 2)::r
noncomputable def K4 (b:Bk):List (Str×V):=("lines",.hl 2)::K3 b
noncomputable def K5 (b:Bk):List (Str×V):=("book",.obj 3)::K4 b
noncomputable def K6 (b:Bk):List (Str×V):=("found",.hl 5)::("spelled",.hl 4)::K5 b
noncomputable def F0 (p q:Nat) (a:Nat×Nat) (r:List (Nat×Nat)):List PyData:=[elI (e0E p q a r).length,.list ((e0E p q a r).map fun p=>txtD p.2),txtD oldT,.list [txtD oldT,txtD olderT]]
theorem OB_HA {c0 c1:Cell} {es:List Ent} {r:Objs} (h:es.length≤1000):HA (OB c0 c1 es r) 3 2 es:=⟨rfl,rfl,h⟩
section
variable {n:Nat} {b:Bk} {c0 c1:Cell} {a:Nat×Nat} {r:List (Nat×Nat)} {P:Fl×St→Prop}
theorem sm_hd (hp:plN b=a::r):((smB b).map txtD)[0]?=some (txtD (wdN b.p b.q a)):=by unfold smB;rw[hp];rfl
theorem sm_len (hb:BkOK b):((smB b).map txtD).length≤441:=Nat.le_trans (Nat.le_of_eq ((List.length_map ..).trans (List.length_map ..))) (plN_len hb)
theorem sm_map:(smB b).map txtD=(plN b).map fun c=>txtD (wdN b.p b.q c):=List.map_map ..
theorem e0_len (hb:BkOK b) (hp:plN b=a::r):(e0E b.p b.q a r).length≤442:=by
  have:=plN_len hb
  rw[hp]at this
  unfold e0E
  rw[List.length_append,List.length_map,List.length_reverse]
  exact Nat.succ_le_succ this
theorem up_len (hl:LL b.p b.q) (hb:BkOK b) {c:Nat×Nat} (hc:c∈plN b) (e e':Bool):(wdN (cp e b.p) (cp e' b.q) c).length≤1000:=by
  have:=pl_bd hb hc
  have:=hb.w;have:=hb.h
  rw[wd_len];omega
theorem bk_a (hb:BkOK b) (hp:plN b=a::r) {N:List Str} {L:List (Str×V)} {σ:Str→Option V} {o:Objs} {C:Cx} {e:Expr} (hl:LL b.p b.q) (h0:ev G (n+1) C e (S N L σ o)=(ev G n C (kd (kd e 0) 0) (S N L σ o)).bind fun p=>evMeth (fs G n) C p.1 "upper" [] [] p.2) (h1:ev G n C (kd (kd e 0) 0) (S N L σ o)=some (tx (wdN b.p b.q a),S N L σ o)):ev G (n+1) C e (S N L σ o)=some (tx (wdN (cp true b.p) (cp true b.q) a),S N L σ o):=by
  have hu:=up_wd hl false false a
  exact(x_up (wdN b.p b.q a) (x_rc h0 h1) (by rw[show upW (wdN b.p b.q a)=_ from hu];exact up_len hl hb (hp ▸ List.mem_cons_self) true true)).trans (by rw[show upW (wdN b.p b.q a)=_ from hu])
theorem bk_0 (hb:BkOK b) (hp:plN b=a::r) {N:List Str} {L:List (Str×V)} {σ:Str→Option V} {o:Objs} {C:Cx} {e:Expr} (h0:ev G (n+1) C e (S N L σ o)=evItem (fs G n) C (kd e 0) (kd e 1) (S N L σ o)) (h1:ev G n C (kd e 0) (S N L σ o)=some (.d (.list ((smB b).map txtD)),S N L σ o)) (h2:ev G n C (kd e 1) (S N L σ o)=some (.d (.int (0:Nat)),S N L σ o)):ev G (n+1) C e (S N L σ o)=some (tx (wdN b.p b.q a),S N L σ o):=
  x_item (j:=(0:Nat)) h0 h1 h2 (itL (idx_nat (List.getElem?_eq_some_iff.mp (sm_hd hp)).1 (Nat.le_trans (sm_len hb) (by decide))) (sm_hd hp))
theorem bk3 (hb:BkOK b) (hl:LL b.p b.q) (hp:plN b=a::r) (h:Hd (exs (ex G (n+98+2) CK) (BK.drop (3+1)) (S NK (K4 b) z0 [c0,c1,.list ((e0E b.p b.q a r).map entD)])) P):Hd (exs (ex G (n+98+2) CK) (BK.drop 3) (S NK (K3 b) z0 [c0,c1])) P:=by
  refine A (.fl ((e0E b.p b.q a r).map entD)) (st1:=S NK (K3 b) z0 [c0,c1]) (S NK (K4 b) z0 [c0,c1,.list ((e0E b.p b.q a r).map entD)]) (as_h ⋯ _) ?_ ⋯ h
  have hn:=plN_len hb
  refine(x_bo .Add (a:= .fl ((plN b).reverse.map fun c=>entD (oldE b.p b.q c))) (b:= .fl [entD (wdN (cp true b.p) (cp true b.q) a,olderT)]) ⋯ ?_ ?_ (addF ?_)).trans ?_
  · refine x_mit (N:=[".0","name"]) (.vals ((plN b).reverse.map fun c=>txtD (wdN b.p b.q c))) (plN b).reverse (fun c=>txtD (wdN b.p b.q c)) (fun c=> .d (entD (oldE b.p b.q c))) (fun c=>entD (oldE b.p b.q c)) [] (fun c=>[("name",tx (wdN b.p b.q c))]) z0 (comp_h ⋯) ?_ rfl (fun _=>rfl) ⋯ (decide_eq_true (by rw[List.length_reverse];exact Nat.le_trans hn (by decide))) ⋯ (fun _ _ _=>⋯) (fun _ _=>⋯) ⋯ (fun _ _ _=>⋯) (fun _ _=>⋯)
    refine i_val (v:= .fl ((plN b).reverse.map fun c=>txtD (wdN b.p b.q c))) ⋯ ((x_slice (w:= .d (.list ((smB b).map txtD))) (lo:=none) (hi:=none) (sp:=some (kd (kd (kd (kd (sE BK 3 0) 0) 1) 1) 0)) (s:=some (ii (-1))) ⋯ ⋯ ⋯ ⋯ ⋯ (sl_rev (Nat.le_trans (sm_len hb) (by decide)))).trans ?_) ⋯
    rw[sm_map,List.map_reverse]
  · exact x_list (vs:=[.d (entD (wdN (cp true b.p) (cp true b.q) a,olderT))]) ⋯ (evs1 (x_tup (vs:=[tx (wdN (cp true b.p) (cp true b.q) a),tx olderT]) ⋯ (evs_c (bk_a hb hp hl ⋯ (bk_0 hb hp ⋯ ⋯ ⋯)) (evs1 ⋯)) ⋯ ⋯ ⋯)) ⋯ ⋯
  · rw[List.length_map,List.length_reverse];exact Nat.le_trans (Nat.succ_le_succ hn) (by decide)
  · refine congrArg (fun l=>some (V.fl l,S NK (K3 b) z0 [c0,c1])) ?_
    unfold e0E
    rw[List.map_append,←hp,List.map_map];rfl
end
end L1
end
section
open PySem PySem.W Mine V02
namespace L1
section
variable {n:Nat} {b:Bk} {c0 c1:Cell} {a:Nat×Nat} {r:List (Nat×Nat)} {P:Fl×St→Prop}
theorem e0_mem {p q:Nat} {x:Ent} (h:x∈e0E p q a r):∃e c,c∈a::r∧x.1=wdN (cp e p) (cp e q) c∧okW x.2=true:=(List.mem_append.mp h).elim (fun h=>by
  obtain⟨c,hc,rfl⟩:=List.mem_map.mp h
  exact⟨false,c,List.mem_reverse.mp hc,rfl,⋯⟩) fun h=>by
  rw[List.mem_singleton.mp h]
  exact⟨true,a,List.mem_cons_self,rfl,⋯⟩
theorem e0_le (hl:LL b.p b.q) (hb:BkOK b) (hp:plN b=a::r):∀x∈e0E b.p b.q a r,x.1.length≤1000:=fun x hx=>by
  obtain⟨e,c,hc,h,_⟩:=e0_mem hx
  rw[h];exact up_len hl hb (hp ▸ hc) e e
theorem bk4 (hb:BkOK b) (hl:LL b.p b.q) (hp:plN b=a::r) (h:Hd (exs (ex G (n+98+2) CK) (BK.drop (4+1)) (S NK (K5 b) z0 (OB c0 c1 (e0E b.p b.q a r) []))) P):Hd (exs (ex G (n+98+2) CK) (BK.drop 4) (S NK (K4 b) z0 [c0,c1,.list ((e0E b.p b.q a r).map entD)])) P:=
  A (.obj 3) (st1:=S NK (K4 b) z0 (OB c0 c1 (e0E b.p b.q a r) [])) (S NK (K5 b) z0 (OB c0 c1 (e0E b.p b.q a r) [])) (as_h ⋯ _)
    (x_new (vs:=[.hl 2]) ⋯ (evs1 ⋯) (init_spec (n:=n+43) (o:=[c0,c1,.list ((e0E b.p b.q a r).map entD)]) (h:=2) rfl (Nat.le_trans (e0_len hb hp) (by decide)) fun x hx=>by
      obtain⟨e,c,hc,h,h2⟩:=e0_mem hx
      rw[h];exact⟨okW_wd hl e e c,h2⟩)) ⋯ h
theorem bk5 (hb:BkOK b) (hl:LL b.p b.q) (hp:plN b=a::r) (h:Hd (exs (ex G (n+98+2) CK) (BK.drop (5+1)) (S NK (K6 b) z0 (OB c0 c1 (e0E b.p b.q a r) [.list [],.list (F0 b.p b.q a r)]))) P):Hd (exs (ex G (n+98+2) CK) (BK.drop 5) (S NK (K5 b) z0 (OB c0 c1 (e0E b.p b.q a r) []))) P:=by
  have hn:=e0_len hb hp
  have H:HA (OB c0 c1 (e0E b.p b.q a r) []) 3 2 (e0E b.p b.q a r):=OB_HA (Nat.le_trans hn (by decide))
  have hnd:(a::r).Nodup:=hp ▸ pl_nodup hb.m.1
  have hw:=low_wd hl true true a
  have hu:(wdN (cp true b.p) (cp true b.q) a).length≤1000:=up_len hl hb (hp ▸ List.mem_cons_self) true true
  have ho:okW (lowW (wdN (cp true b.p) (cp true b.q) a))=true:=hw ▸ okW_wd hl false false a
  refine AQ true [.fl (F0 b.p b.q a r),.fl []] ⋯ (evs_c (x_list (vs:=[ii (e0E b.p b.q a r).length,.fl ((e0E b.p b.q a r).map fun p=>txtD p.2),tx oldT,.fl [txtD oldT,txtD olderT]]) ⋯
    (evs_c (x_ln ⋯ (evs1 (v:= .obj 3) ⋯) ⋯ (len_spec H) (Nat.le_trans hn (by decide))) (evs_c (x_ob 3 "values" "Headers.values" ⋯ ⋯ H.is ⋯ ⋯ (values_spec H))
      (evs_c (x_ob 3 "get" "Headers.get" ⋯ ⋯ H.is (evs1 (bk_a hb hp hl ⋯ (bk_0 hb hp ⋯ ⋯ ⋯))) ⋯ ((get_spec H (e0_le hl hb hp) hu ho).trans (by rw[hw,e0_find hl hnd];rfl)))
        (evs1 (x_ob 3 "get_all" "Headers.get_all" ⋯ ⋯ H.is (evs1 (bk_0 hb hp ⋯ ⋯ ⋯)) ⋯ ((all_spec H (e0_le hl hb hp) (up_len hl hb (hp ▸ List.mem_cons_self) false false) ((low_wd hl false false a).symm ▸ okW_wd hl false false a)).trans (by rw[low_wd hl false false a,e0_fil hl hnd];rfl))))))) ⋯ ⋯) (evs1 ⋯)) ⋯ h
noncomputable def w6 (p q:Nat) (a:Nat×Nat):List (List Nat):=[wdN (cp true p) (cp true q) a,[]]
noncomputable def E6 (p q:Nat) (a:Nat×Nat) (r:List (Nat×Nat)) (j:Nat):List Ent:=([e0E p q a r,e1E p q r,e1E p q r]).getD j []
theorem e1_le (hl:LL b.p b.q) (hb:BkOK b) (hp:plN b=a::r):∀x∈e1E b.p b.q r,x.1.length≤1000:=fun x hx=>by
  obtain⟨c,hc,rfl⟩:=List.mem_map.mp hx
  exact up_len hl hb (hp ▸ List.mem_cons_of_mem _ (List.mem_reverse.mp hc)) false false
theorem e1_len (hb:BkOK b) (hp:plN b=a::r):(e1E b.p b.q r).length≤440:=by
  have:=plN_len hb
  rw[hp]at this
  unfold e1E
  rw[List.length_map,List.length_reverse]
  exact Nat.le_of_succ_le_succ this
theorem bk6 (hb:BkOK b) (hl:LL b.p b.q) (hp:plN b=a::r) {o:Objs} (h:∀σ t,Hd (exs (ex G (n+98+2) CK) (BK.drop (6+1)) (S NK (K6 b) σ (OB c0 c1 (e1E b.p b.q r) o++t))) P):Hd (exs (ex G (n+98+2) CK) (BK.drop 6) (S NK (K6 b) z0 (OB c0 c1 (e0E b.p b.q a r) o))) P:=by
  have hn:=e0_len hb hp
  have hnd:(a::r).Nodup:=hp ▸ pl_nodup hb.m.1
  refine FE (N:=NK) (.vals ((w6 b.p b.q a).map txtD)) 2 (fun j=>txtD ((w6 b.p b.q a).getD j [])) (fun _=>K6 b) (fun j=>("name",tx ((w6 b.p b.q a).getD j []))::K6 b) (fun j=>OB c0 c1 (E6 b.p b.q a r j) o) (for_h ⋯) ⋯ (fun _ _=>rfl)
    (i_val (v:= .fl ((w6 b.p b.q a).map txtD)) ⋯ (x_list (vs:=[tx (wdN (cp true b.p) (cp true b.q) a),tx []]) ⋯ (evs_c (bk_a hb hp hl ⋯ (bk_0 hb hp ⋯ ⋯ ⋯)) (evs1 ⋯)) ⋯ ⋯) ⋯) ⋯ (σ:=z0) (t0:=[]) (congrArg (S NK (K6 b) z0) (List.append_nil _).symm) (fun _ _ _ _=>⋯) (fun j σ t hj=>?_) h
  match j,hj with
  | 0,_=>
    have H:HA (OB c0 c1 (e0E b.p b.q a r) o++t) 3 2 (e0E b.p b.q a r):=OB_HA (Nat.le_trans hn (by decide))
    have hw:=low_wd hl true true a
    refine DL (C:=CK) (B:=sB BK 6) (k:=0) (k':=0) (i:=3) (a:=tx (wdN (cp true b.p) (cp true b.q) a)) ⋯ rfl ⋯ ⋯ H.is rfl ((del_spec H (e0_le hl hb hp) (up_len hl hb (hp ▸ List.mem_cons_self) true true) (hw ▸ okW_wd hl false false a)).trans (by rw[hw,e0_del hl hnd])) ?_
    exact .of (a:=(.next,S NK (K6 b) (ovs (("name",tx (wdN (cp true b.p) (cp true b.q) a))::K6 b) σ) (OB c0 c1 (e1E b.p b.q r) o++t))) ⋯ ⟨rfl,_,t,rfl⟩
  | 1,_=>
    have H:HA (OB c0 c1 (e1E b.p b.q r) o++t) 3 2 (e1E b.p b.q r):=OB_HA (Nat.le_trans (e1_len hb hp) (by decide))
    refine DL (C:=CK) (B:=sB BK 6) (k:=0) (k':=0) (i:=3) (a:=tx []) ⋯ rfl ⋯ ⋯ H.is rfl ((del_spec H (e1_le hl hb hp) (by decide) ⋯).trans (by rw[show lowW []=[]from ⋯,e1_nil hl (pl_tail hb.m.1 hp)])) ?_
    exact .of (a:=(.next,S NK (K6 b) (ovs (("name",tx [])::K6 b) σ) (OB c0 c1 (e1E b.p b.q r) o++t))) ⋯ ⟨rfl,_,t,rfl⟩
noncomputable def F1 (p q:Nat) (a:Nat×Nat) (r:List (Nat×Nat)):List PyData:=F0 p q a r++[.list ((e1E p q r).map fun p=>txtD p.1)]
theorem bk7 (hb:BkOK b) (hp:plN b=a::r) {c:Cell} {t:Objs} {σ:Str→Option V} (h:Hd (exs (ex G (n+98+2) CK) (BK.drop (7+1)) (S NK (K6 b) σ (OB c0 c1 (e1E b.p b.q r) (c:: .list (F1 b.p b.q a r)::t)))) P):Hd (exs (ex G (n+98+2) CK) (BK.drop 7) (S NK (K6 b) σ (OB c0 c1 (e1E b.p b.q r) (c:: .list (F0 b.p b.q a r)::t)))) P:=
  AP (i:=5) (xs:=F0 b.p b.q a r) (v:= .fl ((e1E b.p b.q r).map fun p:Ent=>txtD p.1)) (x:= .list ((e1E b.p b.q r).map fun p:Ent=>txtD p.1)) ⋯ ⋯ (x_ob 3 "keys" "Headers.keys" ⋯ ⋯ ⋯ ⋯ ⋯ (keys_spec (OB_HA (Nat.le_trans (e1_len hb hp) (by decide))))) ⋯ ⋯ h
end
end L1
end
section
open PySem PySem.W Mine V02
namespace Mine
variable {G:Env'} {n:Nat} {C:Cx} {v a b:V} {st:St} {e:Expr}
theorem i_zip (x y:PyData) (xs ys:List PyData) {zs:List PyData} (h0:iter G (n+1) C e st=(evs (ev G n C) (kids e).tail st).bind fun p=>(rd0s p.1).bind fun l=>two l fun a b=>(zipD? a).bind fun xs=>(zipD? b).map fun ys=>(It.zip (zipD xs ys),p.2)) (h:evs (ev G n C) (kids e).tail st=some ([.d x,.d y],st)) (hx:zipD? x=some xs) (hy:zipD? y=some ys) (hz:zipD xs ys=zs):iter G (n+1) C e st=some (.zip zs,st):=by
  rw[h0,h];show(zipD? x).bind _=_
  rw[hx];show(zipD? y).map _=_
  rw[hy,←hz];rfl
end Mine
namespace L1
theorem zip_app {α:Type} {g h:α→PyData} {r:List PyData}:∀l:List α,zipD (l.map g) (l.map h++r)=l.map fun a=> .tuple [g a,h a]
  |[]=>rfl
  |a::l=>congrArg (PyData.tuple [g a,h a]::·) (zip_app l)
theorem zip_map {α:Type} {g h:α→PyData} (l:List α):zipD (l.map g) (l.map h)=l.map fun a=> .tuple [g a,h a]:=(congrArg (zipD (l.map g)) (List.append_nil _).symm).trans (zip_app l)
theorem num_ok:((List.range 21).all fun x=>okW (numW x)&&(Nat.ble (numW x).length 2&&(numW x).all fun c=>Nat.ble c 1114111))=true:=by decide+kernel
theorem num_l {x:Nat} (h:x≤20):okW (numW x)=true∧(numW x).length≤2∧okT (numW x):=by
  obtain⟨h1,h2⟩:=bA (List.all_eq_true.mp num_ok x (List.mem_range.mpr (Nat.lt_succ_of_le h)))
  obtain⟨h2,h3⟩:=bA h2
  exact⟨h1,Nat.le_of_ble_eq_true h2,fun c hc=>Nat.le_of_ble_eq_true (List.all_eq_true.mp h3 c hc)⟩
theorem vl_ok {c:Nat×Nat} (h1:c.1≤20) (h2:c.2≤20):okW (vlN c)=true∧(vlN c).length≤5∧okT (vlN c):=by
  obtain⟨a1,a2,a3⟩:=num_l h1
  obtain⟨b1,b2,b3⟩:=num_l h2
  refine⟨?_,?_,?_⟩
  · unfold vlN okW;unfold okW at a1 b1;rw[List.all_append,List.all_append,a1,b1];rfl
  · unfold vlN;rw[List.length_append,List.length_append];exact Nat.add_le_add (Nat.add_le_add a2 (Nat.le_refl 1)) b2
  · intro d hd
    rcases List.mem_append.mp hd with hd |hd
    · rcases List.mem_append.mp hd with hd |hd
      · exact a3 d hd
      · rw[List.mem_singleton.mp hd];decide
    · exact b3 d hd
noncomputable def EOK (b:Bk) (es:List Ent):Prop:=∀x∈es,∃e e' c,c∈plN b∧x.1=wdN (cp e b.p) (cp e' b.q) c
noncomputable def E8 (b:Bk) (r:List (Nat×Nat)) (j:Nat):List Ent:=((plN b).take j).foldl (stepE b.p b.q) (e1E b.p b.q r)
noncomputable def SP (b:Bk) (j:Nat):List PyData:=((plN b).take j).map fun c=>txtD (spN b.p b.q c)
noncomputable def pc (b:Bk) (j:Nat):Nat×Nat:=(plN b).getD j (0,0)
section
variable {n:Nat} {b:Bk} {c0 c1:Cell} {a:Nat×Nat} {r:List (Nat×Nat)} {P:Fl×St→Prop} {j:Nat}
theorem take_pc (h:j<(plN b).length):(plN b).take (j+1)=(plN b).take j++[pc b j]:=by
  unfold pc
  rw[List.take_succ_eq_append_getElem h,List.getD_eq_getElem?_getD,List.getElem?_eq_getElem h];rfl
theorem pc_mem (h:j<(plN b).length):pc b j∈plN b:=by
  unfold pc
  rw[List.getD_eq_getElem?_getD,List.getElem?_eq_getElem h];exact List.getElem_mem h
theorem E8_succ (h:j<(plN b).length):E8 b r (j+1)=stepE b.p b.q (E8 b r j) (pc b j):=by
  unfold E8;rw[take_pc h,List.foldl_append];rfl
theorem SP_succ (h:j<(plN b).length):SP b (j+1)=SP b j++[txtD (spN b.p b.q (pc b j))]:=by
  unfold SP;rw[take_pc h,List.map_append];rfl
theorem E8_ok (hp:plN b=a::r):∀j,j≤(plN b).length→EOK b (E8 b r j)∧(E8 b r j).length≤(e1E b.p b.q r).length+j
  | 0,_=>⟨fun x hx=>by
    obtain⟨c,hc,rfl⟩:=List.mem_map.mp hx
    exact⟨false,false,c,hp ▸ List.mem_cons_of_mem _ (List.mem_reverse.mp hc),rfl⟩,Nat.le_refl _⟩
  | j +1,h=>by
    obtain⟨h1,h2⟩:=E8_ok hp j (Nat.le_of_succ_le h)
    rw[E8_succ h]
    refine⟨fun x hx=>(List.mem_append.mp hx).elim (fun hx=>h1 x (List.mem_filter.mp hx).1) fun hx=>⟨evA (pc b j),!evA (pc b j),pc b j,pc_mem h,by rw[List.mem_singleton.mp hx];rfl⟩,?_⟩
    · unfold stepE
      rw[List.length_append]
      exact Nat.succ_le_succ (Nat.le_trans del_len h2)
theorem EOK.le {es:List Ent} (h:EOK b es) (hl:LL b.p b.q) (hb:BkOK b):∀x∈es,x.1.length≤1000:=fun x hx=>by
  obtain⟨e,e',c,hc,h⟩:=h x hx
  rw[h];exact up_len hl hb hc e e'
theorem sl_pre {o:Objs} {l:List Nat} {k:Nat} (hl:l.length≤1000):sliceV o (tx l) none (some (ii k)) none=some (tx (l.take k)):=by
  have e:sliceL l none (some (k:Int))=l.take k:=by
    show(l.drop 0).take (clampI k l.length - 0)=_
    rw[clamp_nat,List.drop_zero,Nat.sub_zero]
    rcases Nat.le_total k l.length with h |h
    · rw[Nat.min_eq_left h]
    · rw[Nat.min_eq_right h,List.take_of_length_le (Nat.le_refl _),List.take_of_length_le h]
  show gd (decide (l.length≤maxLen)) (some (V.d (.str (mkS (sliceL l none (some (k:Int)))))))=_
  rw[e,gd_t (maxL hl)];rfl
theorem wd_take {p q:Nat} {c:Nat×Nat}:(wdN p q c).take c.1=List.replicate c.1 p:=by unfold wdN;rw[List.take_left' List.length_replicate]
theorem wd_drop {p q:Nat} {c:Nat×Nat}:(wdN p q c).drop c.1=List.replicate c.2 q:=by unfold wdN;rw[List.drop_left' List.length_replicate]
theorem md_nat (k m:Nat):md (k:Int) m=k % m:=by unfold md;rw[←Int.ofNat_fmod];rfl
noncomputable def rs (p q:Nat) (c:Nat×Nat):List (List Nat):=[List.replicate c.1 p,List.replicate c.2 q]
noncomputable def rs' (p q:Nat) (c:Nat×Nat):List (List Nat):=rs (cp (evA c) p) (cp (!evA c) q) c
noncomputable def jA (c:Nat×Nat):Nat:=(c.1+c.2) % 2
theorem jA_lt (c:Nat×Nat):jA c<2:=Nat.mod_lt _ (by decide)
theorem up_rep {p:Nat} (h:LT p) (x:Nat):upW (List.replicate x p)=List.replicate x (cp true p):=fm_rep (h.ok false).2.1 x
theorem rs_up (h:LL b.p b.q) {c:Nat×Nat}:((rs b.p b.q c).map txtD).set (jA c) (txtD (upW ((rs b.p b.q c).getD (jA c) [])))=(rs' b.p b.q c).map txtD:=by
  have:=jA_lt c
  unfold rs' evA
  change jA c<2 at this
  show _=(rs (cp (jA c==0) b.p) (cp (!(jA c==0)) b.q) c).map txtD
  match jA c,this with
  |0,_=>rw[show(rs b.p b.q c).getD 0 []=List.replicate c.1 b.p from rfl,up_rep h.l];rfl
  |1,_=>rw[show(rs b.p b.q c).getD 1 []=List.replicate c.2 b.q from rfl,up_rep h.r];rfl
theorem numV {o:Objs} {x:Nat} (h:x≤20):callB o .str [ii x]=some (tx (numW x)):=gd_t (decide_eq_true (show(x:Int).natAbs<1000000000 by omega))
end
end L1
end
section
open PySem PySem.W Mine V02
namespace L1
section
variable {n:Nat} {b:Bk} {c0 c1:Cell} {a:Nat×Nat} {r:List (Nat×Nat)} {P:Fl×St→Prop} {j:Nat} {σ:Str→Option V} {o t:Objs} {c:Nat×Nat}
noncomputable def B8:List Stmt:=sB BK 8
noncomputable def L8 (b:Bk) (c:Nat×Nat):List (Str×V):=("name",tx (wdN b.p b.q c))::("place",.d (plD c))::K6 b
noncomputable def L9 (b:Bk) (c:Nat×Nat) (i:Nat):List (Str×V):=("runs",.hl i)::L8 b c
theorem b8_0 (hb:BkOK b) (hl:LL b.p b.q) (hc:c∈plN b) (h:Hd (exs (ex G (n+97+2) CK) (B8.drop (0+1)) (S NK (L9 b c o.length) σ (o++[.list ((rs b.p b.q c).map txtD)]))) P):Hd (exs (ex G (n+97+2) CK) (B8.drop 0) (S NK (L8 b c) σ o)) P:=by
  have hw:(wdN b.p b.q c).length≤1000:=up_len hl hb hc false false
  refine A (.fl ((rs b.p b.q c).map txtD)) (st1:=S NK (L8 b c) σ o) (S NK (L9 b c o.length) σ (o++[.list ((rs b.p b.q c).map txtD)])) (as_h ⋯ _) (x_list (vs:=[tx (List.replicate c.1 b.p),tx (List.replicate c.2 b.q)]) ⋯ (evs_c ((x_slice (w:=tx (wdN b.p b.q c)) (lo:=none) (hi:=some (kd (kd (kd (sE B8 0 0) 0) 1) 0)) (sp:=none) (h:=some (ii c.1)) ⋯ ⋯ ⋯ (part_s ⋯) ⋯ (sl_pre hw)).trans (by rw[wd_take])) (evs1 ((x_slice (w:=tx (wdN b.p b.q c)) (lo:=some (kd (kd (kd (sE B8 0 0) 1) 1) 0)) (hi:=none) (sp:=none) (l:=some (ii c.1)) ⋯ ⋯ (part_s ⋯) ⋯ ⋯ (sl_from hw)).trans (by rw[wd_drop])))) ⋯ ⋯) ⋯ h
theorem b8_i {N:List Str} {L:List (Str×V)} {o:Objs} {C:Cx} {e:Expr} (h0:ev G (n+3) C e (S N L σ o)=evBin (fs G (n+2)) C (kd e 0) .Mod (kd e 1) (S N L σ o)) (h1:ev G (n+2) C (kd e 0) (S N L σ o)=evBui (fs G (n+1)) C "sum" (kids (kd e 0)).tail (S N L σ o)) (h2:evs (ev G (n+1) C) (kids (kd e 0)).tail (S N L σ o)=some ([.d (plD c)],S N L σ o)) (h3:ev G (n+2) C (kd e 1) (S N L σ o)=some (ii (2:Nat),S N L σ o)):ev G (n+3) C e (S N L σ o)=some (ii (jA c),S N L σ o):=by
  have hs:callB o .sum [.d (plD c)]=some (ii (c.1+c.2:Nat)):=congrArg (fun z=>some (ii z)) (show[(c.1:Int),c.2].sum=(c.1+c.2:Nat) by simp)
  exact(x_bo .Mod (a:=ii (c.1+c.2:Nat)) (b:=ii (2:Nat)) h0 (x_bui .sum h1 h2 hs) h3 (modV (by decide))).trans (by rw[md_nat];rfl)
theorem b8_1 (hb:BkOK b) (hl:LL b.p b.q) (hc:c∈plN b) (h:Hd (exs (ex G (n+97+2) CK) (B8.drop (1+1)) (S NK (L9 b c o.length) σ (o++[.list ((rs' b.p b.q c).map txtD)]))) P):Hd (exs (ex G (n+97+2) CK) (B8.drop 1) (S NK (L9 b c o.length) σ (o++[.list ((rs b.p b.q c).map txtD)]))) P:=by
  have lj:=jA_lt c
  have hr:((rs b.p b.q c).map txtD)[jA c]?=some (txtD ((rs b.p b.q c).getD (jA c) [])):=gDa lj
  have hi:idx? (jA c:Int) ((rs b.p b.q c).map txtD).length=some (jA c):=idx_nat lj (show 2≤1000 by decide)
  have hbd:=pl_bd hb hc
  have hu:(upW ((rs b.p b.q c).getD (jA c) [])).length≤1000:=by
    have:=hb.w;have:=hb.h
    match jA c,lj with
    |0,_=>show(upW (List.replicate c.1 b.p)).length≤1000;rw[up_rep hl.l,List.length_replicate];omega
    |1,_=>show(upW (List.replicate c.2 b.q)).length≤1000;rw[up_rep hl.r,List.length_replicate];omega
  refine AT (C:=CK) (B:=B8) (k:=1) (st2:=S NK (L9 b c o.length) σ (o++[.list ((rs' b.p b.q c).map txtD)])) (tx (upW ((rs b.p b.q c).getD (jA c) []))) ⋯ (x_up ((rs b.p b.q c).getD (jA c) []) (x_rc ⋯ (x_item (w:= .hl o.length) (j:=jA c) ⋯ ⋯ (b8_i (c:=c) ⋯ ⋯ ⋯ ⋯) (it_hl at_end hr (show 2≤1000 by decide)))) hu) ?_ h
  exact(b_sub (i:=o.length) (j:=jA c) (xs:=(rs b.p b.q c).map txtD) (x:=txtD (upW ((rs b.p b.q c).getD (jA c) []))) ⋯ ⋯ ⋯ (b8_i (c:=c) ⋯ ⋯ ⋯ ⋯) ⋯ at_end hi).trans (congrArg some (set_S (rs_up hl)))
end
end L1
end
section
open PySem PySem.W Mine V02
namespace L1
theorem it_hll {o:Objs} {i:Nat} {xs:List PyData} {x:PyData} (hl:listAt o i=some (xs++[x])) (hn:xs.length<1000):itemV o (.hl i) (-1)=some (.d x):=by
  have e:(xs++[x]).length=xs.length+1:=List.length_append
  show(((Mine.listAt o i).map PyData.list).bind lst?).bind _=_
  rw[hl];show(idx? (.negSucc 0) (xs++[x]).length).bind _=_
  rw[idx_neg (by rw[e];exact Nat.succ_pos _) (by rw[e];exact hn),e]
  show((xs++[x])[xs.length]?).map _=_
  rw[List.getElem?_append_right (Nat.le_refl _),Nat.sub_self];rfl
section
variable {n:Nat} {b:Bk} {c0 c1:Cell} {a:Nat×Nat} {r:List (Nat×Nat)} {P:Fl×St→Prop} {j:Nat} {σ:Str→Option V} {t:Objs} {c:Nat×Nat} {es:List Ent} {sp F xs:List PyData} {x y:Cell}
theorem at6:listAt (OB c0 c1 es (x::y::t)++[.list xs]) (t.length+6)=some xs:=at_end (o:=OB c0 c1 es (x::y::t))
theorem b8_2 (hb:BkOK b) (hl:LL b.p b.q) (hc:c∈plN b) (hs:sp.length<1000) (h:Hd (exs (ex G (n+97+2) CK) (B8.drop (2+1)) (S NK (L9 b c (t.length+6)) σ (OB c0 c1 es (.list (sp++[txtD (spN b.p b.q c)]):: .list F::t)++[.list ((rs' b.p b.q c).map txtD)]))) P):Hd (exs (ex G (n+97+2) CK) (B8.drop 2) (S NK (L9 b c (t.length+6)) σ (OB c0 c1 es (.list sp:: .list F::t)++[.list ((rs' b.p b.q c).map txtD)]))) P:=by
  have hbd:=pl_bd hb hc
  have:=hb.w;have:=hb.h
  exact AP (i:=4) (xs:=sp) (v:=tx (spN b.p b.q c)) (x:=txtD (spN b.p b.q c)) ⋯ ⋯ (x_bo .Add (a:=tx (List.replicate c.1 (cp (evA c) b.p))) (b:=tx (List.replicate c.2 (cp (!evA c) b.q))) ⋯ (x_item (w:= .hl (t.length+6)) (j:=(0:Nat)) ⋯ ⋯ ⋯ (it_hl at6 rfl (show 2≤1000 by decide))) (x_item (w:= .hl (t.length+6)) (j:=(1:Nat)) ⋯ ⋯ ⋯ (it_hl at6 rfl (show 2≤1000 by decide)))
    (addT (by rw[List.length_replicate,List.length_replicate];omega))) ⋯ (lt_max hs) h
theorem b8_3 (hb:BkOK b) (hl:LL b.p b.q) (hc:c∈plN b) (hs:sp.length<1000) (he:EOK b es) (hn:es.length<1000) (h:Hd (exs (ex G (n+97+2) CK) (B8.drop (3+1)) (S NK (L9 b c (t.length+6)) σ (OB c0 c1 (stepE b.p b.q es c) (.list (sp++[txtD (spN b.p b.q c)]):: .list F::t)++[.list ((rs' b.p b.q c).map txtD)]))) P):Hd (exs (ex G (n+97+2) CK) (B8.drop 3) (S NK (L9 b c (t.length+6)) σ (OB c0 c1 es (.list (sp++[txtD (spN b.p b.q c)]):: .list F::t)++[.list ((rs' b.p b.q c).map txtD)]))) P:=by
  have hbd:=pl_bd hb hc
  have hw:=hb.w;have hh:=hb.h
  have n1:=num_l (Nat.le_trans hbd.1 hw)
  have n2:=num_l (Nat.le_trans hbd.2 hh)
  have H:HA (OB c0 c1 es (.list (sp++[txtD (spN b.p b.q c)]):: .list F::t)++[.list ((rs' b.p b.q c).map txtD)]) 3 2 es:=OB_HA (Nat.le_of_lt hn)
  have lw:lowW (spN b.p b.q c)=wdN b.p b.q c:=low_wd hl _ _ c
  refine AT (C:=CK) (B:=B8) (k:=3) (tx (vlN c)) ⋯ (x_bo .Add (a:=tx (numW c.1++[32])) (b:=tx (numW c.2)) ⋯ (x_bo .Add (a:=tx (numW c.1)) (b:=tx [32]) ⋯ (x_bui .str ⋯ (evs1 (v:=ii c.1) ⋯) (numV (Nat.le_trans hbd.1 hw))) ⋯ (addT (Nat.le_trans (Nat.succ_le_succ n1.2.1) (by decide)))) (x_bui .str ⋯ (evs1 (v:=ii c.2) ⋯) (numV (Nat.le_trans hbd.2 hh))) (addT (by rw[List.length_append];exact Nat.le_trans (Nat.add_le_add (Nat.succ_le_succ n1.2.1) n2.2.1) (by decide))))
    (b_ob (i:=3) (a:=tx (spN b.p b.q c)) (b:= .d .none) ⋯ ⋯ (x_item (w:= .hl 4) (j:= -1) ⋯ ⋯ ⋯ (it_hll rfl hs)) H.is rfl rfl ((set_spec (a:=spN b.p b.q c) H (he.le hl hb) hn (up_len hl hb hc _ _) (lw ▸ okW_wd hl false false c) (okW_wd hl _ _ c) (vl_ok (Nat.le_trans hbd.1 hw) (Nat.le_trans hbd.2 hh)).1).trans (by rw[lw];rfl))) h
theorem bk8 (hb:BkOK b) (hl:LL b.p b.q) (hp:plN b=a::r) (h:∀σ t,Hd (exs (ex G (n+98+2) CK) (BK.drop (8+1)) (S NK (K6 b) σ (OB c0 c1 ((plN b).map (newE b.p b.q)) (.list ((plN b).map fun c=>txtD (spN b.p b.q c)):: .list F::t)))) P):Hd (exs (ex G (n+98+2) CK) (BK.drop 8) (S NK (K6 b) σ (OB c0 c1 (e1E b.p b.q r) (.list []:: .list F::t)))) P:=by
  have hn:=plN_len hb
  refine FE (N:=NK) (.zip ((plN b).map fun c=> .tuple [txtD (wdN b.p b.q c),plD c])) (plN b).length (fun j=> .tuple [txtD (wdN b.p b.q (pc b j)),plD (pc b j)]) (fun _=>K6 b) (fun j=>L8 b (pc b j)) (fun j=>OB c0 c1 (E8 b r j) [.list (SP b j),.list F]) (for_h ⋯) ⋯ (fun j t=>congrArg (fun l=>some l[j]?) (range_map (d:=(0,0)) (f:=fun c=>PyData.tuple [txtD (wdN b.p b.q c),plD c])).symm)
    (i_zip (.list ((smB b).map txtD)) (.list ((plN b).map plD)) ((plN b).map fun c=>txtD (wdN b.p b.q c)) ((plN b).map plD) ⋯ ⋯ (congrArg some sm_map) rfl (zip_map (plN b))) (maxL (Nat.le_trans hn (by decide))) (σ:=σ) (t0:=t) rfl (fun _ _ _ _=>⋯) (fun j σ t hj=>?_) (fun σ t=>?_)
  · obtain⟨he,hle⟩:=E8_ok hp j (Nat.le_of_lt hj)
    have hc:=pc_mem hj
    have hs:(SP b j).length<1000:=by
      unfold SP
      rw[List.length_map]
      exact Nat.lt_of_le_of_lt (Nat.le_trans (List.length_take_le' ..) hn) (by decide)
    have hE:(E8 b r j).length<1000:=Nat.lt_of_le_of_lt (Nat.le_trans hle (Nat.add_le_add (e1_len hb hp) (Nat.le_trans (Nat.le_of_lt hj) hn))) (by decide)
    refine b8_0 (n:=n) (o:=OB c0 c1 (E8 b r j) [.list (SP b j),.list F]++t) hb hl hc (b8_1 hb hl hc (b8_2 hb hl hc hs (b8_3 hb hl hc hs he hE ?_)))
    exact .of (a:=(.next,S NK (L9 b (pc b j) (t.length+6)) σ (OB c0 c1 (stepE b.p b.q (E8 b r j) (pc b j)) (.list (SP b j++[txtD (spN b.p b.q (pc b j))]):: .list F::t)++[.list ((rs' b.p b.q (pc b j)).map txtD)]))) ⋯ ⟨rfl,ovs (L9 b (pc b j) (t.length+6)) σ,t++[.list ((rs' b.p b.q (pc b j)).map txtD)],by rw[E8_succ hj,SP_succ hj];rfl⟩
  · have e1:E8 b r (plN b).length=(plN b).map (newE b.p b.q):=by
      unfold E8
      rw[List.take_length,hp,st_end hl (hp ▸ pl_nodup hb.m.1)]
    have e2:SP b (plN b).length=(plN b).map fun c=>txtD (spN b.p b.q c):=by unfold SP;rw[List.take_length]
    rw[e1,e2]
    exact h σ t
end
end L1
end
section
open PySem PySem.W Mine V02
namespace Mine
variable {G:Env'} {n:Nat} {C:Cx} {v a b:V} {st:St} {e:Expr}
theorem x_tri {vs} (h0:ev G (n+1) C e st=evTup (fs G n) C (kids e) st) (h:evs (ev G n C) (kids e) st=some (vs,st)) (hl:decide (vs.length≤maxLen)=true) (ht:triV vs=some v):ev G (n+1) C e st=some (v,st):=by
  rw[h0];show(evs (ev G n C) (kids e) st).bind _=_
  rw[h];show gd (decide (vs.length≤maxLen)) ((triV vs).elim ((rd0s vs).map _) _)=_
  rw[hl,ht];rfl
end Mine
namespace L1
theorem rep1 {x:PyData}:∀n:Nat,(List.replicate n [x]).flatten=List.replicate n x
  |0=>rfl
  |n+1=>by rw[List.replicate_succ,List.flatten_cons,rep1 n];rfl
theorem mulL {o:Objs} {x:PyData} {n:Nat} (h:n≤1000):binop o .Mult (.fl [x]) (ii n)=some (.fl (List.replicate n x)):=by
  show gd (repOk n 1) (some (V.fl (repL (n:Int) [x])))=_
  unfold repL
  rw[Int.toNat_natCast,rep1,gd_t ?_]
  unfold repOk
  exact decide_eq_true ⟨by omega,by show(n:Int)≤((1000000:Nat):Int);omega,by rw[Int.toNat_natCast];show n * 1≤1000000;omega⟩
theorem sl_rv0 {o:Objs} {xs:List PyData} (hl:xs.length≤1000):sliceV o (.d (.list xs)) none (some (ii 0)) (some (ii (-1)))=some (.fl (xs.drop 1).reverse):=gd_t (maxL hl)
noncomputable def FD (b:Bk):List PyData:=[elI ((plN b).length+1),.list (List.replicate (plN b).length (txtD oldT)++[txtD olderT]),txtD oldT,.list [txtD oldT,txtD olderT],.list (((smB b).map txtD).drop 1).reverse]
noncomputable def K7 (b:Bk):List (Str×V):=("due",.d (.list (FD b)))::K6 b
section
variable {n:Nat} {b:Bk} {c0 c1:Cell} {a:Nat×Nat} {r:List (Nat×Nat)} {P:Fl×St→Prop} {σ:Str→Option V} {o t:Objs}
theorem F1_eq (hp:plN b=a::r):F1 b.p b.q a r=FD b:=by
  have h1:(e0E b.p b.q a r).length=(plN b).length+1:=by unfold e0E;rw[List.length_append,List.length_map,List.length_reverse,hp];rfl
  have h2:((e0E b.p b.q a r).map fun p=>txtD p.2)=List.replicate (plN b).length (txtD oldT)++[txtD olderT]:=by
    unfold e0E
    rw[List.map_append,List.map_map,←hp]
    refine congrArg (·++[txtD olderT]) ?_
    rw[←List.length_reverse]
    exact(show List.map (fun _=>txtD oldT) (plN b).reverse=_ from List.map_const' ..)
  have h3:((e1E b.p b.q r).map fun p=>txtD p.1)=(((smB b).map txtD).drop 1).reverse:=by
    unfold e1E
    rw[sm_map,hp,List.map_map,List.map_reverse];rfl
  unfold F1 F0 FD
  rw[h1,h2,h3];rfl
theorem lay_old:Lay 0 (txtD oldT):=lay_tx fun c hc=>by revert c hc;decide
theorem lay_older:Lay 0 (txtD olderT):=lay_tx fun c hc=>by revert c hc;decide
theorem FD_lay (hl:LL b.p b.q):Lay 2 (.list (FD b)):=by
  refine lay_l (lay_c ((lay_i _).mono (by decide)) (lay_c (lay_l fun x hx=>?_) (lay_c (lay_old.mono (by decide)) (lay_c (lay_l (lay_c lay_old (lay_c lay_older lay_n))) (lay_c (lay_l fun x hx=>?_) lay_n)))))
  · rcases List.mem_append.mp hx with hx |hx
    · rw[(List.mem_replicate.mp hx).2];exact lay_old
    · rw[List.mem_singleton.mp hx];exact lay_older
  · have hx:=List.mem_of_mem_drop (List.mem_reverse.mp hx)
    rw[sm_map]at hx
    obtain⟨c,_,rfl⟩:=List.mem_map.mp hx
    exact lay_tx (okT_wd hl false false c)
theorem ent_lay {p:Ent} (h1:okT p.1) (h2:okT p.2):Lay 1 (entD p):=lay_t (lay_c (lay_tx h1) (lay_c (lay_tx h2) lay_n))
theorem new_lay (hb:BkOK b) (hl:LL b.p b.q):Lay 2 (.list (((plN b).map (newE b.p b.q)).map entD)):=lay_l (lay_map fun x hx=>by
  obtain⟨c,hc,rfl⟩:=List.mem_map.mp hx
  have hbd:=pl_bd hb hc
  exact ent_lay (okT_wd hl _ _ c) (vl_ok (Nat.le_trans hbd.1 hb.w) (Nat.le_trans hbd.2 hb.h)).2.2)
theorem bk9 (hb:BkOK b) (h:Hd (exs (ex G (n+98+2) CK) (BK.drop (9+1)) (S NK (K7 b) σ o)) P):Hd (exs (ex G (n+98+2) CK) (BK.drop 9) (S NK (K6 b) σ o)) P:=by
  have hn:=plN_len hb
  have hs:=sm_len hb
  have e1:((smB b).map txtD).length=(plN b).length:=(List.length_map ..).trans (List.length_map ..)
  have hL:callB o .len [.d (.list ((smB b).map txtD))]=some (ii (plN b).length):=(len_fl (Nat.le_trans hs (by decide))).trans (by rw[e1])
  exact A (.fl (FD b)) (st1:=S NK (K6 b) σ o) (S NK (K7 b) σ o) (as_h ⋯ _) (x_list (vs:=[ii ((plN b).length+1:Nat),.fl (List.replicate (plN b).length (txtD oldT)++[txtD olderT]),tx oldT,.fl [txtD oldT,txtD olderT],.fl (((smB b).map txtD).drop 1).reverse]) ⋯
    (evs_c (x_bo .Add (a:=ii (plN b).length) (b:=ii 1) ⋯ (x_bui .len ⋯ (evs1 (v:= .d (.list ((smB b).map txtD))) ⋯) hL) ⋯ ⋯) (evs_c (x_bo .Add (a:= .fl (List.replicate (plN b).length (txtD oldT))) (b:= .fl [txtD olderT]) ⋯ (x_bo .Mult (a:= .fl [txtD oldT]) (b:=ii (plN b).length) ⋯ ⋯ (x_bui .len ⋯ (evs1 (v:= .d (.list ((smB b).map txtD))) ⋯) hL) (mulL (Nat.le_trans hn (by decide)))) ⋯ (addF (by rw[List.length_replicate];exact Nat.le_trans (Nat.succ_le_succ hn) (by decide))))
      (evs_c ⋯ (evs_c ⋯ (evs1 (x_slice (w:= .d (.list ((smB b).map txtD))) (lo:=none) (hi:=some (kd (kd (kd (sE BK 9 0) 4) 1) 0)) (sp:=some (kd (kd (kd (sE BK 9 0) 4) 1) 1)) (h:=some (ii 0)) (s:=some (ii (-1))) ⋯ ⋯ ⋯ (part_s ⋯) (part_s ⋯) (sl_rv0 (Nat.le_trans hs (by decide))))))))) ⋯ ⋯) ⋯ h
theorem t_and {st:St} {e:Expr} {C:Cx} {c d:Bool} (h0:Mine.tst G (n+1) C e st=evAnd (Mine.tst G n C) [kd e 0,kd e 1] st) (h1:Mine.tst G n C (kd e 0) st=some (c,st)) (h2:c=true→Mine.tst G n C (kd e 1) st=some (d,st)):Mine.tst G (n+1) C e st=some (c&&d,st):=h0.trans (a_c h1 fun q=>a_1 (h2 q))
theorem bk10 (hb:BkOK b) (hl:LL b.p b.q) (hp:plN b=a::r) {x:Cell} (h:P (.ret (.tri 3 (.list ((plN b).map plD)) 4),S NK (K7 b) σ (OB c0 c1 ((plN b).map (newE b.p b.q)) (x:: .list (F1 b.p b.q a r)::t)))):Hd (exs (ex G (n+98+2) CK) (BK.drop 10) (S NK (K7 b) σ (OB c0 c1 ((plN b).map (newE b.p b.q)) (x:: .list (F1 b.p b.q a r)::t)))) P:=by
  have H:HA (OB c0 c1 ((plN b).map (newE b.p b.q)) (x:: .list (F1 b.p b.q a r)::t)) 3 2 ((plN b).map (newE b.p b.q)):=OB_HA (by rw[List.length_map];exact Nat.le_trans (plN_len hb) (by decide))
  generalize hst:S NK (K7 b) σ (OB c0 c1 ((plN b).map (newE b.p b.q)) (x:: .list (F1 b.p b.q a r)::t))=st at h ⊢
  refine R (v:= .tri 3 (.list ((plN b).map plD)) 4) (st1:=st) ⋯ (x_tri (vs:=[.obj 3,.d (.list ((plN b).map plD)),.hl 4]) ⋯ (evs_c ?_ (evs_c ?_ (evs1 (x_ife true ⋯ (t_and (c:=true) (d:=true) ⋯ ?_ fun _=>?_) (fun _=>?_) nofun)))) ⋯ ⋯) h
  · subst hst;exact ⋯
  · subst hst;exact ⋯
  · subst hst;exact t_cmp .Eq (a:= .hl 5) (b:= .d (.list (FD b))) ⋯ ⋯ ⋯ (eq_same (congrArg (fun l=>some (PyData.list l)) (F1_eq hp)) rfl rfl (FD_lay hl) rfl)
  · subst hst;exact t_cmp .Eq (a:= .fl (((plN b).map (newE b.p b.q)).map entD)) (b:= .hl 2) ⋯ (x_ob 3 "items" "Headers.items" ⋯ ⋯ H.is ⋯ ⋯ (items_spec H)) ⋯ (eq_same rfl rfl rfl (new_lay hb hl) rfl)
  · subst hst;exact ⋯
theorem bk_call:call G (n+1) "_law_book" [tx [b.p],tx [b.q],ii b.w,ii b.h,.fl [elI b.c,elI b.m,elI b.t]] [] o=(exs (ex G n ⟨F_law_book.scope,F_law_book.mv⟩) (F_law_book.body.drop 0) (S NK (K0 b) z0 o)).bind fun p=>p.1.val.map fun v=>(v,p.2.objs):=⋯
theorem book_spec {y:Option (V×Objs)} (h0:y=call G (n+100+1) "_law_book" [tx [b.p],tx [b.q],ii b.w,ii b.h,.fl [elI b.c,elI b.m,elI b.t]] [] [c0,c1]) (hb:BkOK b) (hl:LL b.p b.q) (hp:plN b=a::r):Hd y fun x=>x.1= .tri 3 (.list ((plN b).map plD)) 4∧∃t,x.2=OB c0 c1 ((plN b).map (newE b.p b.q)) (.list ((plN b).map fun c=>txtD (spN b.p b.q c))::t):=by
  rw[bk_call]at h0
  refine c_call2 h0 ?_
  refine bk0 (n:=n+60) ?_
  refine bk1 (n:=n+60) hb ?_
  refine bk2 (n:=n+60) hb ?_
  refine bk3 (n:=n) hb hl hp ?_
  refine bk4 hb hl hp ?_
  refine bk5 hb hl hp ?_
  refine bk6 hb hl hp fun σ t=>?_
  refine bk7 hb hp ?_
  refine bk8 hb hl hp fun σ t=>?_
  refine bk9 hb ?_
  refine bk10 hb hl hp ?_
  exact .of rfl ⟨rfl,_,rfl⟩
end
end L1
end
section
open PySem PySem.W Mine V02
namespace L1
noncomputable def NW:List Str:=(["script","first","marks","mark","noise","far","p","q","step","size","rest","hidden","code","numbers","pieces","k","typed","meant","word","ends","held","wide","high"]:List Str)++(["book","places","spelled","names","values","reach","folded","taken","told","due","gaps","back","at","great","just","above","asked","there","found"]:List Str)
noncomputable def BW:List Stmt:=F_law.body
noncomputable def CW:Cx:=Cf F_law
noncomputable def intsD (l:List Int):PyData:= .list (l.map .int)
noncomputable def mkT:List (List Nat):=[[64257,102,105],[64259,102,102,105],[64258,102,108],[64260,102,102,108],[64261,115,116],[64262,115,116],[13262,107,109],[8480,115,109],[13276,115,118],[13188,107,97],[13189,107,98],[13240,107,118],[13246,107,119],[8360,114,115],[13259,104,112],[13271,112,104],[8482,116,109],[8470,110,111],[13273,112,112,109],[13274,112,114]]
noncomputable def fstI (ns:List Int):Int:=(ns++[1461]).headD 0
noncomputable def kM (f:Int):Nat:=md f 20
noncomputable def uM (f:Int):Bool:=md (f.fdiv 20) 2==1
noncomputable def fr (f:Int):Nat:=1+md (f.fdiv 40) 3
noncomputable def e1 (f:Int):Nat:=md (f.fdiv 120) 2
noncomputable def e2 (f:Int):Nat:=md (f.fdiv 240) 2
noncomputable def stp (r:Nat):Nat:=3 * r+2
noncomputable def siz (r:Nat):Nat:=3 * r * r+3 * r+1
noncomputable def rst (f:Int):Nat:=md (f.fdiv 480) (siz (fr f))
noncomputable def hid (f:Int):Nat:=noiseL.getD (md (f.fdiv 480) 27) 0
noncomputable def mkN (f:Int):List Nat:=mkT.getD (kM f) []
noncomputable def lpN (m:List Nat):Nat:=m.getD 1 0 - 97
noncomputable def lqN (m:List Nat):Nat:=m.getLastD 0 - 97
noncomputable def pL (f:Int):Nat:=97+lpN (mkN f)
noncomputable def qL (f:Int):Nat:=97+lqN (mkN f)
noncomputable def mrk (f:Int):List Nat:=(mkN f).tail
noncomputable def numsN (ns:List Int):List Int:=(ns.drop 1).take 8++([3,6,45,1,2,4,0,7]:List Int).drop ((ns.drop 1).take 8).length
noncomputable def W0 (ns:List Int):List (Str×V):=[("script",.d (intsD ns))]
noncomputable def W1 (ns:List Int) (f:Int):List (Str×V):=("first",ii f)::W0 ns
noncomputable def W2 (ns:List Int) (f:Int):List (Str×V):=("marks",.d (.list (mkT.map txtD)))::W1 ns f
noncomputable def W3 (ns:List Int) (f:Int):List (Str×V):=("mark",tx (mkN f))::("noise",.d (.list (natD noiseL)))::("far",ii (fr f))::W2 ns f
noncomputable def W4 (ns:List Int) (f:Int):List (Str×V):=("p",tx [pL f])::("q",tx [qL f])::("step",ii (stp (fr f)))::("size",ii (siz (fr f)))::W3 ns f
noncomputable def W5 (ns:List Int) (f:Int):List (Str×V):=("rest",ii (rst f))::("hidden",tx [hid f])::("code",ii (codeN f))::W4 ns f
noncomputable def W6 (ns:List Int) (f:Int):List (Str×V):=("numbers",.d (intsD (numsN ns)))::W5 ns f
noncomputable def W7 (ns:List Int) (f:Int) (i:Nat):List (Str×V):=("pieces",.hl i)::W6 ns f
noncomputable def pcA (ns:List Int) (f:Int):List (List Nat×List Nat):=((numsN ns).take (fr f+e1 f)).map (pcN (lpN (mkN f)))
noncomputable def pcU (f:Int):List (List Nat×List Nat):=bif uM f then[([(mkN f).getD 0 0],mrk f)]else[]
noncomputable def pcB (ns:List Int) (f:Int):List (List Nat×List Nat):=(((numsN ns).drop 4).take (fr f+e2 f)).map (pcN (lqN (mkN f)))
noncomputable def pcs (ns:List Int) (f:Int):List (List Nat×List Nat):=pcA ns f++pcU f++pcB ns f
noncomputable def cellP (l:List (List Nat×List Nat)):Cell:= .list (l.map twoD)
noncomputable def okMk (m:List Nat):Bool:=m[1]?==some (97+lpN m)&&(m.reverse[0]?==some (97+lqN m)&&(m==m.getD 0 0::wdN (97+lpN m) (97+lqN m) (m.length - 2,1)&&(Nat.blt (lpN m) 26&&(Nat.blt (lqN m) 26&&(lpN m !=lqN m&&(Nat.ble 3 m.length&&(Nat.ble m.length 4&&(M (m.getD 0 0)==m.tail&&(!isB1 (m.getD 0 0)&&Nat.ble (m.getD 0 0) 1114111)))))))))
theorem mks_ok:mkT.all okMk=true:=by decide+kernel
structure MK (f:Int):Prop where
  a:(mkN f)[1]?=some (pL f)
  z:(mkN f).reverse[0]?=some (qL f)
  e:mkN f=(mkN f).getD 0 0::wdN (pL f) (qL f) ((mkN f).length - 2,1)
  lp:lpN (mkN f)<26
  lq:lqN (mkN f)<26
  ne:lpN (mkN f)≠lqN (mkN f)
  l3:3≤(mkN f).length
  l4:(mkN f).length≤4
  m:M ((mkN f).getD 0 0)=mrk f
  b:isB1 ((mkN f).getD 0 0)=false
  t:(mkN f).getD 0 0≤1114111
theorem mk_at (f:Int):mkT[kM f]?=some (mkN f):=by
  have lt:kM f<mkT.length:=md_lt (by decide)
  unfold mkN;rw[List.getD_eq_getElem?_getD,List.getElem?_eq_getElem lt];rfl
theorem mk_ok (f:Int):MK f:=by
  have h:=List.all_eq_true.mp mks_ok _ (List.mem_of_getElem? (mk_at f))
  obtain⟨h1,h⟩:=bA h
  obtain⟨h2,h⟩:=bA h
  obtain⟨h3,h⟩:=bA h
  obtain⟨h4,h⟩:=bA h
  obtain⟨h5,h⟩:=bA h
  obtain⟨h6,h⟩:=bA h
  obtain⟨h7,h⟩:=bA h
  obtain⟨h8,h⟩:=bA h
  obtain⟨h9,h⟩:=bA h
  obtain⟨ha,hb⟩:=bA h
  exact⟨eq_of_beq h1,eq_of_beq h2,eq_of_beq h3,Nat.le_of_ble_eq_true h4,Nat.le_of_ble_eq_true h5,bne_iff_ne.mp h6,Nat.le_of_ble_eq_true h7,Nat.le_of_ble_eq_true h8,eq_of_beq h9,(Bool.not_eq_true' _).mp ha,Nat.le_of_ble_eq_true hb⟩
theorem fr_le (f:Int):1≤fr f∧fr f≤3:=by
  have:md (f.fdiv 40) 3<3:=md_lt (by decide)
  unfold fr;omega
theorem siz_pos (r:Nat):siz r≠0:=Nat.succ_ne_zero _
theorem i64n {x:Nat} (h:x≤1000):i64 (x:Int)=true:=decide_eq_true (show(x:Int).natAbs<18446744073709551616 by omega)
theorem mulN {o:Objs} {x y:Nat} (h:x≤1000):binop o .Mult (ii x) (ii y)=some (ii (x * y:Nat)):=mulV (by rw[i64n h];rfl)
theorem slB {α:Type} {xs:List α} (a r:Nat):sliceL xs (some (a:Int)) (some ((a+r:Nat):Int))=(xs.drop a).take r:=by
  show(xs.drop (clampI a xs.length)).take (clampI (a+r:Nat) xs.length - clampI a xs.length)=_
  rw[clamp_nat,clamp_nat]
  rcases Nat.le_total a xs.length with h |h
  · rw[Nat.min_eq_left h]
    rcases Nat.le_total (a+r) xs.length with h2 |h2
    · rw[Nat.min_eq_left h2,Nat.add_sub_cancel_left]
    · rw[Nat.min_eq_right h2,List.take_of_length_le (Nat.le_of_eq List.length_drop),List.take_of_length_le (by rw[List.length_drop];exact Nat.sub_le_iff_le_add'.mpr h2)]
  · rw[Nat.min_eq_right h,List.drop_eq_nil_of_le (Nat.le_refl _),List.drop_eq_nil_of_le h,List.take_nil,List.take_nil]
theorem slT {α:Type} {xs:List α} (r:Nat):sliceL xs none (some (r:Int))=xs.take r:=by
  have h:=slB (xs:=xs) 0 r
  rw[Nat.zero_add]at h
  exact(congrArg (fun z=>(xs.drop z).take (clampI r xs.length - z)) (show 0=clampI 0 xs.length by rw[show(0:Int)=((0:Nat):Int)from rfl,clamp_nat,Nat.zero_min])).trans h
theorem dropM {α:Type} {xs:List α} {k:Nat}:xs.drop (min k xs.length)=xs.drop k:=by
  rcases Nat.le_total k xs.length with h |h
  · rw[Nat.min_eq_left h]
  · rw[Nat.min_eq_right h,List.drop_eq_nil_of_le (Nat.le_refl _),List.drop_eq_nil_of_le h]
theorem slF {α:Type} {xs:List α} (k:Nat):sliceL xs (some (k:Int)) none=xs.drop k:=by
  show(xs.drop (clampI k xs.length)).take (xs.length - clampI k xs.length)=_
  rw[clamp_nat,dropM,List.take_of_length_le (by rw[List.length_drop];exact Nat.sub_le_sub_left (Nat.min_le_left ..) _)]
theorem slV {o:Objs} {v:V} {xs:List PyData} {lo hi:Option V} {a b:Option Int} {ys:List PyData} (hv:listOf o v=some xs) (hs:asS v=none) (ha:intOpt lo=some a) (hb:intOpt hi=some b) (hl:xs.length≤1000) (h:sliceL xs a b=ys):sliceV o v lo hi none=some (.fl ys):=by
  unfold sliceV
  rw[ha,hb];show sliceW o v a b none=_
  unfold sliceW
  rw[hs,hv];show gd (decide (xs.length≤maxLen)) (some (V.fl (sliceL xs a b)))=_
  rw[gd_t (maxL hl),h]
theorem nums_len (ns:List Int):(numsN ns).length=8:=by
  unfold numsN
  have:((ns.drop 1).take 8).length≤8:=List.length_take_le ..
  rw[List.length_append,List.length_drop]
  exact Nat.add_sub_of_le this
section
variable {n:Nat} {ns:List Int} {f:Int} {P:Fl×St→Prop} {o:Objs} {c:Nat}
theorem u0 (hl:ns.length≤63) (h:Hd (exs (ex G (n+158+2) CW) (BW.drop (0+1)) (S NW (W1 ns (fstI ns)) z0 o)) P):Hd (exs (ex G (n+158+2) CW) (BW.drop 0) (S NW (W0 ns) z0 o)) P:=by
  refine A (ii (fstI ns)) (S NW (W1 ns (fstI ns)) z0 o) (as_h ⋯ _) (x_item (w:= .fl (ns.map .int++[.int 1461])) (j:=(0:Nat)) ⋯ (x_bo .Add (a:= .d (intsD ns)) (b:= .fl [.int 1461]) ⋯ ⋯ ⋯ (addL ?_)) ⋯ (itF (idx_nat ?_ ?_) ?_)) ⋯ h
  · rw[List.length_map];exact Nat.le_trans (Nat.add_le_add_right hl 1) (by decide)
  · rw[List.length_append];exact Nat.succ_pos _
  · rw[List.length_append,List.length_map];exact Nat.le_trans (Nat.add_le_add_right hl 1) (by decide)
  · cases ns<;>rfl
theorem u1 (h:Hd (exs (ex G (n+158+2) CW) (BW.drop (1+2)) (S NW (W2 ns f) z0 o)) P):Hd (exs (ex G (n+158+2) CW) (BW.drop 1) (S NW (W1 ns f) z0 o)) P:=Ks 2 (S NW (W2 ns f) z0 o) ⋯ h
end
end L1
end
section
open PySem PySem.W Mine V02
namespace L1
theorem itLn {o:Objs} {l:List (List Nat)} {j:Nat} (lt:j<l.length) (h:l.length≤1000):itemV o (.d (.list (l.map txtD))) (j:Int)=some (tx (l.getD j [])):=itL (idx_nat (by rw[List.length_map];exact lt) (by rw[List.length_map];exact h)) (gDa lt)
theorem itNn {o:Objs} {l:List Nat} {j:Nat} (lt:j<l.length) (h:l.length≤1000):itemV o (.d (.list (natD l))) (j:Int)=some (ii (l.getD j 0)):=itL (idx_nat (by rw[natD,List.length_map];exact lt) (by rw[natD,List.length_map];exact h)) (gDa (d:=0) (f:=elI) lt)
section
variable {n:Nat} {ns:List Int} {f:Int} {P:Fl×St→Prop} {o:Objs} {c:Nat} {st:St} {e:Expr} {C:Cx}
theorem x_dm (a:Int) (b:Nat) (h0:ev G (n+3) C e st=evBin (fs G (n+2)) C (kd e 0) .Mod (kd e 1) st) (h1:ev G (n+2) C (kd e 0) st=evBin (fs G (n+1)) C (kd (kd e 0) 0) .FloorDiv (kd (kd e 0) 1) st) (h2:ev G (n+1) C (kd (kd e 0) 0) st=some (ii f,st)) (h3:ev G (n+1) C (kd (kd e 0) 1) st=some (ii a,st)) (h4:ev G (n+2) C (kd e 1) st=some (ii b,st)) (ha:binop st.objs .FloorDiv (ii f) (ii a)=some (ii (f.fdiv a))) (hb:b≠0):ev G (n+3) C e st=some (ii (md (f.fdiv a) b),st):=
  x_bo .Mod h0 (x_bo .FloorDiv h1 h2 h3 ha) h4 (modV hb)
theorem u3 (h:Hd (exs (ex G (n+158+2) CW) (BW.drop (3+1)) (S NW (W3 ns f) z0 o)) P):Hd (exs (ex G (n+158+2) CW) (BW.drop 3) (S NW (W2 ns f) z0 o)) P:=
  AQ false [tx (mkN f),.fl (natD noiseL),ii (fr f)] ⋯ (evs_c (x_item (w:= .d (.list (mkT.map txtD))) (j:=kM f) ⋯ ⋯ (x_bo .Mod (a:=ii f) (b:=ii (20:Nat)) ⋯ ⋯ ⋯ (modV (by decide))) (itLn (md_lt (by decide)) (by decide))) (evs_c (x_fn (vs:=[]) "_law_noise" ⋯ ⋯ noise_spec) (evs1 (x_bo .Add (a:=ii 1) (b:=ii (md (f.fdiv 40) 3)) ⋯ ⋯ (x_dm 40 3 ⋯ ⋯ ⋯ ⋯ ⋯ ⋯ (by decide)) ⋯)))) ⋯ h
theorem u4 (h:Hd (exs (ex G (n+158+2) CW) (BW.drop (4+1)) (S NW (W4 ns f) z0 o)) P):Hd (exs (ex G (n+158+2) CW) (BW.drop 4) (S NW (W3 ns f) z0 o)) P:=by
  have m:=mk_ok f
  have hl:(mkN f).length≤1000:=Nat.le_trans m.l4 (by decide)
  have h3:=fr_le f
  exact AQ false [tx [pL f],tx [qL f],ii (stp (fr f)),ii (siz (fr f))] ⋯ (evs_c (x_item (w:=tx (mkN f)) (j:=(1:Nat)) ⋯ ⋯ ⋯ (it_tx m.a hl)) (evs_c (x_item (w:=tx (mkN f)) (j:= .negSucc 0) ⋯ ⋯ ⋯ (it_txn m.z hl)) (evs_c (x_bo .Add (a:=ii (3 * fr f:Nat)) (b:=ii (2:Nat)) ⋯ (x_bo .Mult (a:=ii (3:Nat)) (b:=ii (fr f)) ⋯ ⋯ ⋯ (mulN (by decide))) ⋯ ⋯) (evs1 (x_bo .Add (a:=ii (3 * fr f * fr f+3 * fr f:Nat)) (b:=ii (1:Nat)) ⋯ (x_bo .Add (a:=ii (3 * fr f * fr f:Nat)) (b:=ii (3 * fr f:Nat)) ⋯ (x_bo .Mult (a:=ii (3 * fr f:Nat)) (b:=ii (fr f)) ⋯ (x_bo .Mult (a:=ii (3:Nat)) (b:=ii (fr f)) ⋯ ⋯ ⋯ (mulN (by decide))) ⋯ (mulN (by omega))) (x_bo .Mult (a:=ii (3:Nat)) (b:=ii (fr f)) ⋯ ⋯ ⋯ (mulN (by decide))) ⋯) ⋯ ⋯))))) ⋯ h
theorem hid_mem (f:Int):hid f∈noiseL:=by
  have lt:md (f.fdiv 480) 27<noiseL.length:=md_lt (by decide)
  unfold hid;rw[List.getD_eq_getElem?_getD,List.getElem?_eq_getElem lt];exact List.getElem_mem _
theorem u5 (h:Hd (exs (ex G (n+158+2) CW) (BW.drop (5+1)) (S NW (W5 ns f) z0 o)) P):Hd (exs (ex G (n+158+2) CW) (BW.drop 5) (S NW (W4 ns f) z0 o)) P:=
  AQ false [ii (rst f),tx [hid f],ii (codeN f)] ⋯ (evs_c (x_dm 480 (siz (fr f)) ⋯ ⋯ ⋯ ⋯ ⋯ ⋯ (siz_pos _)) (evs_c (x_bui .chr ⋯ (evs1 (v:=ii (hid f)) (x_item (w:= .d (.list (natD noiseL))) (j:=md (f.fdiv 480) 27) ⋯ ⋯ (x_dm 480 27 ⋯ ⋯ ⋯ ⋯ ⋯ ⋯ (by decide)) (itNn (md_lt (by decide)) (by decide)))) (chrV (noise_c (hid_mem f)))) (evs1 (x_fn "_law_any" ⋯ (evs1 ⋯) any_spec)))) ⋯ h
theorem u6 (hl:ns.length≤63) (h:Hd (exs (ex G (n+158+2) CW) (BW.drop (6+1)) (S NW (W6 ns f) z0 o)) P):Hd (exs (ex G (n+158+2) CW) (BW.drop 6) (S NW (W5 ns f) z0 o)) P:=by
  have hs (N:Nat) (e:Expr) (h0:ev G (N+1) CW e (S NW (W5 ns f) z0 o)=evSlice (fs G N) CW (kd e 0) (some (kd (kd e 1) 0)) (some (kd (kd e 1) 1)) none (S NW (W5 ns f) z0 o)) (h1:ev G N CW (kd e 0) (S NW (W5 ns f) z0 o)=some (.d (intsD ns),S NW (W5 ns f) z0 o)) (h2:ev G N CW (kd (kd e 1) 0) (S NW (W5 ns f) z0 o)=some (ii (1:Nat),S NW (W5 ns f) z0 o)) (h3:ev G N CW (kd (kd e 1) 1) (S NW (W5 ns f) z0 o)=some (ii (1+8:Nat),S NW (W5 ns f) z0 o)):ev G (N+1) CW e (S NW (W5 ns f) z0 o)=some (.fl (((ns.map PyData.int).drop 1).take 8),S NW (W5 ns f) z0 o):=
    x_slice (w:= .d (intsD ns)) h0 h1 (part_s h2) (part_s h3) rfl (slV rfl rfl rfl rfl (by rw[List.length_map];omega) (slB 1 8))
  have hk:(((ns.map PyData.int).drop 1).take 8).length≤8:=List.length_take_le ..
  refine A (.fl ((numsN ns).map .int)) (st1:=S NW (W5 ns f) z0 o) (S NW (W6 ns f) z0 o) (as_h ⋯ _) ((x_bo .Add (a:= .fl (((ns.map PyData.int).drop 1).take 8)) (b:= .fl ((([3,6,45,1,2,4,0,7]:List Int).map PyData.int).drop (((ns.map PyData.int).drop 1).take 8).length)) ⋯ (hs _ _ ⋯ ⋯ ⋯ ⋯)
    (x_slice (w:= .fl (([3,6,45,1,2,4,0,7]:List Int).map PyData.int)) (lo:=some (kd (kd (kd (sE BW 6 0) 1) 1) 0)) (hi:=none) (sp:=none) (h:=none) (s:=none) ⋯ ⋯ (part_s (x_bui .len ⋯ (evs1 (hs _ _ ⋯ ⋯ ⋯ ⋯)) (show callB o .len [.fl (((ns.map PyData.int).drop 1).take 8)]=some (ii (((ns.map PyData.int).drop 1).take 8).length)from gd_t (maxL (Nat.le_trans hk (by decide)))))) ⋯ ⋯ (slV rfl rfl rfl rfl (by decide) (slF _))) (addF ?_)).trans ?_) ⋯ h
  · rw[List.length_drop];exact Nat.le_trans (Nat.add_le_add hk (Nat.sub_le ..)) (by decide)
  · refine congrArg (fun l=>some (V.fl l,S NW (W5 ns f) z0 o)) ?_
    unfold numsN
    rw[List.map_append,List.map_drop,List.map_take,List.map_drop,List.length_take,List.length_take,List.length_drop,List.length_drop,List.length_map]
end
end L1
end
section
open PySem PySem.W Mine V02
namespace L1
noncomputable def pcF (ns:List Int) (f:Int) (k:Nat):List Nat:=((pcs ns f).map fun p=>[p.1,p.2].getD k []).flatten
noncomputable def W10 (ns:List Int) (f:Int) (t m:List Nat):List (Str×V):=("typed",tx t)::("meant",tx m)::W7 ns f 1
section
variable {n:Nat} {ns:List Int} {f:Int} {P:Fl×St→Prop} {o:Objs} {c:Nat} {st:St} {e:Expr} {C:Cx}
theorem numsL {k:Nat}:((numsN ns).take k).length≤8:=Nat.le_trans (List.length_take_le' ..) (Nat.le_of_eq (nums_len ns))
theorem x_pcs {nm:Str} {l:Nat} (hl:l<26) (xs:List Int) (hx:xs.length≤8) {N:List Str} (hN:N=([(".0":Str),("number":Str),nm]:List Str)) (h:e=c1E e) (hi:iter G (n+152) C (kd e 1) st=some (.vals (xs.map .int),st)) (hk:compOk C (gnE e).2 st.vars=true) (hs:(⟨((localNames (gnE e).2).map fun x=>(x,none))++st.vars.filter (fun x=>freeIn (gnE e).2 x.1),st.objs⟩:St)=S N [(nm,tx [97+l])] z0 st.objs)
    (hb:∀x σ,bind G (n+151) ⟨(gnE e).2,[]⟩ (kd e 2) (.d (.int x)) (S N [(nm,tx [97+l])] σ st.objs)=some (S N [("number",ii x),(nm,tx [97+l])] σ st.objs)) (hw:∀x σ,S N [("number",ii x),(nm,tx [97+l])] σ st.objs=S N [(nm,tx [97+l])] (ovs [("number",ii x),(nm,tx [97+l])] σ) st.objs) (hd:(kids e).drop 3=[])
    (h0:∀x σ,ev G (n+151) ⟨(gnE e).2,[]⟩ (kd e 0) (S N [("number",ii x),(nm,tx [97+l])] σ st.objs)=evFn (fs G (n+150)) ⟨(gnE e).2,[]⟩ "_law_piece" (kids (kd e 0)).tail (S N [("number",ii x),(nm,tx [97+l])] σ st.objs)) (h1:∀x σ,evs (ev G (n+150) ⟨(gnE e).2,[]⟩) (kids (kd e 0)).tail (S N [("number",ii x),(nm,tx [97+l])] σ st.objs)=some ([tx [97+l],ii x],S N [("number",ii x),(nm,tx [97+l])] σ st.objs)):
    ev G (n+153) C e st=some (.fl ((xs.map (pcN l)).map twoD),st):=
  (x_mit (N:=N) (.vals (xs.map .int)) xs .int (fun x=> .fl [txtD (pcN l x).1,txtD (pcN l x).2]) (fun x=>twoD (pcN l x)) [(nm,tx [97+l])] (fun x=>[("number",ii x),(nm,tx [97+l])]) z0 (comp_h h) hi rfl (fun _=>rfl) hk (decide_eq_true (Nat.le_trans hx (by decide))) hs (fun x σ _=>hb x σ) hw hd (fun x σ _=>x_fn "_law_piece" (h0 x σ) (h1 x σ) (piece_spec (n:=n+108) hl)) (fun _ _=>rfl)).trans (by rw[List.map_map];rfl)
theorem u7 (h:Hd (exs (ex G (n+158+2) CW) (BW.drop (7+1)) (S NW (W7 ns f 0) z0 [cellP (pcA ns f)])) P):Hd (exs (ex G (n+158+2) CW) (BW.drop 7) (S NW (W6 ns f) z0 [])) P:=
  A (.fl ((pcA ns f).map twoD)) (st1:=S NW (W6 ns f) z0 []) (S NW (W7 ns f 0) z0 [cellP (pcA ns f)]) (as_h ⋯ _)
    (x_pcs (n:=n+6) (nm:="p") (mk_ok f).lp ((numsN ns).take (fr f+e1 f)) numsL rfl ⋯ (i_val (v:= .fl (((numsN ns).take (fr f+e1 f)).map .int)) ⋯ (x_slice (w:= .d (intsD (numsN ns))) (lo:=none) (hi:=some (kd (kd (kd (sE BW 7 0) 1) 1) 0)) (sp:=none) (l:=none) (h:=some (ii (fr f+e1 f:Nat))) (s:=none) ⋯ ⋯ ⋯ (part_s (x_bo .Add (a:=ii (fr f)) (b:=ii (e1 f)) ⋯ ⋯ (x_dm 120 2 ⋯ ⋯ ⋯ ⋯ ⋯ ⋯ (by decide)) ⋯)) ⋯ (slV rfl rfl rfl rfl (by rw[List.length_map,nums_len];decide) ((slT _).trans List.map_take.symm))) ⋯) ⋯ ⋯ (fun _ _=>⋯) (fun _ _=>⋯) ⋯ (fun _ _=>⋯) (fun _ _=>⋯)) ⋯ h
theorem u8 (h:Hd (exs (ex G (n+158+2) CW) (BW.drop (8+1)) (S NW (W7 ns f 0) z0 [cellP (pcA ns f++pcU f)])) P):Hd (exs (ex G (n+158+2) CW) (BW.drop 8) (S NW (W7 ns f 0) z0 [cellP (pcA ns f)])) P:=by
  have m:=mk_ok f
  have hl:(mkN f).length≤1000:=Nat.le_trans m.l4 (by decide)
  have hA:(pcA ns f).length≤8:=Nat.le_trans (Nat.le_of_eq (List.length_map ..)) numsL
  have ht:(mkN f).drop 1=mrk f:=List.drop_one
  refine I (uM f) ⋯ (t_cmp .Eq (a:=ii (md (f.fdiv 20) 2)) (b:=ii (1:Nat)) ⋯ (x_dm 20 2 ⋯ ⋯ ⋯ ⋯ ⋯ ⋯ (by decide)) ⋯ (eq_nat _ _)) (fun q=>?_) fun q=>?_
  · have e:pcA ns f++pcU f=pcA ns f++[([(mkN f).getD 0 0],mrk f)]:=by unfold pcU;rw[q];rfl
    rw[e]at h
    refine AP (C:=CW) (B:=sB BW 8) (k:=0) (i:=0) (xs:=(pcA ns f).map twoD) (v:= .fl [txtD [(mkN f).getD 0 0],txtD (mrk f)]) (x:=twoD ([(mkN f).getD 0 0],mrk f)) ⋯ ⋯ (x_list (vs:=[tx [(mkN f).getD 0 0],tx (mrk f)]) ⋯ (evs_c (x_item (w:=tx (mkN f)) (j:=(0:Nat)) ⋯ ⋯ ⋯ (it_tx ?_ hl)) (evs1 ((x_slice (w:=tx (mkN f)) (lo:=some (kd (kd (kd (kd (sE (sB BW 8) 0 0) 1) 1) 1) 0)) (hi:=none) (sp:=none) (l:=some (ii (1:Nat))) (h:=none) (s:=none) ⋯ ⋯ (part_s ⋯) ⋯ ⋯ (sl_from hl)).trans (by rw[ht])))) ⋯ ⋯) ⋯ (lt_max (Nat.lt_of_le_of_lt (Nat.le_trans (Nat.le_of_eq (List.length_map ..)) hA) (by decide))) ?_
    · have:=m.e
      cases q:mkN f with
      |nil=>rw[q]at this;cases this
      |cons=>rfl
    · refine .of (a:=(.next,S NW (W7 ns f 0) z0 [.list ((pcA ns f).map twoD++[twoD ([(mkN f).getD 0 0],mrk f)])])) ⋯ (Nx.i ?_)
      rw[mapA]
      exact h
  · have e:pcA ns f++pcU f=pcA ns f:=by unfold pcU;rw[q];exact List.append_nil _
    rw[e]at h
    exact .of (a:=(.next,S NW (W7 ns f 0) z0 [cellP (pcA ns f)])) ⋯ (Nx.i h)
theorem add_hf {i:Nat} {xs ys:List PyData} (hl:listAt o i=some xs) (h:xs.length+ys.length≤1000000):binop o .Add (.hl i) (.fl ys)=some (.fl (xs++ys)):=by
  show(((Mine.listAt o i).map PyData.list).bind lst?).bind _=_
  rw[hl];exact gd_t (decide_eq_true h)
theorem pcA_len:(pcA ns f).length≤8:=Nat.le_trans (Nat.le_of_eq (List.length_map ..)) numsL
theorem pcU_len:(pcU f).length≤1:=by unfold pcU;cases uM f;exact Nat.zero_le 1;exact Nat.le_refl 1
theorem pcB_len:(pcB ns f).length≤8:=Nat.le_trans (Nat.le_of_eq (List.length_map ..)) (Nat.le_trans (List.length_take_le' ..) (Nat.le_trans (Nat.le_of_eq List.length_drop) (Nat.le_trans (Nat.sub_le ..) (Nat.le_of_eq (nums_len ns)))))
theorem pcs_len:(pcs ns f).length≤17:=by
  unfold pcs
  rw[List.length_append,List.length_append]
  exact Nat.add_le_add (Nat.add_le_add pcA_len pcU_len) pcB_len
theorem u9 (h:∀c,Hd (exs (ex G (n+158+2) CW) (BW.drop (9+1)) (S NW (W7 ns f 1) z0 [c,cellP (pcs ns f)])) P):Hd (exs (ex G (n+158+2) CW) (BW.drop 9) (S NW (W7 ns f 0) z0 [cellP (pcA ns f++pcU f)])) P:=by
  refine A (.fl ((pcs ns f).map twoD)) (st1:=S NW (W7 ns f 0) z0 [cellP (pcA ns f++pcU f)]) (S NW (W7 ns f 1) z0 [cellP (pcA ns f++pcU f),cellP (pcs ns f)]) (as_h ⋯ _) ((x_bo .Add (a:= .hl 0) (b:= .fl ((pcB ns f).map twoD)) ⋯ ⋯
    (x_pcs (n:=n+5) (nm:="q") (mk_ok f).lq (((numsN ns).drop 4).take (fr f+e2 f)) ?_ rfl ⋯ (i_val (v:= .fl ((((numsN ns).drop 4).take (fr f+e2 f)).map .int)) ⋯ (x_slice (w:= .d (intsD (numsN ns))) (lo:=some (kd (kd (kd (kd (sE BW 9 0) 1) 1) 1) 0)) (hi:=some (kd (kd (kd (kd (sE BW 9 0) 1) 1) 1) 1)) (sp:=none) (l:=some (ii (4:Nat))) (h:=some (ii (4+(fr f+e2 f):Nat))) (s:=none) ⋯ ⋯ (part_s ⋯) (part_s ((x_bo .Add (a:=ii (4+fr f:Nat)) (b:=ii (e2 f)) ⋯ (x_bo .Add (a:=ii (4:Nat)) (b:=ii (fr f)) ⋯ ⋯ ⋯ ⋯) (x_dm 240 2 ⋯ ⋯ ⋯ ⋯ ⋯ ⋯ (by decide)) ⋯).trans (by rw[←Nat.add_assoc]))) ⋯ (slV rfl rfl rfl rfl (by rw[List.length_map,nums_len];decide) ((slB 4 _).trans (by rw[←List.map_drop,←List.map_take])))) ⋯) ⋯ ⋯ (fun _ _=>⋯) (fun _ _=>⋯) ⋯ (fun _ _=>⋯) (fun _ _=>⋯))
    (add_hf (xs:=(pcA ns f++pcU f).map twoD) ⋯ ?_)).trans ?_) ⋯ (h _)
  · exact Nat.le_trans (List.length_take_le' ..) (Nat.le_trans (Nat.le_of_eq List.length_drop) (Nat.le_trans (Nat.sub_le ..) (Nat.le_of_eq (nums_len ns))))
  · rw[List.length_map,List.length_map,List.length_append];exact Nat.le_trans (Nat.add_le_add (Nat.add_le_add pcA_len pcU_len) pcB_len) (by decide)
  · exact congrArg (fun l=>some (V.fl l,S NW (W7 ns f 0) z0 [cellP (pcA ns f++pcU f)])) (by unfold pcs;rw[←List.map_append])
end
end L1
end
section
open PySem PySem.W Mine V02
namespace L1
theorem pre_app (a b:List Nat):preW (a++b)=preW a++preW b:=by unfold preW;rw[List.filter_append,List.flatMap_append]
theorem pre_one {c:Nat} (h:isB1 c=false):preW [c]=M c:=by
  unfold preW
  rw[List.filter_cons,h];exact List.append_nil _
theorem noise_all:(noiseL.all fun c=>isB1 c)=true:=by decide+kernel
theorem pre_nz {c:Nat} (h:c∈noiseL):preW [c]=[]:=by
  unfold preW
  rw[List.filter_cons,List.all_eq_true.mp noise_all c h];rfl
theorem okT_app {a b:List Nat} (h:okT a) (h2:okT b):okT (a++b):=fun c hc=>(List.mem_append.mp hc).elim (h c) (h2 c)
theorem okT_one {c:Nat} (h:c≤1114111):okT [c]:=fun d hd=>List.mem_singleton.mp hd ▸ h
noncomputable def okLt (l:Nat):Bool:=(twN l==[]||(preW (twN l)==[97+l,97+l]&&(Nat.ble (twN l).length 2&&(twN l).all fun c=>Nat.ble c 1114111)))&&((97+l)::(65+l)::basL.map (·+l)).all fun c=>M c==[97+l]&&(!isB1 c&&Nat.ble c 1114111)
theorem lts2_ok:((List.range 26).all okLt)=true:=by decide+kernel
structure PO (c:Nat) (t m:List Nat) (lo:Nat):Prop where
  pr:preW t=m
  k:∃k,lo≤k∧k≤2 * lo∧m=List.replicate k c
  l:t.length≤3 * lo
  tt:okT t
theorem pc_ok {l:Nat} (hl:l<26) (x:Int):PO (97+l) (pcN l x).1 (pcN l x).2 1:=by
  obtain⟨h1,h2⟩:=bA (List.all_eq_true.mp lts2_ok l (List.mem_range.mpr hl))
  have ha:preW (ahN x)=[]∧(ahN x).length≤1∧okT (ahN x):=by
    unfold ahN
    cases md ((rsN x).fdiv 10) 3==0
    · exact⟨rfl,Nat.zero_le 1,nofun⟩
    · exact⟨pre_nz nz_mem,Nat.le_refl 1,okT_one (noise_c nz_mem)⟩
  unfold pcN
  cases q:twB l x with
  | true=>
    have q2:=(bA q).2
    rcases Bool.or_eq_true _ _ ▸ h1 with h |h
    · rw[h]at q2;exact ft q2
    · obtain⟨g1,g⟩:=bA h
      obtain⟨g2,g3⟩:=bA g
      exact⟨by show preW (ahN x++twN l)=_;rw[pre_app,ha.1,eq_of_beq g1];rfl,⟨2,by decide,Nat.le_refl 2,rfl⟩,by show(ahN x++twN l).length≤3;rw[List.length_append];exact Nat.add_le_add ha.2.1 (Nat.le_of_ble_eq_true g2),okT_app ha.2.2 fun c hc=>Nat.le_of_ble_eq_true (List.all_eq_true.mp g3 c hc)⟩
  | false=>
    have hf:kdN x<4:=md_lt (by decide)
    have hm:(fmL l x).getD (kdN x) 0∈(97+l)::(65+l)::basL.map (·+l):=by
      match kdN x,hf with
      |0,_=>exact List.mem_cons_self
      |1,_=>exact List.mem_cons_of_mem _ List.mem_cons_self
      | 2,_=>
        have lt:md (rsN x) 10<basL.length:=md_lt (by decide)
        refine List.mem_cons_of_mem _ (List.mem_cons_of_mem _ (List.mem_map.mpr ⟨basL.getD (md (rsN x) 10) 0,?_,rfl⟩))
        rw[List.getD_eq_getElem?_getD,List.getElem?_eq_getElem lt];exact List.getElem_mem lt
      |3,_=>exact List.mem_cons_self
    obtain⟨g1,g⟩:=bA (List.all_eq_true.mp h2 _ hm)
    obtain⟨g2,g3⟩:=bA g
    exact⟨by show preW (ahN x++[_])=_;rw[pre_app,ha.1,pre_one ((Bool.not_eq_true' _).mp g2),eq_of_beq g1];rfl,⟨1,Nat.le_refl 1,by decide,rfl⟩,by show(ahN x++[_]).length≤3;rw[List.length_append];exact Nat.le_trans (Nat.succ_le_succ ha.2.1) (by decide),okT_app ha.2.2 (okT_one (Nat.le_of_ble_eq_true g3))⟩
theorem pcl_ok {l:Nat} (hl:l<26):∀xs:List Int,PO (97+l) ((xs.map (pcN l)).map fun p=>p.1).flatten ((xs.map (pcN l)).map fun p=>p.2).flatten xs.length
  |[]=>⟨rfl,⟨0,Nat.le_refl 0,Nat.le_refl 0,rfl⟩,Nat.le_refl 0,nofun⟩
  | x::xs=>by
    obtain⟨a1,⟨k,a2,a3,a4⟩,a5,a6⟩:=pc_ok hl x
    obtain⟨b1,⟨j,b2,b3,b4⟩,b5,b6⟩:=pcl_ok hl xs
    refine⟨(pre_app _ _).trans (by rw[a1,b1];rfl),⟨k+j,by rw[List.length_cons,Nat.add_comm];exact Nat.add_le_add a2 b2,by rw[List.length_cons,Nat.add_comm xs.length,Nat.mul_add];exact Nat.add_le_add a3 b3,?_⟩,?_,okT_app a6 b6⟩
    · rw[List.map_cons,List.map_cons,List.flatten_cons,a4,b4,List.replicate_append_replicate]
    · rw[List.map_cons,List.map_cons,List.flatten_cons,List.length_append,List.length_cons,Nat.add_comm xs.length,Nat.mul_add];exact Nat.add_le_add a5 b5
theorem LL_of (f:Int):LL (pL f) (qL f):=by
  have m:=mk_ok f
  exact⟨⟨Nat.le_add_right ..,Nat.add_le_add_left (Nat.le_of_lt_succ m.lp) 97⟩,⟨Nat.le_add_right ..,Nat.add_le_add_left (Nat.le_of_lt_succ m.lq) 97⟩,fun e=>m.ne (Nat.add_left_cancel e)⟩
structure TX (f:Int) (t m:List Nat) (W H:Nat):Prop where
  me:m=wdN (pL f) (qL f) (W,H)
  w1:fr f≤W
  w2:W≤10
  h1:fr f≤H
  h2:H≤9
  pr:preW t=m
  l:t.length≤30
  tt:okT t
theorem mrk_eq (f:Int):mrk f=wdN (pL f) (qL f) ((mkN f).length - 2,1):=congrArg List.tail (mk_ok f).e
theorem pcs_ok (ns:List Int) (f:Int):∃W H,TX f (pcF ns f 0) (pcF ns f 1) W H:=by
  have mk:=mk_ok f
  have hr:=fr_le f
  have q1:fr f+e1 f≤4:=Nat.add_le_add hr.2 (Nat.le_of_lt_succ (md_lt (by decide)))
  have q2:fr f+e2 f≤4:=Nat.add_le_add hr.2 (Nat.le_of_lt_succ (md_lt (by decide)))
  have l1:((numsN ns).take (fr f+e1 f)).length=fr f+e1 f:=List.length_take_of_le (by rw[nums_len];exact Nat.le_trans q1 (by decide))
  have l2:(((numsN ns).drop 4).take (fr f+e2 f)).length=fr f+e2 f:=List.length_take_of_le (by rw[List.length_drop,nums_len];exact q2)
  obtain⟨a1,⟨k,a2,a3,a4⟩,a5,a6⟩:=pcl_ok mk.lp ((numsN ns).take (fr f+e1 f))
  obtain⟨b1,⟨j,b2,b3,b4⟩,b5,b6⟩:=pcl_ok mk.lq (((numsN ns).drop 4).take (fr f+e2 f))
  rw[l1]at a2 a3 a5
  rw[l2]at b2 b3 b5
  have hu:∃d u,d≤2∧u≤1∧((pcU f).map fun p=>p.2).flatten=wdN (pL f) (qL f) (d,u)∧preW ((pcU f).map fun p=>p.1).flatten=((pcU f).map fun p=>p.2).flatten∧((pcU f).map fun p=>p.1).flatten.length≤1∧okT ((pcU f).map fun p=>p.1).flatten:=by
    unfold pcU
    cases uM f
    · exact⟨0,0,by decide,by decide,rfl,rfl,Nat.zero_le 1,nofun⟩
    · exact⟨(mkN f).length - 2,1,Nat.sub_le_sub_right mk.l4 2,Nat.le_refl 1,(List.append_nil _).trans (mrk_eq f),(pre_one mk.b).trans (mk.m.trans (List.append_nil _).symm),Nat.le_refl 1,okT_one mk.t⟩
  obtain⟨d,u,d1,d2,d3,d4,d5,d6⟩:=hu
  have s0:pcF ns f 0=((pcA ns f).map fun p=>p.1).flatten++((pcU f).map fun p=>p.1).flatten++((pcB ns f).map fun p=>p.1).flatten:=by
    show((pcs ns f).map fun p=>p.1).flatten=_
    unfold pcs;rw[List.map_append,List.map_append,List.flatten_append,List.flatten_append]
  have s1:pcF ns f 1=((pcA ns f).map fun p=>p.2).flatten++((pcU f).map fun p=>p.2).flatten++((pcB ns f).map fun p=>p.2).flatten:=by
    show((pcs ns f).map fun p=>p.2).flatten=_
    unfold pcs;rw[List.map_append,List.map_append,List.flatten_append,List.flatten_append]
  refine⟨k+d,u+j,?_,Nat.le_trans (Nat.le_trans (Nat.le_add_right ..) a2) (Nat.le_add_right ..),Nat.add_le_add (Nat.le_trans a3 (Nat.mul_le_mul_left 2 q1)) d1,Nat.le_trans (Nat.le_trans (Nat.le_add_right ..) b2) (Nat.le_add_left ..),Nat.add_le_add d2 (Nat.le_trans b3 (Nat.mul_le_mul_left 2 q2)),?_,?_,?_⟩
  · rw[s1];unfold pcA pcB
    rw[a4,d3,b4]
    show List.replicate k (pL f)++(List.replicate d (pL f)++List.replicate u (qL f))++List.replicate j (qL f)=List.replicate (k+d) (pL f)++List.replicate (u+j) (qL f)
    rw[←List.append_assoc,List.append_assoc,List.replicate_append_replicate,List.replicate_append_replicate]
  · rw[s0,s1,pre_app,pre_app]
    exact congr (congrArg _ (congr (congrArg _ a1) d4)) b1
  · rw[s0,List.length_append,List.length_append]
    exact Nat.le_trans (Nat.add_le_add (Nat.add_le_add (Nat.le_trans a5 (Nat.mul_le_mul_left 3 q1)) d5) (Nat.le_trans b5 (Nat.mul_le_mul_left 3 q2))) (by decide)
  · rw[s0];exact okT_app (okT_app a6 d6) b6
end L1
end
section
open PySem PySem.W Mine V02
namespace Mine
variable {G:Env'} {n:Nat} {C:Cx} {v a b:V} {st:St} {e:Expr}
theorem t_or {c d:Bool} (h0:tst G (n+1) C e st=evOr (tst G n C) [kd e 0,kd e 1] st) (h1:tst G n C (kd e 0) st=some (c,st)) (h2:c=false→tst G n C (kd e 1) st=some (d,st)):tst G (n+1) C e st=some (c||d,st):=h0.trans (o_c h1 fun q=>o_1 (h2 q))
end Mine
namespace L1
theorem occ_sz (w:List Nat) (c lim:Nat):∀(k a:Nat) (st:Array Nat×Nat),st.2≤a→st.1.size+k≤lim→(forIn (List.range' a k) st (StrLaws.occBody (mkS w) (mkS [c]) w.length lim)).run.1.size=st.1.size+(List.range' a k).countP fun i=>w[i]?==some c
  |0,a,st,_,_=>rfl
  | k +1,a,st,h1,h2=>by
    rw[List.range'_succ,List.forIn_cons,List.countP_cons]
    have hs:(a+(mkS [c]).length≤w.length∧Builtin.Str.subAt (mkS w) (mkS [c]) a=true)↔w[a]?=some c:=StrLaws.subAt_one (mkS w) c a
    unfold StrLaws.occBody
    cases q:w[a]?==some c with
    | true=>
      obtain⟨g1,g2⟩:=hs.mpr (eq_of_beq q)
      rw[if_pos ⟨⟨⟨by omega,h1⟩,g1⟩,g2⟩]
      refine(occ_sz w c lim k (a+1) (st.1.push a,a+1) (Nat.le_refl _) ?_).trans ?_
      · rw[Array.size_push];omega
      · rw[Array.size_push];simp;omega
    | false=>
      rw[if_neg fun g=>by rw[hs.mp ⟨g.1.2,g.2⟩,beq_self_eq_true]at q;cases q]
      exact(occ_sz w c lim k (a+1) st (by omega) (by omega)).trans rfl
theorem cnt_at (c:Nat):∀w:List Nat,(List.range (w.length+1)).countP (fun i=>w[i]?==some c)=w.count c
  |[]=>rfl
  | x::w=>by
    rw[List.range_succ_eq_map,List.countP_cons,List.countP_map]
    show(List.range (w.length+1)).countP (fun i=>w[i]?==some c)+(if(some x==some c)=true then 1 else 0)=_
    rw[cnt_at c w,List.count_cons];rfl
theorem cnt_ok {o:Mine.Objs} (w:List Nat) (c:Nat):callM o (mkS w) "count" [tx [c]]=some (ii (w.count c)):=by
  show some (ii (Builtin.Str.occurrences (mkS w) (mkS [c]) 0 w.length (w.length+1)).length)=_
  rw[StrLaws.occ_eq]
  have h:=occ_sz w c (w.length+1) (w.length+1) 0 (#[],0) (Nat.le_refl 0) (Nat.le_of_eq (Nat.zero_add _))
  rw[show w.length+1 - 0=w.length+1 from rfl]
  rw[Array.length_toList,h,←List.range_eq_range',cnt_at]
  exact congrArg (fun k:Nat=>some (ii k)) (Nat.zero_add _)
theorem eqv_int (a b:Int):PyData.eqv (.int a) (.int b)=(a==b):=⋯
theorem b1_perm:(b1I.map fun p=>p.1).Perm (noiseL.map fun(c:Nat)=>(c:Int)):=by decide+kernel
theorem b1_in (c:Nat):((natD noiseL).any fun y=>PyData.eqv y (.int (c:Int)))=isB1 c:=by
  have e1:isB1 c=(b1I.map fun p=>p.1).any fun x=>x==(c:Int):=by rw[List.any_map];rfl
  have e2:((natD noiseL).any fun y=>PyData.eqv y (.int (c:Int)))=(noiseL.map fun(c:Nat)=>(c:Int)).any fun x=>x==(c:Int):=by
    unfold natD
    rw[List.any_map,List.any_map];rfl
  rw[e1,e2,b1_perm.any_eq]
theorem in_nz {o:Objs} {c:Nat}:cmpop o .In (ii c) (.d (.list (natD noiseL)))=some (isB1 c):=
  (show cmpop o .In (ii c) (.d (.list (natD noiseL)))=gd (okD (.int c)&&okDs (natD noiseL)) (some ((natD noiseL).any fun y=>PyData.eqv y (.int c)))from ⋯).trans (by rw[b1_in];exact gd_t ⋯)
noncomputable def endN (f:Int):List Nat:=[hid f]++mrk f++[hid f]
noncomputable def alN (f:Int) (t:List Nat):List Nat:=t++endN f++[codeN f]
noncomputable def bD (c:Nat):PyData:= .bool (isB1 c)
noncomputable def W11 (ns:List Int) (f:Int) (t m:List Nat):List (Str×V):=("word",tx m)::("ends",tx (endN f))::W10 ns f t m
noncomputable def W12 (ns:List Int) (f:Int) (t m:List Nat):List (Str×V):=("held",.d (.list ((alN f t).map bD)))::W11 ns f t m
noncomputable def W13 (ns:List Int) (f:Int) (t m:List Nat) (W H:Nat):List (Str×V):=("wide",ii W)::("high",ii H)::W12 ns f t m
section
variable {n W H:Nat} {ns:List Int} {f:Int} {P:Fl×St→Prop} {o:Objs} {c:Cell} {st:St} {e:Expr} {C:Cx} {t m:List Nat}
theorem mrk_len (f:Int):(mrk f).length≤3:=by
  have:=(mk_ok f).l4
  unfold mrk;rw[List.length_tail];omega
theorem end_len (f:Int):(endN f).length≤5:=by
  have:=mrk_len f
  unfold endN;rw[List.length_append,List.length_append];exact Nat.add_le_add (Nat.add_le_add (Nat.le_refl 1) this) (Nat.le_refl 1)
theorem al_len (h:t.length≤30):(alN f t).length≤36:=by
  unfold alN;rw[List.length_append,List.length_append];exact Nat.add_le_add (Nat.add_le_add h (end_len f)) (Nat.le_refl 1)
theorem code_le:codeN f≤1114111:=by
  have h:md f 1112064<1112064:=md_lt (by decide)
  unfold codeN offN
  generalize md f 1112064=u at h
  cases Nat.blt u 55296
  · exact Nat.le_trans (Nat.add_le_add_right (Nat.le_of_lt_succ h) 2048) (by decide)
  · exact Nat.le_trans (Nat.le_of_lt h) (by decide)
theorem TX.ml (x:TX f t m W H):m.length≤19:=by
  have:=x.w2;have:=x.h2
  rw[x.me,wd_len];show W+H≤19;omega
theorem u10 (x:TX f (pcF ns f 0) (pcF ns f 1) W H) (h:Hd (exs (ex G (n+158+2) CW) (BW.drop (10+1)) (S NW (W10 ns f (pcF ns f 0) (pcF ns f 1)) z0 [c,cellP (pcs ns f)])) P):Hd (exs (ex G (n+158+2) CW) (BW.drop 10) (S NW (W7 ns f 1) z0 [c,cellP (pcs ns f)])) P:=by
  refine AT (.fl [txtD (pcF ns f 0),txtD (pcF ns f 1)]) ⋯ (x_mit (n:=n+156) (N:=[".0","k","pieces"]) (.vals [elI 0,elI 1]) [0,1] elI (fun k=>tx (pcF ns f k)) (fun k=>txtD (pcF ns f k)) [("pieces",.hl 1)] (fun k=>[("k",ii k),("pieces",.hl 1)]) z0 (comp_h ⋯) (i_val (v:= .rng 0 2 1) (it_pl ⋯) ⋯ ⋯) rfl (fun _=>rfl) ⋯ ⋯ ⋯ (fun _ _ _=>⋯) (fun _ _=>⋯) ⋯ (fun k σ hk=>?_) (fun _ _=>rfl)) ⋯ h
  have hk2:k<2:=by revert hk;match k with |0=>exact fun _=>by decide |1=>exact fun _=>by decide |k+2=>exact fun hk=>absurd hk (by simp)
  have hl:(pcF ns f k).length≤1000000:=by
    match k,hk2 with
    |0,_=>exact Nat.le_trans x.l (by decide)
    |1,_=>exact Nat.le_trans x.ml (by decide)
  refine x_mt [] "join" ⋯ ⋯ (x_mit (N:=[".0","piece","k"]) (.cell 1) (pcs ns f) twoD (fun p=>tx ([p.1,p.2].getD k [])) (fun p=>txtD ([p.1,p.2].getD k [])) [("k",ii k)] (fun p=>[("piece",.d (twoD p)),("k",ii k)]) z0 (comp_h ⋯) (i_val (v:= .hl 1) ⋯ ⋯ ⋯) rfl (fun _=>rfl) ⋯ (decide_eq_true (Nat.le_trans pcs_len (by decide))) ⋯ (fun _ _ _=>⋯) (fun _ _=>⋯) ⋯ (fun p σ _=>x_item (w:= .d (twoD p)) (j:=k) ⋯ ⋯ ⋯ (itLn (l:=[p.1,p.2]) hk2 (show 2≤1000 by decide))) (fun _ _=>rfl)) ?_
  rw[map_c (g:=txtD) (f:=fun p:List Nat×List Nat=>[p.1,p.2].getD k [])]
  exact join_ok hl
theorem x_m1 {N:List Str} {L:List (Str×V)} {σ:Str→Option V} (h0:ev G (n+1) C e (S N L σ o)=evSlice (fs G n) C (kd e 0) (some (kd (kd e 1) 0)) none none (S N L σ o)) (h1:ev G n C (kd e 0) (S N L σ o)=some (tx (mkN f),S N L σ o)) (h2:ev G n C (kd (kd e 1) 0) (S N L σ o)=some (ii (1:Nat),S N L σ o)):ev G (n+1) C e (S N L σ o)=some (tx (mrk f),S N L σ o):=
  (x_slice (w:=tx (mkN f)) (l:=some (ii (1:Nat))) (h:=none) (s:=none) h0 h1 (part_s h2) rfl rfl (sl_from (Nat.le_trans (mk_ok f).l4 (by decide)))).trans (by rw[List.drop_one];rfl)
theorem u11 (x:TX f t m W H) (h:Hd (exs (ex G (n+158+2) CW) (BW.drop (11+1)) (S NW (W11 ns f t m) z0 o)) P):Hd (exs (ex G (n+158+2) CW) (BW.drop 11) (S NW (W10 ns f t m) z0 o)) P:=by
  have l3:=mrk_len f
  exact AQ false [tx m,tx (endN f)] ⋯ (evs_c ((x_fn "_law_prepared" ⋯ (evs1 (v:=tx t) ⋯) (prep_spec (n:=n+118) (Nat.le_trans x.l (by decide)))).trans (by rw[x.pr])) (evs1 (x_bo .Add (a:=tx ([hid f]++mrk f)) (b:=tx [hid f]) ⋯ (x_bo .Add (a:=tx [hid f]) (b:=tx (mrk f)) ⋯ ⋯ (x_m1 ⋯ ⋯ ⋯) (addT (Nat.le_trans (Nat.add_le_add (Nat.le_refl 1) l3) (by decide)))) ⋯ (addT (by rw[List.length_append];exact Nat.le_trans (Nat.add_le_add (Nat.add_le_add (Nat.le_refl 1) l3) (Nat.le_refl 1)) (by decide)))))) ⋯ h
theorem x_al {N:Nat} {L:List (Str×V)} {σ:Str→Option V} {S1:St} (hS:S1=S NW L σ o) (hl:t.length≤30) (h0:ev G (N+4) CW e S1=evBin (fs G (N+3)) CW (kd e 0) .Add (kd e 1) S1) (h1:ev G (N+3) CW (kd e 0) S1=evBin (fs G (N+2)) CW (kd (kd e 0) 0) .Add (kd (kd e 0) 1) S1) (h2:ev G (N+2) CW (kd (kd e 0) 0) S1=some (tx t,S1)) (h3:ev G (N+2) CW (kd (kd e 0) 1) S1=some (tx (endN f),S1)) (h4:ev G (N+3) CW (kd e 1) S1=evBui (fs G (N+2)) CW (bn .chr) (kids (kd e 1)).tail S1) (h5:evs (ev G (N+2) CW) (kids (kd e 1)).tail S1=some ([ii (codeN f)],S1)):ev G (N+4) CW e S1=some (tx (alN f t),S1):=by
  have h5':=end_len f
  exact x_bo .Add (a:=tx (t++endN f)) (b:=tx [codeN f]) h0 (x_bo .Add (a:=tx t) (b:=tx (endN f)) h1 h2 h3 (addT (Nat.le_trans (Nat.add_le_add hl h5') (by decide)))) (x_bui .chr h4 h5 (chrV code_le)) (addT (by rw[List.length_append];exact Nat.le_trans (Nat.add_le_add (Nat.add_le_add hl h5') (Nat.le_refl 1)) (by decide)))
theorem u12 (x:TX f t m W H) (h:Hd (exs (ex G (n+158+2) CW) (BW.drop (12+1)) (S NW (W12 ns f t m) z0 o)) P):Hd (exs (ex G (n+158+2) CW) (BW.drop 12) (S NW (W11 ns f t m) z0 o)) P:=
  A (.fl ((alN f t).map bD)) (st1:=S NW (W11 ns f t m) z0 o) (S NW (W12 ns f t m) z0 o) (as_h ⋯ _) (x_mit (N:=[".0","sign"]) (.vals ((alN f t).map strD)) (alN f t) strD (fun c=> .d (bD c)) bD [] (fun c=>[("sign",tx [c])]) z0 (comp_h ⋯) (i_val (v:=tx (alN f t)) ⋯ (x_al rfl x.l ⋯ ⋯ ⋯ ⋯ ⋯ ⋯) ⋯) rfl (fun _=>rfl) ⋯ (decide_eq_true (Nat.le_trans (al_len x.l) (by decide))) ⋯ (fun _ _ _=>⋯) (fun _ _=>⋯) ⋯ (fun c σ _=>x_pm prim1 (x:=strD c) (y:=bD c) ⋯ ⋯ rfl) (fun _ _=>rfl)) ⋯ h
theorem cnt_wd {p q:Nat} {a:Nat×Nat} (h:p≠q):(wdN p q a).count p=a.1∧(wdN p q a).count q=a.2:=by
  unfold wdN
  simp only[List.count_append,List.count_replicate,beq_iff_eq,h,Ne.symm h,if_true,if_false,Nat.add_zero,Nat.zero_add,and_self]
theorem u13 (x:TX f t m W H) (h:Hd (exs (ex G (n+158+2) CW) (BW.drop (13+1)) (S NW (W13 ns f t m W H) z0 o)) P):Hd (exs (ex G (n+158+2) CW) (BW.drop 13) (S NW (W12 ns f t m) z0 o)) P:=by
  obtain⟨c1,c2⟩:=cnt_wd (a:=(W,H)) (LL_of f).n
  rw[←x.me]at c1 c2
  exact AQ false [ii W,ii H] ⋯ (evs_c (x_mt (a:=tx [pL f]) m "count" ⋯ ⋯ ⋯ ((cnt_ok m (pL f)).trans (by rw[c1]))) (evs1 (x_mt (a:=tx [qL f]) m "count" ⋯ ⋯ ⋯ ((cnt_ok m (qL f)).trans (by rw[c2]))))) ⋯ h
theorem u14 (x:TX f t m W H) (h:Hd (exs (ex G (n+158+2) CW) (BW.drop (14+1)) (S NW (W13 ns f t m W H) z0 o)) P):Hd (exs (ex G (n+158+2) CW) (BW.drop 14) (S NW (W13 ns f t m W H) z0 o)) P:=by
  have hl:decide ((alN f t).length≤1000)=true:=decide_eq_true (Nat.le_trans (al_len x.l) (by decide))
  refine IR (false||false) ⋯ (t_or ⋯ (t_cmp .NotEq (a:= .d (.list ((alN f t).map bD))) (b:= .fl ((alN f t).map bD)) ⋯ ⋯
      (x_mit (N:=[".0","sign","noise"]) (.vals ((alN f t).map strD)) (alN f t) strD (fun c=> .d (bD c)) bD [("noise",.d (.list (natD noiseL)))] (fun c=>[("sign",tx [c]),("noise",.d (.list (natD noiseL)))]) z0 (comp_h ⋯) (i_val (v:=tx (alN f t)) ⋯ (x_al rfl x.l ⋯ ⋯ ⋯ ⋯ ⋯ ⋯) ⋯) rfl (fun _=>rfl) ⋯ hl ⋯ (fun _ _ _=>⋯) (fun _ _=>⋯) ⋯ (fun c σ _=>x_cmp .In (a:=ii c) (b:= .d (.list (natD noiseL))) ⋯ (x_bui .ord ⋯ (evs1 (v:=tx [c]) ⋯) ⋯) ⋯ in_nz) (fun _ _=>rfl)) (ne_same (d:=1) rfl rfl rfl (lay_l (lay_map fun c _=>lay_b _)) rfl)) fun _=>
    t_cmp .NotEq (a:= .fl []) (b:= .fl []) ⋯ ((x_fit (N:=[".0","answer"]) (.vals ((alN f t).map bD)) (alN f t) bD (fun _=>false) (fun c=> .d (bD c)) bD [] (fun c=>[("answer",.d (bD c))]) z0 (comp_h ⋯) (i_val (v:= .d (.list ((alN f t).map bD))) ⋯ ⋯ ⋯) rfl (fun _=>rfl) ⋯ hl ⋯ (fun _ _ _=>⋯) (fun _ _=>⋯) (fun _ _ _=>a_1 ⋯) (fun _ _ _ _=>⋯) (fun _ _=>rfl)).trans (by rw[List.filter_eq_nil_iff.mpr fun _ _=>by decide];rfl)) ⋯ (ne_same (x:= .list []) (d:=1) rfl rfl rfl (lay_l nofun) rfl)) ft fun _=>h
end
end L1
end
section
open PySem PySem.W Mine V02
namespace L1
noncomputable def bkN (f:Int) (W H:Nat):Bk:=⟨pL f,qL f,W+fr f,H+fr f,stp (fr f),siz (fr f),rst f⟩
noncomputable def OO (b:Bk) (c0 c1:Cell) (t:Objs):Objs:=OB c0 c1 ((plN b).map (newE b.p b.q)) (.list ((plN b).map fun c=>txtD (spN b.p b.q c))::t)
noncomputable def W15 (ns:List Int) (f:Int) (t m:List Nat) (W H:Nat):List (Str×V):=("book",.obj 3)::("places",.d (.list ((plN (bkN f W H)).map plD)))::("spelled",.hl 4)::W13 ns f t m W H
noncomputable def spL (b:Bk):List PyData:=(plN b).map fun c=>txtD (spN b.p b.q c)
noncomputable def vlL (b:Bk):List PyData:=(plN b).map fun c=>txtD (vlN c)
noncomputable def smL (b:Bk):List PyData:=(plN b).map fun c=>txtD (wdN b.p b.q c)
noncomputable def W16 (ns:List Int) (f:Int) (t m:List Nat) (W H:Nat):List (Str×V):=("names",.d (.list (spL (bkN f W H))))::("values",.d (.list (vlL (bkN f W H))))::W15 ns f t m W H
noncomputable def W18 (ns:List Int) (f:Int) (t m:List Nat) (W H:Nat):List (Str×V):=("reach",.rng (-(fr f:Int)) ((fr f:Int)+1) 1)::("folded",.d (.list (smL (bkN f W H))))::W16 ns f t m W H
section
variable {n W H:Nat} {ns:List Int} {f:Int} {P:Fl×St→Prop} {o t':Objs} {c0 c1:Cell} {t m:List Nat} {σ:Str→Option V}
theorem TX.bk (x:TX f t m W H):BkOK (bkN f W H):=by
  have:=x.w2;have:=x.h2;have h3:=fr_le f
  refine⟨by show W+fr f≤20;omega,by show H+fr f≤20;omega,⟨Nat.succ_pos _,?_⟩,by show 3 * fr f+2≤20;omega⟩
  have h:fr f=1∨fr f=2∨fr f=3:=by omega
  show siz (fr f)≤40
  rcases h with e |e |e<;>rw[e]<;>decide
theorem OO_HA (x:TX f t m W H):HA (OO (bkN f W H) c0 c1 t') 3 2 ((plN (bkN f W H)).map (newE (pL f) (qL f))):=OB_HA (by rw[List.length_map];exact Nat.le_trans (plN_len x.bk) (by decide))
theorem x_fnG {N:Nat} {C:Cx} {fn:Str} {as:List Expr} {vs:List V} {st:St} {y:Option (V×St)} {Q:V×St→Prop} (h0:y=evFn (fs G N) C fn as st) (h:evs (ev G N C) as st=some (vs,st)) (hc:∀z,z=call G N fn vs [] st.objs→Hd z fun r=>Q (r.1,⟨st.vars,r.2⟩)):Hd y Q:=by
  rw[h0];show Hd ((evs (ev G N C) as st).bind _) Q
  rw[h]
  exact(hc _ rfl).get fun r hr e=>by show Hd ((call G N fn vs [] st.objs).map _) Q;rw[hr];exact e
theorem a15 {N:Nat} {st:St}:exs (ex G (N+2) CW) (BW.drop 15) st=((ev G (N+1) CW (sE BW 15 0) st).bind fun p=>(bind G (N+1) CW (sE BW 15 1) p.1 p.2).map fun st=>(Fl.next,st)).bind fun p=>bif p.1.isNext then exs (ex G (N+2) CW) (BW.drop (15+1)) p.2 else some p:=⋯
theorem c15 {N:Nat} {st:St}:ev G (N+1) CW (sE BW 15 0) st=evFn (fs G N) CW "_law_book" (kids (sE BW 15 0)).tail st:=⋯
theorem u15 (x:TX f t m W H) {a:Nat×Nat} {r:List (Nat×Nat)} (hp:plN (bkN f W H)=a::r) (h:∀t',Hd (exs (ex G (n+158+2) CW) (BW.drop (15+1)) (S NW (W15 ns f t m W H) z0 (OO (bkN f W H) c0 c1 t'))) P):Hd (exs (ex G (n+158+2) CW) (BW.drop 15) (S NW (W13 ns f t m W H) z0 [c0,c1])) P:=by
  refine ATH a15 ?_
  have h0:=c15 (N:=n+158) (st:=S NW (W13 ns f t m W H) z0 [c0,c1])
  generalize ev G (n+158+1) CW (sE BW 15 0) (S NW (W13 ns f t m W H) z0 [c0,c1])=y at h0 ⊢
  have ha:evs (ev G (n+158) CW) (kids (sE BW 15 0)).tail (S NW (W13 ns f t m W H) z0 [c0,c1])=some ([tx [pL f],tx [qL f],ii (W+fr f:Nat),ii (H+fr f:Nat),.fl [elI (stp (fr f)),elI (siz (fr f)),elI (rst f)]],S NW (W13 ns f t m W H) z0 [c0,c1]):=evs_c ⋯ (evs_c ⋯ (evs_c (x_bo .Add (a:=ii W) (b:=ii (fr f)) ⋯ ⋯ ⋯ ⋯) (evs_c (x_bo .Add (a:=ii H) (b:=ii (fr f)) ⋯ ⋯ ⋯ ⋯) (evs1 (x_list (vs:=[ii (stp (fr f)),ii (siz (fr f)),ii (rst f)]) ⋯ ⋯ ⋯ ⋯)))))
  refine x_fnG h0 ha fun z hz=>?_
  refine(book_spec (n:=n+57) (b:=bkN f W H) (c0:=c0) (c1:=c1) (hz.trans ⋯) x.bk (LL_of f) hp).get fun q hq ⟨e1,t',e2⟩=> .of hq ?_
  rw[e1,e2]
  exact .of (a:=S NW (W15 ns f t m W H) z0 (OO (bkN f W H) c0 c1 t')) ⋯ (h t')
theorem u16 (x:TX f t m W H) (h:Hd (exs (ex G (n+158+2) CW) (BW.drop (16+1)) (S NW (W16 ns f t m W H) z0 (OO (bkN f W H) c0 c1 t'))) P):Hd (exs (ex G (n+158+2) CW) (BW.drop 16) (S NW (W15 ns f t m W H) z0 (OO (bkN f W H) c0 c1 t'))) P:=by
  have X:=x.bk
  have R:=OO_HA (c0:=c0) (c1:=c1) (t':=t') x
  refine AQ true [.fl (spL (bkN f W H)),.fl (vlL (bkN f W H))] ⋯ (evs_c ((x_ob 3 "keys" "Headers.keys" ⋯ ⋯ R.is ⋯ ⋯ (keys_spec R)).trans (by rw[List.map_map];rfl)) (evs1 (x_mit (N:=[".0","x","y"]) (.vals ((plN (bkN f W H)).map plD)) (plN (bkN f W H)) plD (fun c=>tx (vlN c)) (fun c=>txtD (vlN c)) [] (fun c=>[("x",ii c.1),("y",ii c.2)]) z0 (comp_h ⋯) (i_val (v:= .d (.list ((plN (bkN f W H)).map plD))) ⋯ ⋯ ⋯) rfl (fun _=>rfl) ⋯ (decide_eq_true (Nat.le_trans (plN_len X) (by decide))) ⋯ (fun _ _ _=>⋯) (fun _ _=>⋯) ⋯ (fun c σ hc=>?_) (fun _ _=>rfl)))) ⋯ h
  have hbd:=pl_bd X hc
  have n1:=num_l (Nat.le_trans hbd.1 X.w)
  have n2:=num_l (Nat.le_trans hbd.2 X.h)
  exact x_bo .Add (a:=tx (numW c.1++[32])) (b:=tx (numW c.2)) ⋯ (x_bo .Add (a:=tx (numW c.1)) (b:=tx [32]) ⋯ (x_bui .str ⋯ (evs1 (v:=ii c.1) ⋯) (numV (Nat.le_trans hbd.1 X.w))) ⋯ (addT (Nat.le_trans (Nat.succ_le_succ n1.2.1) (by decide)))) (x_bui .str ⋯ (evs1 (v:=ii c.2) ⋯) (numV (Nat.le_trans hbd.2 X.h))) (addT (by rw[List.length_append];exact Nat.le_trans (Nat.add_le_add (Nat.succ_le_succ n1.2.1) n2.2.1) (by decide)))
theorem sp_lay:Lay 1 (.list (spL (bkN f W H))):=lay_l (lay_map fun c _=>lay_tx (okT_wd (LL_of f) _ _ c))
theorem vl_lay (X:BkOK (bkN f W H)):Lay 1 (.list (vlL (bkN f W H))):=lay_l (lay_map fun c hc=>lay_tx (vl_ok (Nat.le_trans (pl_bd X hc).1 X.w) (Nat.le_trans (pl_bd X hc).2 X.h)).2.2)
theorem pre_end:preW (endN f)=mrk f:=by
  unfold endN
  rw[pre_app,pre_app,pre_nz (hid_mem f),mrk_eq]
  exact(List.append_nil _).trans (pre_wd (LL_of f) false false _)
theorem ne_txt {o:Objs} (w:List Nat):cmpop o .NotEq (tx w) (tx w)=some false:=by
  show some (!(w==w))=_
  rw[beq_self_eq_true];rfl
theorem u17 (x:TX f t m W H) (h:Hd (exs (ex G (n+158+2) CW) (BW.drop (17+1)) (S NW (W16 ns f t m W H) z0 (OO (bkN f W H) c0 c1 t'))) P):Hd (exs (ex G (n+158+2) CW) (BW.drop 17) (S NW (W16 ns f t m W H) z0 (OO (bkN f W H) c0 c1 t'))) P:=by
  have R:=OO_HA (c0:=c0) (c1:=c1) (t':=t') x
  refine IR (false||(false||(false||false))) ⋯ ((show Mine.tst G (n+158+1) CW (sE BW 17 0) (S NW (W16 ns f t m W H) z0 (OO (bkN f W H) c0 c1 t'))=evOr (Mine.tst G (n+158) CW) [kd (sE BW 17 0) 0,kd (sE BW 17 0) 1,kd (sE BW 17 0) 2,kd (sE BW 17 0) 3] (S NW (W16 ns f t m W H) z0 (OO (bkN f W H) c0 c1 t'))from ⋯).trans
    (o_c (t_cmp .NotEq (a:=tx m) (b:=tx m) ⋯ ⋯ ⋯ (ne_txt m)) fun _=>o_c (t_cmp .NotEq (a:=tx (mrk f)) (b:=tx (mrk f)) ⋯ ((x_fn "_law_prepared" ⋯ (evs1 (v:=tx (endN f)) ⋯) (prep_spec (n:=n+116) (Nat.le_trans (end_len f) (by decide)))).trans (by rw[pre_end])) (x_m1 ⋯ ⋯ ⋯) (ne_txt _)) fun _=>
      o_c (t_cmp .NotEq (a:= .d (.list (spL (bkN f W H)))) (b:= .hl 4) ⋯ ⋯ ⋯ (ne_same rfl rfl rfl sp_lay rfl)) fun _=>o_1 (t_cmp .NotEq (a:= .fl (vlL (bkN f W H))) (b:= .d (.list (vlL (bkN f W H)))) ⋯ ((x_ob 3 "values" "Headers.values" ⋯ ⋯ R.is ⋯ ⋯ (values_spec R)).trans (by rw[List.map_map];rfl)) ⋯ (ne_same rfl rfl rfl (vl_lay x.bk) rfl)))) ft fun _=>h
theorem u18 (x:TX f t m W H) (h:Hd (exs (ex G (n+158+2) CW) (BW.drop (18+1)) (S NW (W18 ns f t m W H) z0 o)) P):Hd (exs (ex G (n+158+2) CW) (BW.drop 18) (S NW (W16 ns f t m W H) z0 o)) P:=by
  have X:=x.bk
  exact AQ false [.rng (-(fr f:Int)) ((fr f:Int)+1) 1,.fl (smL (bkN f W H))] ⋯ (evs_c (x_bui .range (vs:=[ii (-(fr f:Int)),ii ((fr f:Int)+1)]) ⋯ (evs_c ⋯ (evs1 (x_bo .Add (a:=ii (fr f)) (b:=ii 1) ⋯ ⋯ ⋯ ⋯))) ⋯) (evs1 (x_mit (N:=[".0","name"]) (.vals (spL (bkN f W H))) (plN (bkN f W H)) (fun c=>txtD (spN (pL f) (qL f) c)) (fun c=>tx (wdN (pL f) (qL f) c)) (fun c=>txtD (wdN (pL f) (qL f) c)) [] (fun c=>[("name",tx (spN (pL f) (qL f) c))]) z0 (comp_h ⋯) (i_val (v:= .d (.list (spL (bkN f W H)))) ⋯ ⋯ ⋯) rfl (fun _=>rfl) ⋯ (decide_eq_true (Nat.le_trans (plN_len X) (by decide))) ⋯ (fun _ _ _=>⋯) (fun _ _=>⋯) ⋯ (fun c σ hc=>(x_fn "_law_prepared" ⋯ (evs1 (v:=tx (spN (pL f) (qL f) c)) ⋯) (prep_spec (n:=n+116) (w:=spN (pL f) (qL f) c) (up_len (b:=bkN f W H) (LL_of f) X hc _ _))).trans (by rw[show preW (spN (pL f) (qL f) c)=_ from pre_wd (LL_of f) _ _ c])) (fun _ _=>rfl)))) ⋯ h
end
end L1
end
section
open PySem PySem.W Mine V02
namespace L1
noncomputable def iv (r i:Nat):Int:= -(r:Int)+(i:Int) * 1
noncomputable def okR (f:Int) (W H i j:Nat):Bool:=decide (((iv (fr f) i+iv (fr f) j).natAbs:Int)≤fr f)&&md ((W:Int) - iv (fr f) i+stp (fr f) * ((H:Int) - iv (fr f) j)) (siz (fr f))==rst f
noncomputable def ijD (f:Int) (W H i j:Nat):PyData:= .list [.int ((W:Int) - iv (fr f) i),.int ((H:Int) - iv (fr f) j)]
noncomputable def tkL (f:Int) (W H:Nat):List PyData:=(List.range (2 * fr f+1)).flatMap fun i=>((List.range (2 * fr f+1)).filter (okR f W H i)).map (ijD f W H i)
noncomputable def W19 (ns:List Int) (f:Int) (t m:List Nat) (W H:Nat) (a:Nat×Nat):List (Str×V):=("taken",.d (.list [plD a]))::W18 ns f t m W H
noncomputable def tlN (f:Int) (m:List Nat) (c:Nat×Nat):Int:=levV m (wdN (pL f) (qL f) c) (2 * fr f:Nat)
noncomputable def W20 (ns:List Int) (f:Int) (t m:List Nat) (W H:Nat) (a:Nat×Nat):List (Str×V):=("told",.d (.list ((plN (bkN f W H)).map fun c=> .int (tlN f m c))))::W19 ns f t m W H a
section
variable {n W H:Nat} {ns:List Int} {f:Int} {P:Fl×St→Prop} {o t':Objs} {c0 c1:Cell} {t m:List Nat} {σ:Str→Option V} {a:Nat×Nat}
theorem it_rch {o:Objs}:itIn o (.rng (-(fr f:Int)) ((fr f:Int)+1) 1)=some (.vals ((List.range (2 * fr f+1)).map fun i=> .int (iv (fr f) i))):=by
  have h:=fr_le f
  show(rangeL (-(fr f:Int)) ((fr f:Int)+1) 1).map It.vals=_
  have e:=range_gen (lo:= -(fr f:Int)) (st:=1) (k:=2 * fr f+1) (by omega) (by decide) (by decide) (by omega)
  rw[show -(fr f:Int)+((2 * fr f+1:Nat):Int) * 1=(fr f:Int)+1 by omega]at e
  rw[e];rfl
theorem u19 (hT:tkL f W H=[plD a]) (h:Hd (exs (ex G (n+158+2) CW) (BW.drop (19+1)) (S NW (W19 ns f t m W H a) z0 o)) P):Hd (exs (ex G (n+158+2) CW) (BW.drop 19) (S NW (W18 ns f t m W H) z0 o)) P:=by
  have h3:=fr_le f
  have hl:(List.range (2 * fr f+1)).length≤7:=by rw[List.length_range];omega
  have Lx:List (Str×V):=[]
  refine A (.fl (tkL f W H)) (st1:=S NW (W18 ns f t m W H) z0 o) (S NW (W19 ns f t m W H a) z0 o) (as_h ⋯ _) ?_ (by rw[hT];exact ⋯) h
  refine(x_two (n:=n+155) (N:=[".0","i","j","far","step","size","rest","wide","high","reach"]) (.vals ((List.range (2 * fr f+1)).map fun i=> .int (iv (fr f) i))) (List.range (2 * fr f+1)) (fun i=> .int (iv (fr f) i)) (fun _=>List.range (2 * fr f+1)) (fun i=> .int (iv (fr f) i)) (okR f W H) (fun i j=> .fl [.int ((W:Int) - iv (fr f) i),.int ((H:Int) - iv (fr f) j)]) (ijD f W H)
    [("far",ii (fr f)),("step",ii (stp (fr f))),("size",ii (siz (fr f))),("rest",ii (rst f)),("wide",ii W),("high",ii H),("reach",.rng (-(fr f:Int)) ((fr f:Int)+1) 1)]
    (fun i=>[("i",ii (iv (fr f) i)),("far",ii (fr f)),("step",ii (stp (fr f))),("size",ii (siz (fr f))),("rest",ii (rst f)),("wide",ii W),("high",ii H),("reach",.rng (-(fr f:Int)) ((fr f:Int)+1) 1)])
    (fun i j=>[("i",ii (iv (fr f) i)),("j",ii (iv (fr f) j)),("far",ii (fr f)),("step",ii (stp (fr f))),("size",ii (siz (fr f))),("rest",ii (rst f)),("wide",ii W),("high",ii H),("reach",.rng (-(fr f:Int)) ((fr f:Int)+1) 1)]) z0 ⋯
    (i_val (v:= .rng (-(fr f:Int)) ((fr f:Int)+1) 1) ⋯ ⋯ it_rch) rfl (fun _=>rfl) ⋯ (Nat.le_trans hl (by decide)) (fun _ _=>Nat.le_trans hl (by decide)) (Nat.le_trans (fm_len2 (m:=7) (fun _=>hl) _) (Nat.le_trans (Nat.mul_le_mul_left 7 hl) (by decide))) ⋯ (fun _ _ _=>⋯) (fun _ _=>⋯) (fun _ _ _=>i_val (v:= .rng (-(fr f:Int)) ((fr f:Int)+1) 1) ⋯ ⋯ it_rch) (fun _ _ _ _ _=>⋯) (fun _ _ _=>⋯) (fun i j σ _ _=>(show evAnd (Mine.tst G (n+156) ⟨(gnE (sE BW 19 0)).2,[]⟩) ((kids (sE BW 19 0)).drop 5) _=evAnd (Mine.tst G (n+156) ⟨(gnE (sE BW 19 0)).2,[]⟩) [kd (sE BW 19 0) 5] _ from ⋯).trans (a_1 ?_)) (fun i j σ _ _ _=>x_list (vs:=[ii ((W:Int) - iv (fr f) i),ii ((H:Int) - iv (fr f) j)]) ⋯ ⋯ ⋯ ⋯) (fun _ _ _ _=>⋯)).trans rfl
  exact t_and ⋯ (t_cmp .LtE (a:=ii ((iv (fr f) i+iv (fr f) j).natAbs:Nat)) (b:=ii (fr f)) ⋯ (x_bui .abs (vs:=[ii (iv (fr f) i+iv (fr f) j)]) ⋯ ⋯ ⋯) ⋯ ⋯) fun _=>
    t_cmp .Eq (a:=ii (md ((W:Int) - iv (fr f) i+stp (fr f) * ((H:Int) - iv (fr f) j)) (siz (fr f)))) (b:=ii (rst f)) ⋯ (x_bo .Mod (a:=ii ((W:Int) - iv (fr f) i+stp (fr f) * ((H:Int) - iv (fr f) j))) (b:=ii (siz (fr f))) ⋯ (x_bo .Add (a:=ii ((W:Int) - iv (fr f) i)) (b:=ii (stp (fr f) * ((H:Int) - iv (fr f) j))) ⋯ (x_bo .Sub (a:=ii W) (b:=ii (iv (fr f) i)) ⋯ ⋯ ⋯ ⋯) (x_bo .Mult (a:=ii (stp (fr f))) (b:=ii ((H:Int) - iv (fr f) j)) ⋯ ⋯ (x_bo .Sub (a:=ii H) (b:=ii (iv (fr f) j)) ⋯ ⋯ ⋯ ⋯) (mulV (by rw[i64n (x:=stp (fr f)) (by unfold stp;omega)];rfl))) ⋯) ⋯ (modV (siz_pos _))) ⋯ (eq_nat _ _)
end
end L1
end
section
open PySem PySem.W Mine V02
namespace L1
noncomputable def W22 (ns:List Int) (f:Int) (t m:List Nat) (W H:Nat) (a:Nat×Nat) (i:Nat):List (Str×V):=("due",.hl i)::W20 ns f t m W H a
section
variable {n W H:Nat} {ns:List Int} {f:Int} {P:Fl×St→Prop} {o t':Objs} {c0 c1:Cell} {t m:List Nat} {σ:Str→Option V} {a:Nat×Nat}
theorem wd_le (X:BkOK (bkN f W H)) {c:Nat×Nat} (hc:c∈plN (bkN f W H)):(wdN (pL f) (qL f) c).length≤1000:=up_len (b:=bkN f W H) (LL_of f) X hc false false
theorem x_lev {N:Nat} {Nm:List Str} {L:List (Str×V)} {e:Expr} {C:Cx} {x y:List Nat} {k:Int} (h0:ev G (N+35) C e (S Nm L σ (o++t'))=evFn (fs G (N+34)) C "_levenshtein_distance" (kids e).tail (S Nm L σ (o++t'))) (h:evs (ev G (N+34) C) (kids e).tail (S Nm L σ (o++t'))=some ([tx x,tx y,ii k],S Nm L σ (o++t'))) (hx:x.length≤1000) (hy:y.length≤1000):Hd (ev G (N+35) C e (S Nm L σ (o++t'))) fun r=>r.1=ii (levV x y k)∧∃t2,r.2=S Nm L σ (o++t2):=
  x_fnH "_levenshtein_distance" h0 h ((lev_spec (n:=N) (o:=o++t') (m:=k) hx hy).get fun r hr ⟨e,j,ej⟩=> .of hr ⟨e,t'++j,by rw[ej,List.append_assoc];rfl⟩)
theorem u20 (x:TX f t m W H) (h:∀t',Hd (exs (ex G (n+158+2) CW) (BW.drop (20+1)) (S NW (W20 ns f t m W H a) z0 (o++t'))) P):Hd (exs (ex G (n+158+2) CW) (BW.drop 20) (S NW (W19 ns f t m W H a) z0 o)) P:=by
  have X:=x.bk
  refine AH (as_h ⋯ _) ?_
  refine(x_mtO (n:=n+156) (N:=[".0","name","far","word"]) (.vals (smL (bkN f W H))) (plN (bkN f W H)) (fun c=>txtD (wdN (pL f) (qL f) c)) (fun c=> .int (tlN f m c)) [("far",ii (fr f)),("word",tx m)] (fun c=>[("name",tx (wdN (pL f) (qL f) c)),("far",ii (fr f)),("word",tx m)]) z0 ⋯ (i_val (v:= .d (.list (smL (bkN f W H)))) ⋯ ⋯ ⋯) rfl (fun _ _=>rfl) ⋯ (decide_eq_true (Nat.le_trans (plN_len X) (by decide))) ⋯ (fun _ _ _ _=>⋯) (fun _ _ _=>⋯) ⋯ (fun c σ t' hc=>?_)).get fun r hr ⟨e1,t',e2⟩=> .of hr ?_
  · exact(x_lev (N:=n+122) ⋯ (evs_c ⋯ (evs_c ⋯ (evs1 (x_bo .Mult (a:=ii (2:Nat)) (b:=ii (fr f)) ⋯ ⋯ ⋯ (mulN (by decide)))))) (Nat.le_trans x.ml (by decide)) (wd_le X hc)).get fun r hr ⟨e,t2,e2⟩=> .of hr ⟨by rw[e];rfl,t2,e2⟩
  · rw[e1,e2]
    exact .of (a:=S NW (W20 ns f t m W H a) z0 (o++t')) ⋯ (h t')
theorem pl_lay (c:Nat×Nat):Lay 1 (plD c):=lay_l (lay_c (lay_i _) (lay_c (lay_i _) lay_n))
theorem u21 (x:TX f t m W H) (hT:(plN (bkN f W H)).filter (fun c=>decide (tlN f m c≤(2 * fr f:Nat)))=[a]) (h:Hd (exs (ex G (n+158+2) CW) (BW.drop (21+1)) (S NW (W20 ns f t m W H a) z0 o)) P):Hd (exs (ex G (n+158+2) CW) (BW.drop 21) (S NW (W20 ns f t m W H a) z0 o)) P:=by
  have X:=x.bk
  refine IR false ⋯ (t_cmp .NotEq (a:= .fl [plD a]) (b:= .fl [plD a]) ⋯ ((x_fit (n:=n+155) (N:=[".0","place","number","far"]) (.zip ((plN (bkN f W H)).map fun c=> .tuple [plD c,.int (tlN f m c)])) (plN (bkN f W H)) (fun c=> .tuple [plD c,.int (tlN f m c)]) (fun c=>decide (tlN f m c≤(2 * fr f:Nat))) (fun c=> .d (plD c)) plD [("far",ii (fr f))] (fun c=>[("place",.d (plD c)),("number",ii (tlN f m c)),("far",ii (fr f))]) z0 (comp_h ⋯) (i_zip (.list ((plN (bkN f W H)).map plD)) (.list ((plN (bkN f W H)).map fun c=> .int (tlN f m c))) ((plN (bkN f W H)).map plD) ((plN (bkN f W H)).map fun c=> .int (tlN f m c)) ⋯ ⋯ rfl rfl (zip_map _)) ⋯ (fun _=>rfl) ⋯ (decide_eq_true (Nat.le_trans (plN_len X) (by decide))) ⋯ (fun _ _ _=>⋯) (fun _ _=>⋯) (fun c σ _=>a_1 (t_cmp .LtE (a:=ii (tlN f m c)) (b:=ii (2 * fr f:Nat)) ⋯ ⋯ (x_bo .Mult (a:=ii (2:Nat)) (b:=ii (fr f)) ⋯ ⋯ ⋯ (mulN (by decide))) ⋯)) (fun _ _ _ _=>⋯) (fun _ _=>rfl)).trans (by rw[hT];rfl))
    (x_slice (w:= .d (.list [plD a])) (lo:=none) (hi:=some (kd (kd (kd (sE BW 21 0) 1) 1) 0)) (sp:=none) (l:=none) (h:=some (ii (1:Nat))) (s:=none) ⋯ ⋯ ⋯ (part_s ⋯) ⋯ (slV rfl rfl rfl rfl (by show 1≤1000;decide) (slT 1))) (ne_same rfl rfl rfl (lay_l (lay_c (pl_lay a) lay_n)) rfl)) ft fun _=>h
theorem u22 (h:Hd (exs (ex G (n+158+2) CW) (BW.drop (22+1)) (S NW (W22 ns f t m W H a o.length) z0 (o++[.list []]))) P):Hd (exs (ex G (n+158+2) CW) (BW.drop 22) (S NW (W20 ns f t m W H a) z0 o)) P:=
  A (.fl []) (st1:=S NW (W20 ns f t m W H a) z0 o) (S NW (W22 ns f t m W H a o.length) z0 (o++[.list []])) (as_h ⋯ _) ⋯ ⋯ h
end
end L1
end
section
open PySem PySem.W Mine V02
namespace L1
noncomputable def dxI (W:Nat) (x:Nat):Int:=(x:Int) - W
noncomputable def hxI (W H:Nat) (c:Nat×Nat):Int:=2 * max3 (dxI W c.1).natAbs (dxI H c.2).natAbs (dxI W c.1+dxI H c.2).natAbs
noncomputable def duL (f:Int) (W H j:Nat):List PyData:=((plN (bkN f W H)).take j).map fun c=> .int (hxI W H c)
noncomputable def B23:List Stmt:=sB BW 23
noncomputable def V1 (ns:List Int) (f:Int) (t m:List Nat) (W H:Nat) (a:Nat×Nat) (i j:Nat):List (Str×V):=("k",ii j)::W22 ns f t m W H a i
noncomputable def V2 (ns:List Int) (f:Int) (t m:List Nat) (W H:Nat) (a:Nat×Nat) (i j:Nat) (c:Nat×Nat):List (Str×V):=("gaps",.d (.list [.int (dxI W c.1),.int (dxI H c.2)]))::V1 ns f t m W H a i j
noncomputable def V3 (ns:List Int) (f:Int) (t m:List Nat) (W H:Nat) (a:Nat×Nat) (i j:Nat) (c:Nat×Nat):List (Str×V):=("back",ii (hxI W H c))::V2 ns f t m W H a i j c
section
variable {n W H j:Nat} {ns:List Int} {f:Int} {P:Fl×St→Prop} {o t':Objs} {c0 c1:Cell} {t m:List Nat} {σ:Str→Option V} {a c:Nat×Nat}
theorem pl_at (h:j<(plN (bkN f W H)).length):((plN (bkN f W H)).map plD)[j]?=some (plD (pc (bkN f W H) j)):=gDa h
theorem du_succ (h:j<(plN (bkN f W H)).length):duL f W H (j+1)=duL f W H j++[.int (hxI W H (pc (bkN f W H) j))]:=by
  unfold duL;rw[take_pc h,List.map_append];rfl
theorem du_len (h:j≤(plN (bkN f W H)).length):(duL f W H j).length=j:=by unfold duL;rw[List.length_map,List.length_take_of_le h]
theorem du_at (h:j<(plN (bkN f W H)).length):(duL f W H (j+1))[j]?=some (.int (hxI W H (pc (bkN f W H) j))):=by
  have e:=du_len (f:=f) (W:=W) (H:=H) (Nat.le_of_lt h)
  rw[du_succ h,List.getElem?_append_right (Nat.le_of_eq e),e,Nat.sub_self];rfl
theorem at_mid {xs:List PyData}:listAt (o++[.list xs]++t') o.length=some xs:=listAt_app at_end
theorem set_mid {N:List Str} {L:List (Str×V)} {c:Cell} {ys:List PyData}:setCell o.length (.list ys) (S N L σ (o++[c]++t'))=S N L σ (o++[.list ys]++t'):=by
  refine congrArg (S N L σ) (show(o++[c]++t').set o.length (.list ys)=_ from ?_)
  rw[List.set_append_left _ _ (by rw[List.length_append];exact Nat.lt_succ_self _),set_end]
theorem ix_any {k:Nat} (h:k<(plN (bkN f W H)).length) (X:BkOK (bkN f W H)) {l:List PyData} (e:l.length=(plN (bkN f W H)).length):idx? (k:Int) l.length=some k:=by
  rw[e];exact idx_nat h (Nat.le_trans (plN_len X) (by decide))
theorem b23_0 (X:BkOK (bkN f W H)) (hj:j<(plN (bkN f W H)).length) {i:Nat} (h:Hd (exs (ex G (n+157+2) CW) (B23.drop (0+1)) (S NW (V2 ns f t m W H a i j (pc (bkN f W H) j)) σ o)) P):Hd (exs (ex G (n+157+2) CW) (B23.drop 0) (S NW (V1 ns f t m W H a i j) σ o)) P:=by
  have hp {N:Nat} {e:Expr} (h0:ev G (N+1) CW e (S NW (V1 ns f t m W H a i j) σ o)=evItem (fs G N) CW (kd e 0) (kd e 1) (S NW (V1 ns f t m W H a i j) σ o)) (h1:ev G N CW (kd e 0) (S NW (V1 ns f t m W H a i j) σ o)=some (.d (.list ((plN (bkN f W H)).map plD)),S NW (V1 ns f t m W H a i j) σ o)) (h2:ev G N CW (kd e 1) (S NW (V1 ns f t m W H a i j) σ o)=some (ii j,S NW (V1 ns f t m W H a i j) σ o)):ev G (N+1) CW e (S NW (V1 ns f t m W H a i j) σ o)=some (.d (plD (pc (bkN f W H) j)),S NW (V1 ns f t m W H a i j) σ o):=
    x_item (j:=j) h0 h1 h2 (itL (ix_any hj X (List.length_map ..)) (pl_at hj))
  exact A (.fl [.int (dxI W (pc (bkN f W H) j).1),.int (dxI H (pc (bkN f W H) j).2)]) (st1:=S NW (V1 ns f t m W H a i j) σ o) (S NW (V2 ns f t m W H a i j (pc (bkN f W H) j)) σ o) (as_h ⋯ _) (x_list (vs:=[ii (dxI W (pc (bkN f W H) j).1),ii (dxI H (pc (bkN f W H) j).2)]) ⋯
    (evs_c (x_bo .Sub (a:=ii (pc (bkN f W H) j).1) (b:=ii W) ⋯ (x_item (w:= .d (plD (pc (bkN f W H) j))) (j:=(0:Nat)) ⋯ (hp ⋯ ⋯ ⋯) ⋯ ⋯) ⋯ ⋯) (evs1 (x_bo .Sub (a:=ii (pc (bkN f W H) j).2) (b:=ii H) ⋯ (x_item (w:= .d (plD (pc (bkN f W H) j))) (j:=(1:Nat)) ⋯ (hp ⋯ ⋯ ⋯) ⋯ ⋯) ⋯ ⋯))) ⋯ ⋯) ⋯ h
theorem b23_1 (X:BkOK (bkN f W H)) (hj:j<(plN (bkN f W H)).length) (h:Hd (exs (ex G (n+157+2) CW) (B23.drop (1+1)) (S NW (V2 ns f t m W H a o.length j (pc (bkN f W H) j)) σ (o++[.list (duL f W H (j+1))]++t'))) P):Hd (exs (ex G (n+157+2) CW) (B23.drop 1) (S NW (V2 ns f t m W H a o.length j (pc (bkN f W H) j)) σ (o++[.list (duL f W H j)]++t'))) P:=by
  refine AP (i:=o.length) (xs:=duL f W H j) (v:=ii (hxI W H (pc (bkN f W H) j))) (x:= .int (hxI W H (pc (bkN f W H) j))) ⋯ at_mid (x_bo .Mult (a:=ii (2:Nat)) (b:=ii (max3 (dxI W (pc (bkN f W H) j).1).natAbs (dxI H (pc (bkN f W H) j).2).natAbs (dxI W (pc (bkN f W H) j).1+dxI H (pc (bkN f W H) j).2).natAbs)) ⋯ ⋯
    (x_bui .max (vs:=[ii (dxI W (pc (bkN f W H) j).1).natAbs,ii (dxI H (pc (bkN f W H) j).2).natAbs,ii (dxI W (pc (bkN f W H) j).1+dxI H (pc (bkN f W H) j).2).natAbs]) ⋯ ⋯ ⋯) (mulV rfl)) ⋯ (lt_max ?_) ?_
  · rw[du_len (Nat.le_of_lt hj)];exact Nat.lt_of_lt_of_le hj (Nat.le_trans (plN_len X) (by decide))
  · rw[set_mid,←du_succ hj];exact h
theorem ne_int {o:Objs} (i:Int):cmpop o .NotEq (ii i) (ii i)=some false:=by
  show(gd (okD (.int i)&&okD (.int i)) (some (PyData.eqv (.int i) (.int i)))).map not=_
  rw[gd_t ⋯,eqv_int,beq_self_eq_true];rfl
theorem b23_2 (x:TX f t m W H) (hj:j<(plN (bkN f W H)).length) (hD:levV (wdN (pL f) (qL f) (pc (bkN f W H) j)) m (hxI W H (pc (bkN f W H) j))=hxI W H (pc (bkN f W H) j)) (h:∀t',Hd (exs (ex G (n+157+2) CW) (B23.drop (2+1)) (S NW (V3 ns f t m W H a o.length j (pc (bkN f W H) j)) σ (o++[.list (duL f W H (j+1))]++t'))) P):Hd (exs (ex G (n+157+2) CW) (B23.drop 2) (S NW (V2 ns f t m W H a o.length j (pc (bkN f W H) j)) σ (o++[.list (duL f W H (j+1))]++t'))) P:=by
  have X:=x.bk
  refine AH (as_h ⋯ _) ?_
  refine(x_lev (N:=n+123) (o:=o++[.list (duL f W H (j+1))]) (x:=wdN (pL f) (qL f) (pc (bkN f W H) j)) (y:=m) (k:=hxI W H (pc (bkN f W H) j)) ⋯ (evs_c (x_item (w:= .d (.list (smL (bkN f W H)))) (j:=j) ⋯ ⋯ ⋯ (itL (ix_any hj X (List.length_map ..)) (gDa hj))) (evs_c ⋯ (evs1 (x_item (w:= .hl o.length) (j:=j) ⋯ ⋯ ⋯ (it_hl at_mid (du_at hj) (by rw[du_len hj];exact Nat.le_trans hj (Nat.le_trans (plN_len X) (by decide)))))))) (wd_le X (pc_mem hj)) (Nat.le_trans x.ml (by decide))).get fun r hr ⟨e,t2,e2⟩=> .of hr ?_
  rw[e,e2,hD]
  exact .of (a:=S NW (V3 ns f t m W H a o.length j (pc (bkN f W H) j)) σ (o++[.list (duL f W H (j+1))]++t2)) ⋯ (h t2)
theorem b23_3 (X:BkOK (bkN f W H)) (hj:j<(plN (bkN f W H)).length) (hC:tlN f m (pc (bkN f W H) j)≤(2 * fr f:Nat)→tlN f m (pc (bkN f W H) j)=hxI W H (pc (bkN f W H) j)) (h:Hd (exs (ex G (n+157+2) CW) (B23.drop (3+1)) (S NW (V3 ns f t m W H a o.length j (pc (bkN f W H) j)) σ (o++[.list (duL f W H (j+1))]++t'))) P):Hd (exs (ex G (n+157+2) CW) (B23.drop 3) (S NW (V3 ns f t m W H a o.length j (pc (bkN f W H) j)) σ (o++[.list (duL f W H (j+1))]++t'))) P:=by
  generalize hst:S NW (V3 ns f t m W H a o.length j (pc (bkN f W H) j)) σ (o++[.list (duL f W H (j+1))]++t')=st at h ⊢
  have hlen:(duL f W H (j+1)).length≤1000:=by rw[du_len hj];exact Nat.le_trans hj (Nat.le_trans (plN_len X) (by decide))
  have ht {N:Nat} {e:Expr} (h0:ev G (N+1) CW e st=evItem (fs G N) CW (kd e 0) (kd e 1) st) (h1:ev G N CW (kd e 0) st=some (.d (.list ((plN (bkN f W H)).map fun c=> .int (tlN f m c))),st)) (h2:ev G N CW (kd e 1) st=some (ii j,st)):ev G (N+1) CW e st=some (ii (tlN f m (pc (bkN f W H) j)),st):=x_item (j:=j) h0 h1 h2 (itL (ix_any hj X (List.length_map ..)) (gDa hj))
  have hd {N:Nat} {e:Expr} (h0:ev G (N+1) CW e st=evItem (fs G N) CW (kd e 0) (kd e 1) st) (h1:ev G N CW (kd e 0) st=some (.hl o.length,st)) (h2:ev G N CW (kd e 1) st=some (ii j,st)):ev G (N+1) CW e st=some (ii (hxI W H (pc (bkN f W H) j)),st):=x_item (w:= .hl o.length) (j:=j) h0 h1 h2 (it_hl (hst ▸ at_mid) (du_at hj) hlen)
  refine IR (false||(false||(false||(decide (tlN f m (pc (bkN f W H) j)≤(2 * fr f:Nat))&&false)))) ⋯ ((show Mine.tst G (n+158) CW (sE B23 3 0) st=evOr (Mine.tst G (n+157) CW) [kd (sE B23 3 0) 0,kd (sE B23 3 0) 1,kd (sE B23 3 0) 2,kd (sE B23 3 0) 3] st from ⋯).trans
    (o_c (t_val (v:= .d (.bool false)) ⋯ (x_bui .isinstance (vs:=[ii (tlN f m (pc (bkN f W H) j)),.ty "bool"]) ⋯ (evs_c (ht ⋯ (by subst hst;exact ⋯) (by subst hst;exact ⋯)) (evs1 (by subst hst;exact ⋯))) ⋯) ⋯) fun _=>o_c (t_val (v:= .d (.bool false)) ⋯ (x_bui .isinstance (vs:=[ii (hxI W H (pc (bkN f W H) j)),.ty "bool"]) ⋯ (by subst hst;exact ⋯) ⋯) ⋯) fun _=>
      o_c (t_cmp .NotEq (a:=ii (hxI W H (pc (bkN f W H) j))) (b:=ii (hxI W H (pc (bkN f W H) j))) ⋯ (by subst hst;exact ⋯) (hd ⋯ (by subst hst;exact ⋯) (by subst hst;exact ⋯)) (ne_int _)) fun _=>o_1 (t_and ⋯ (t_cmp .LtE (a:=ii (tlN f m (pc (bkN f W H) j))) (b:=ii (2 * fr f:Nat)) ⋯ (ht ⋯ (by subst hst;exact ⋯) (by subst hst;exact ⋯)) (x_bo .Mult (a:=ii (2:Nat)) (b:=ii (fr f)) ⋯ ⋯ (by subst hst;exact ⋯) (mulN (by decide))) ⋯) fun q=>
        t_cmp .NotEq (a:=ii (tlN f m (pc (bkN f W H) j))) (b:=ii (hxI W H (pc (bkN f W H) j))) ⋯ (ht ⋯ (by subst hst;exact ⋯) (by subst hst;exact ⋯)) (hd ⋯ (by subst hst;exact ⋯) (by subst hst;exact ⋯)) (by rw[hC (of_decide_eq_true q)];exact ne_int _)))) (fun q=>absurd q (by rw[Bool.and_false];decide)) fun _=>h
theorem u23 (x:TX f t m W H) (hC:∀c∈plN (bkN f W H),tlN f m c≤(2 * fr f:Nat)→tlN f m c=hxI W H c) (hD:∀c∈plN (bkN f W H),levV (wdN (pL f) (qL f) c) m (hxI W H c)=hxI W H c) (h:∀σ t',Hd (exs (ex G (n+158+2) CW) (BW.drop (23+1)) (S NW (W22 ns f t m W H a o.length) σ (o++[.list ((plN (bkN f W H)).map fun c=> .int (hxI W H c))]++t'))) P):Hd (exs (ex G (n+158+2) CW) (BW.drop 23) (S NW (W22 ns f t m W H a o.length) z0 (o++[.list []]))) P:=by
  have X:=x.bk
  have hn:(plN (bkN f W H)).length≤1000:=Nat.le_trans (plN_len X) (by decide)
  have el:(spL (bkN f W H)).length=(plN (bkN f W H)).length:=List.length_map ..
  refine FE (N:=NW) (.vals ((List.range (plN (bkN f W H)).length).map elI)) (plN (bkN f W H)).length elI (fun _=>W22 ns f t m W H a o.length) (fun j=>V1 ns f t m W H a o.length j) (fun j=>o++[.list (duL f W H j)]) (for_h ⋯) ⋯ (fun _ _=>rfl)
    (i_val (v:= .rng 0 (plN (bkN f W H)).length 1) (it_pl ⋯) (x_bui .range (vs:=[ii (plN (bkN f W H)).length]) ⋯ (evs1 (x_bui .len ⋯ (evs1 (v:= .d (.list (spL (bkN f W H)))) ⋯) ((len_fl (el ▸ hn)).trans (by rw[el])))) ⋯) (it_rng hn)) (maxL hn) (σ:=z0) (t0:=[]) (by rw[List.append_nil];rfl) (fun _ _ _ _=>⋯) (fun j σ t' hj=>?_) (fun σ t'=>?_)
  · refine b23_0 X hj (b23_1 X hj (b23_2 x hj (hD _ (pc_mem hj)) fun t'=>b23_3 X hj (hC _ (pc_mem hj)) ?_))
    exact .of (a:=(.next,S NW (V3 ns f t m W H a o.length j (pc (bkN f W H) j)) σ (o++[.list (duL f W H (j+1))]++t'))) ⋯ ⟨rfl,ovs (V3 ns f t m W H a o.length j (pc (bkN f W H) j)) σ,t',rfl⟩
  · have e:duL f W H (plN (bkN f W H)).length=(plN (bkN f W H)).map fun c=> .int (hxI W H c):=by unfold duL;rw[List.take_length]
    rw[e];exact h σ t'
end
end L1
end
section
open PySem PySem.W Mine V02
namespace Mine
variable {G:Env'} {n:Nat} {C:Cx} {v a b:V} {st:St} {e:Expr}
theorem x_idx {xs:List PyData} {y:PyData} {i:Nat} (h0:ev G (n+1) C e st=evMeth (fs G n) C (.d (.list xs)) "index" [kd e 1] [] st) (h:ev G n C (kd e 1) st=some (.d y,st)) (hl:xs.length≤1000) (hi:idxL y xs=some i):ev G (n+1) C e st=some (.d (.int (i:Int)),st):=by
  rw[h0];show gd true ((evs (ev G n C) [kd e 1] st).bind _)=_
  rw[evs1 h];show gd (decide (xs.length≤maxLen)) ((idxL y xs).map fun(i:Nat)=>(V.d (.int (i:Int)),st))=_
  rw[gd_t (L1.maxL hl),hi];rfl
end Mine
namespace L1
noncomputable def grI (W H:Nat) (a:Nat×Nat):Int:=bif jA a==0 then bif decide ((W:Int)<a.1)then(W:Int)else a.1 else bif decide ((H:Int)<a.2)then(H:Int)else a.2
noncomputable def W24 (ns:List Int) (f:Int) (t m:List Nat) (W H:Nat) (a:Nat×Nat) (i k:Nat):List (Str×V):=("at",ii k)::W22 ns f t m W H a i
noncomputable def W25 (ns:List Int) (f:Int) (t m:List Nat) (W H:Nat) (a:Nat×Nat) (i k:Nat):List (Str×V):=("great",ii (grI W H a))::W24 ns f t m W H a i k
noncomputable abbrev Row:=List Nat×List Nat×Int
noncomputable def rowD (r:Row):PyData:= .list [txtD r.1,txtD r.2.1,.int r.2.2]
noncomputable def swN (f:Int) (W:Nat) (m:List Nat):List Nat:=m.take (W - 1)++[qL f]++[pL f]++m.drop (W+1)
noncomputable def qpN (f:Int) (k:Nat):List Nat:=[qL f]++List.replicate k (pL f)
noncomputable def qqN (f:Int):List Nat:=[qL f]++[qL f]++[pL f]
noncomputable def js1 (f:Int) (m:List Nat) (W H:Nat) (a:Nat×Nat):List Row:=[(spN (pL f) (qL f) a,m,hxI W H a+grI W H a),(m,swN f W m,4),(endN f,mrk f,4)]
noncomputable def js2 (f:Int):List Row:=[((endN f).drop 1,(endN f).take ((endN f).length - 1),4),(qpN f 41,qqN f,80),([64261],[64262],2)]
noncomputable def abv (f:Int) (m:List Nat) (W H:Nat) (a:Nat×Nat):List Row:=[(m,wdN (pL f) (qL f) a,hxI W H a - 1),(endN f,mrk f,3),(qpN f 42,qqN f,82),(qqN f,qpN f 42,82)]
noncomputable def W26 (ns:List Int) (f:Int) (t m:List Nat) (W H:Nat) (a:Nat×Nat) (i k:Nat):List (Str×V):=("just",.d (.list ((js1 f m W H a).map rowD)))::W25 ns f t m W H a i k
noncomputable def W27 (ns:List Int) (f:Int) (t m:List Nat) (W H:Nat) (a:Nat×Nat) (i k:Nat):List (Str×V):=("just",.d (.list ((js1 f m W H a++js2 f).map rowD)))::W25 ns f t m W H a i k
noncomputable def W28 (ns:List Int) (f:Int) (t m:List Nat) (W H:Nat) (a:Nat×Nat) (i k:Nat):List (Str×V):=("above",.d (.list ((abv f m W H a).map rowD)))::W27 ns f t m W H a i k
noncomputable def lvD (r:Row):PyData:= .int (levV r.1 r.2.1 r.2.2)
noncomputable def W29 (ns:List Int) (f:Int) (t m:List Nat) (W H:Nat) (a:Nat×Nat) (i k:Nat):List (Str×V):=("asked",.d (.list ((js1 f m W H a++js2 f++abv f m W H a).map lvD)))::W28 ns f t m W H a i k
section
variable {n W H i k:Nat} {ns:List Int} {f:Int} {P:Fl×St→Prop} {o t':Objs} {t m:List Nat} {σ:Str→Option V} {a c:Nat×Nat}
theorem pl_eqv (c a:Nat×Nat):PyData.eqv (plD c) (plD a)=(((c.1:Int)==a.1)&&(((c.2:Int)==a.2)&&true)):=⋯
theorem okDs_pl (l:List (Nat×Nat)):okDs (l.map plD)=true:=List.all_eq_true.mpr fun x hx=>by
  obtain⟨c,_,rfl⟩:=List.mem_map.mp hx
  exact(pl_lay c).ok (by decide)
theorem idx_ex {l:List (Nat×Nat)} (h:a∈l):∃k,k<l.length∧l.getD k (0,0)=a∧idxL (plD a) (l.map plD)=some k:=by
  have hs:((l.map plD).findIdx? fun y=>PyData.eqv y (plD a)).isSome=true:=by
    rw[List.findIdx?_isSome]
    exact List.any_eq_true.mpr ⟨plD a,List.mem_map.mpr ⟨a,h,rfl⟩,SeqAt.eqv_refl _ (pl_lay a).1⟩
  obtain⟨k,hk⟩:=Option.isSome_iff_exists.mp hs
  obtain⟨h1,h2,_⟩:=List.findIdx?_eq_some_iff_getElem.mp hk
  rw[List.length_map]at h1
  refine⟨k,h1,?_,?_⟩
  · rw[List.getElem_map,pl_eqv]at h2
    obtain⟨g1,g2⟩:=bA h2
    rw[List.getD_eq_getElem?_getD,List.getElem?_eq_getElem h1]
    exact Prod.ext (Int.ofNat.inj (eq_of_beq g1)) (Int.ofNat.inj (eq_of_beq (bA g2).1))
  · unfold idxL
    rw[okDs_pl,(pl_lay a).ok (by decide),hk];rfl
structure EN (f:Int) (t m:List Nat) (W H:Nat) (a:Nat×Nat) (o:Objs) (i k:Nat):Prop where
  x:TX f t m W H
  h:HA o 3 2 ((plN (bkN f W H)).map (newE (pL f) (qL f)))
  d:listAt o i=some ((plN (bkN f W H)).map fun c=> .int (hxI W H c))
  l:k<(plN (bkN f W H)).length
  e:pc (bkN f W H) k=a
  j:idxL (plD a) ((plN (bkN f W H)).map plD)=some k
theorem EN.app (E:EN f t m W H a o i k):EN f t m W H a (o++t') i k:=⟨E.x,E.h.app,listAt_app E.d,E.l,E.e,E.j⟩
theorem EN.le (E:EN f t m W H a o i k):(plN (bkN f W H)).length≤441:=plN_len E.x.bk
theorem EN.it (E:EN f t m W H a o i k) {g:Nat×Nat→PyData}:itemV o (.d (.list ((plN (bkN f W H)).map g))) (k:Int)=some (.d (g a)):=itL (ix_any E.l E.x.bk (List.length_map ..)) ((gDa (d:=(0,0)) E.l).trans (congrArg (fun c=>some (g c)) E.e))
theorem EN.du (E:EN f t m W H a o i k):itemV o (.hl i) (k:Int)=some (ii (hxI W H a)):=it_hl E.d ((gDa (d:=(0,0)) (f:=fun c=>PyData.int (hxI W H c)) E.l).trans (congrArg (fun c=>some (PyData.int (hxI W H c))) E.e)) (by rw[List.length_map];exact Nat.le_trans E.le (by decide))
theorem u24 (E:EN f t m W H a o i k) (h:Hd (exs (ex G (n+158+2) CW) (BW.drop (24+1)) (S NW (W24 ns f t m W H a i k) σ o)) P):Hd (exs (ex G (n+158+2) CW) (BW.drop 24) (S NW (W22 ns f t m W H a i) σ o)) P:=
  A (ii k) (st1:=S NW (W22 ns f t m W H a i) σ o) (S NW (W24 ns f t m W H a i k) σ o) (as_h ⋯ _) (x_idx (xs:=(plN (bkN f W H)).map plD) (y:=plD a) ⋯ ⋯ (by rw[List.length_map];exact Nat.le_trans E.le (by decide)) E.j) ⋯ h
theorem u25 (E:EN f t m W H a o i k) (h:Hd (exs (ex G (n+158+2) CW) (BW.drop (25+1)) (S NW (W25 ns f t m W H a i k) σ o)) P):Hd (exs (ex G (n+158+2) CW) (BW.drop 25) (S NW (W24 ns f t m W H a i k) σ o)) P:=by
  have hp {N:Nat} {e:Expr} (h0:ev G (N+1) CW e (S NW (W24 ns f t m W H a i k) σ o)=evItem (fs G N) CW (kd e 0) (kd e 1) (S NW (W24 ns f t m W H a i k) σ o)) (h1:ev G N CW (kd e 0) (S NW (W24 ns f t m W H a i k) σ o)=some (.d (.list ((plN (bkN f W H)).map plD)),S NW (W24 ns f t m W H a i k) σ o)) (h2:ev G N CW (kd e 1) (S NW (W24 ns f t m W H a i k) σ o)=some (ii k,S NW (W24 ns f t m W H a i k) σ o)):ev G (N+1) CW e (S NW (W24 ns f t m W H a i k) σ o)=some (.d (plD a),S NW (W24 ns f t m W H a i k) σ o):=
    x_item (j:=k) h0 h1 h2 E.it
  refine A (ii (grI W H a)) (st1:=S NW (W24 ns f t m W H a i k) σ o) (S NW (W25 ns f t m W H a i k) σ o) (as_h ⋯ _) (x_ife (jA a==0) ⋯ (t_cmp .Eq (a:=ii (jA a)) (b:=ii (0:Nat)) ⋯ (b8_i (c:=a) ⋯ ⋯ (evs1 (hp ⋯ ⋯ ⋯)) ⋯) ⋯ (eq_nat _ _)) (fun q=>?_) fun q=>?_) ⋯ h
  · unfold grI;rw[q]
    exact x_bui .min (vs:=[ii a.1,ii W]) ⋯ (evs_c (x_item (w:= .d (plD a)) (j:=(0:Nat)) ⋯ (hp ⋯ ⋯ ⋯) ⋯ ⋯) (evs1 ⋯)) ⋯
  · unfold grI;rw[q]
    exact x_bui .min (vs:=[ii a.2,ii H]) ⋯ (evs_c (x_item (w:= .d (plD a)) (j:=(1:Nat)) ⋯ (hp ⋯ ⋯ ⋯) ⋯ ⋯) (evs1 ⋯)) ⋯
end
end L1
end
section
open PySem PySem.W Mine V02
namespace L1
section
variable {n W H i k:Nat} {ns:List Int} {f:Int} {P:Fl×St→Prop} {o t':Objs} {t m:List Nat} {σ:Str→Option V} {a c:Nat×Nat}
theorem sw_len (x:TX f t m W H):(swN f W m).length≤60:=by
  have:=x.ml
  unfold swN
  rw[List.length_append,List.length_append,List.length_append]
  exact Nat.add_le_add (Nat.add_le_add (Nat.add_le_add (Nat.le_trans (List.length_take_le' ..) this) (Nat.le_refl 1)) (Nat.le_refl 1)) (Nat.le_trans (Nat.le_of_eq List.length_drop) (Nat.le_trans (Nat.sub_le ..) this)) |> fun h=>Nat.le_trans h (by decide)
theorem qp_len (f:Int) {k:Nat} (h:k≤42):(qpN f k).length≤43:=by
  unfold qpN;rw[List.length_append,List.length_replicate];exact Nat.le_trans (Nat.add_le_add (Nat.le_refl 1) h) (by decide)
theorem u26 (E:EN f t m W H a o i k) (h:Hd (exs (ex G (n+158+2) CW) (BW.drop (26+1)) (S NW (W26 ns f t m W H a i k) σ o)) P):Hd (exs (ex G (n+158+2) CW) (BW.drop 26) (S NW (W25 ns f t m W H a i k) σ o)) P:=by
  have hm:m.length≤1000:=Nat.le_trans E.x.ml (by decide)
  have ml:=E.x.ml
  have w1:=E.x.w1;have:=fr_le f
  have hd:(m.drop (W+1)).length≤19:=Nat.le_trans (Nat.le_of_eq List.length_drop) (Nat.le_trans (Nat.sub_le ..) ml)
  have ht:(m.take (W - 1)).length≤19:=Nat.le_trans (List.length_take_le' ..) ml
  exact A (.fl ((js1 f m W H a).map rowD)) (st1:=S NW (W25 ns f t m W H a i k) σ o) (S NW (W26 ns f t m W H a i k) σ o) (as_h ⋯ _) (x_list (vs:=[.fl [txtD (spN (pL f) (qL f) a),txtD m,.int (hxI W H a+grI W H a)],.fl [txtD m,txtD (swN f W m),.int 4],.fl [txtD (endN f),txtD (mrk f),.int 4]]) ⋯
    (evs_c (x_list (vs:=[tx (spN (pL f) (qL f) a),tx m,ii (hxI W H a+grI W H a)]) ⋯ (evs_c (x_item (w:= .d (.list (spL (bkN f W H)))) (j:=k) ⋯ ⋯ ⋯ E.it) (evs_c ⋯ (evs1 (x_bo .Add (a:=ii (hxI W H a)) (b:=ii (grI W H a)) ⋯ (x_item (w:= .hl i) (j:=k) ⋯ ⋯ ⋯ E.du) ⋯ ⋯)))) ⋯ ⋯)
      (evs_c (x_list (vs:=[tx m,tx (swN f W m),ii 4]) ⋯ (evs_c ⋯ (evs_c (x_bo .Add (a:=tx (m.take (W - 1)++[qL f]++[pL f])) (b:=tx (m.drop (W+1))) ⋯ (x_bo .Add (a:=tx (m.take (W - 1)++[qL f])) (b:=tx [pL f]) ⋯ (x_bo .Add (a:=tx (m.take (W - 1))) (b:=tx [qL f]) ⋯ (x_slice (w:=tx m) (lo:=none) (hi:=some (kd (kd (kd (kd (kd (kd (kd (sE BW 26 0) 1) 1) 0) 0) 0) 1) 0)) (sp:=none) (l:=none) (h:=some (ii (W - 1:Nat))) (s:=none) ⋯ ⋯ ⋯ (part_s (x_bo .Sub (a:=ii W) (b:=ii 1) ⋯ ⋯ ⋯ (congrArg (fun z=>some (ii z)) (show(W:Int) - 1=(W - 1:Nat) by omega)))) ⋯ (sl_pre hm)) ⋯ (addT (Nat.le_trans (Nat.add_le_add ht (Nat.le_refl 1)) (by decide)))) ⋯ (addT (by rw[List.length_append];exact Nat.le_trans (Nat.add_le_add (Nat.add_le_add ht (Nat.le_refl 1)) (Nat.le_refl 1)) (by decide))))
          (x_slice (w:=tx m) (lo:=some (kd (kd (kd (kd (kd (sE BW 26 0) 1) 1) 1) 1) 0)) (hi:=none) (sp:=none) (l:=some (ii (W+1:Nat))) (h:=none) (s:=none) ⋯ ⋯ (part_s (x_bo .Add (a:=ii W) (b:=ii 1) ⋯ ⋯ ⋯ ⋯)) ⋯ ⋯ (sl_from hm)) (addT (by rw[List.length_append,List.length_append];exact Nat.le_trans (Nat.add_le_add (Nat.add_le_add (Nat.add_le_add ht (Nat.le_refl 1)) (Nat.le_refl 1)) hd) (by decide)))) (evs1 ⋯))) ⋯ ⋯)
        (evs1 (x_list (vs:=[tx (endN f),tx (mrk f),ii 4]) ⋯ (evs_c ⋯ (evs_c (x_m1 ⋯ ⋯ ⋯) (evs1 ⋯))) ⋯ ⋯)))) ⋯ ⋯) ⋯ h
theorem x_qq {N:Nat} {L:List (Str×V)} {S1:St} {e:Expr} (hS:S1=S NW L σ o) (h0:ev G (N+2) CW e S1=evBin (fs G (N+1)) CW (kd e 0) .Add (kd e 1) S1) (h1:ev G (N+1) CW (kd e 0) S1=evBin (fs G N) CW (kd (kd e 0) 0) .Add (kd (kd e 0) 1) S1) (h2:ev G N CW (kd (kd e 0) 0) S1=some (tx [qL f],S1)) (h3:ev G N CW (kd (kd e 0) 1) S1=some (tx [qL f],S1)) (h4:ev G (N+1) CW (kd e 1) S1=some (tx [pL f],S1)):ev G (N+2) CW e S1=some (tx (qqN f),S1):=
  x_bo .Add (a:=tx ([qL f]++[qL f])) (b:=tx [pL f]) h0 (x_bo .Add (a:=tx [qL f]) (b:=tx [qL f]) h1 h2 h3 (addT (show 1+1≤1000000 by decide))) h4 (addT (show 2+1≤1000000 by decide))
theorem x_qp {N c:Nat} {L:List (Str×V)} {S1:St} {e:Expr} (hc:c≤42) (hS:S1=S NW L σ o) (h0:ev G (N+2) CW e S1=evBin (fs G (N+1)) CW (kd e 0) .Add (kd e 1) S1) (h1:ev G (N+1) CW (kd e 1) S1=evBin (fs G N) CW (kd (kd e 1) 0) .Mult (kd (kd e 1) 1) S1) (h2:ev G N CW (kd (kd e 1) 0) S1=some (tx [pL f],S1)) (h3:ev G N CW (kd (kd e 1) 1) S1=some (ii c,S1)) (h4:ev G (N+1) CW (kd e 0) S1=some (tx [qL f],S1)):ev G (N+2) CW e S1=some (tx (qpN f c),S1):=
  x_bo .Add (a:=tx [qL f]) (b:=tx (List.replicate c (pL f))) h0 h4 (x_bo .Mult (a:=tx [pL f]) (b:=ii c) h1 h2 h3 (mulT (Nat.le_trans hc (by decide)))) (addT (by rw[List.length_replicate];exact Nat.le_trans (Nat.add_le_add (Nat.le_refl 1) hc) (by decide)))
theorem addDF {o:Objs} {xs ys:List PyData} (h:xs.length+ys.length≤1000000):binop o .Add (.d (.list xs)) (.fl ys)=some (.fl (xs++ys)):=addL h
theorem u27 (h:Hd (exs (ex G (n+158+2) CW) (BW.drop (27+1)) (S NW (W27 ns f t m W H a i k) σ o)) P):Hd (exs (ex G (n+158+2) CW) (BW.drop 27) (S NW (W26 ns f t m W H a i k) σ o)) P:=by
  have he:=end_len f
  have hl:(endN f).length≤1000:=Nat.le_trans he (by decide)
  exact A (.fl ((js1 f m W H a++js2 f).map rowD)) (st1:=S NW (W26 ns f t m W H a i k) σ o) (S NW (W27 ns f t m W H a i k) σ o) (as_h ⋯ _) (x_bo .Add (a:= .d (.list ((js1 f m W H a).map rowD))) (b:= .fl ((js2 f).map rowD)) ⋯ ⋯ (x_list (vs:=[.fl [txtD ((endN f).drop 1),txtD ((endN f).take ((endN f).length - 1)),.int 4],.fl [txtD (qpN f 41),txtD (qqN f),.int 80],.fl [txtD [64261],txtD [64262],.int 2]]) ⋯
    (evs_c (x_list (vs:=[tx ((endN f).drop 1),tx ((endN f).take ((endN f).length - 1)),ii 4]) ⋯ (evs_c (x_slice (w:=tx (endN f)) (lo:=some (kd (kd (kd (kd (kd (sE BW 27 0) 1) 0) 0) 1) 0)) (hi:=none) (sp:=none) (l:=some (ii (1:Nat))) (h:=none) (s:=none) ⋯ ⋯ (part_s ⋯) ⋯ ⋯ (sl_from hl)) (evs_c (x_slice (w:=tx (endN f)) (lo:=none) (hi:=some (kd (kd (kd (kd (kd (sE BW 27 0) 1) 0) 1) 1) 0)) (sp:=none) (l:=none) (h:=some (orN 1)) (s:=none) ⋯ ⋯ ⋯ (part_s ⋯) ⋯ (sl_to hl)) (evs1 ⋯))) ⋯ ⋯)
      (evs_c (x_list (vs:=[tx (qpN f 41),tx (qqN f),ii 80]) ⋯ (evs_c (x_qp (by decide) rfl ⋯ ⋯ ⋯ ⋯ ⋯) (evs_c (x_qq rfl ⋯ ⋯ ⋯ ⋯ ⋯) (evs1 ⋯))) ⋯ ⋯) (evs1 (x_list (vs:=[tx [64261],tx [64262],ii 2]) ⋯ ⋯ ⋯ ⋯)))) ⋯ ⋯) (addDF (show 3+3≤1000000 by decide))) ⋯ h
theorem u28 (E:EN f t m W H a o i k) (h:Hd (exs (ex G (n+158+2) CW) (BW.drop (28+1)) (S NW (W28 ns f t m W H a i k) σ o)) P):Hd (exs (ex G (n+158+2) CW) (BW.drop 28) (S NW (W27 ns f t m W H a i k) σ o)) P:=
  A (.fl ((abv f m W H a).map rowD)) (st1:=S NW (W27 ns f t m W H a i k) σ o) (S NW (W28 ns f t m W H a i k) σ o) (as_h ⋯ _) (x_list (vs:=[.fl [txtD m,txtD (wdN (pL f) (qL f) a),.int (hxI W H a - 1)],.fl [txtD (endN f),txtD (mrk f),.int 3],.fl [txtD (qpN f 42),txtD (qqN f),.int 82],.fl [txtD (qqN f),txtD (qpN f 42),.int 82]]) ⋯
    (evs_c (x_list (vs:=[tx m,tx (wdN (pL f) (qL f) a),ii (hxI W H a - 1)]) ⋯ (evs_c ⋯ (evs_c (x_item (w:= .d (.list (smL (bkN f W H)))) (j:=k) ⋯ ⋯ ⋯ E.it) (evs1 (x_bo .Sub (a:=ii (hxI W H a)) (b:=ii 1) ⋯ (x_item (w:= .hl i) (j:=k) ⋯ ⋯ ⋯ E.du) ⋯ ⋯)))) ⋯ ⋯)
      (evs_c (x_list (vs:=[tx (endN f),tx (mrk f),ii 3]) ⋯ (evs_c ⋯ (evs_c (x_m1 ⋯ ⋯ ⋯) (evs1 ⋯))) ⋯ ⋯)
        (evs_c (x_list (vs:=[tx (qpN f 42),tx (qqN f),ii 82]) ⋯ (evs_c (x_qp (by decide) rfl ⋯ ⋯ ⋯ ⋯ ⋯) (evs_c (x_qq rfl ⋯ ⋯ ⋯ ⋯ ⋯) (evs1 ⋯))) ⋯ ⋯)
          (evs1 (x_list (vs:=[tx (qqN f),tx (qpN f 42),ii 82]) ⋯ (evs_c (x_qq rfl ⋯ ⋯ ⋯ ⋯ ⋯) (evs_c (x_qp (by decide) rfl ⋯ ⋯ ⋯ ⋯ ⋯) (evs1 ⋯))) ⋯ ⋯))))) ⋯ ⋯) ⋯ h
theorem rows_len (E:EN f t m W H a o i k):∀r∈js1 f m W H a++js2 f++abv f m W H a,r.1.length≤1000∧r.2.1.length≤1000:=by
  have e1:(endN f).length≤1000:=Nat.le_trans (end_len f) (by decide)
  have e2:(mrk f).length≤1000:=Nat.le_trans (mrk_len f) (by decide)
  have e3:m.length≤1000:=Nat.le_trans E.x.ml (by decide)
  have ha:a∈plN (bkN f W H):=E.e ▸ pc_mem E.l
  have e4:(spN (pL f) (qL f) a).length≤1000:=up_len (b:=bkN f W H) (LL_of f) E.x.bk ha _ _
  have e5:=wd_le E.x.bk ha
  have e6:(swN f W m).length≤1000:=Nat.le_trans (sw_len E.x) (by decide)
  have e7:(qpN f 41).length≤1000:=Nat.le_trans (qp_len f (by decide)) (by decide)
  have e8:(qpN f 42).length≤1000:=Nat.le_trans (qp_len f (by decide)) (by decide)
  have e9:(qqN f).length≤1000:=show 3≤1000 by decide
  have c1 (x:Nat):[x].length≤1000:=show 1≤1000 by decide
  have mk {r:Row} {l:List Row} (h:r.1.length≤1000∧r.2.1.length≤1000) (h2:∀x∈l,x.1.length≤1000∧x.2.1.length≤1000):∀x∈r::l,x.1.length≤1000∧x.2.1.length≤1000:=List.forall_mem_cons.mpr ⟨h,h2⟩
  exact mk ⟨e4,e3⟩ (mk ⟨e3,e6⟩ (mk ⟨e1,e2⟩ (mk ⟨Nat.le_trans (Nat.le_of_eq List.length_drop) (Nat.le_trans (Nat.sub_le ..) e1),Nat.le_trans (List.length_take_le' ..) e1⟩ (mk ⟨e7,e9⟩ (mk ⟨c1 _,c1 _⟩ (mk ⟨e3,e5⟩ (mk ⟨e1,e2⟩ (mk ⟨e8,e9⟩ (mk ⟨e9,e8⟩ nofun)))))))))
end
end L1
end
section
open PySem PySem.W Mine V02
namespace Mine
variable {G:Env'} {n:Nat} {C:Cx} {v a b:V} {st:St} {e:Expr}
theorem i_zipF (x:PyData) (xs ys:List PyData) {zs:List PyData} (h0:iter G (n+1) C e st=(evs (ev G n C) (kids e).tail st).bind fun p=>(rd0s p.1).bind fun l=>two l fun a b=>(zipD? a).bind fun xs=>(zipD? b).map fun ys=>(It.zip (zipD xs ys),p.2)) (h:evs (ev G n C) (kids e).tail st=some ([.d x,.fl ys],st)) (hx:zipD? x=some xs) (hz:zipD xs ys=zs):iter G (n+1) C e st=some (.zip zs,st):=by
  rw[h0,h];show(zipD? x).bind _=_
  rw[hx,←hz];rfl
end Mine
namespace L1
noncomputable def rws (f:Int) (m:List Nat) (W H:Nat) (a:Nat×Nat):List Row:=js1 f m W H a++js2 f++abv f m W H a
section
variable {n W H i k:Nat} {ns:List Int} {f:Int} {P:Fl×St→Prop} {o t':Objs} {t m:List Nat} {σ:Str→Option V} {a c:Nat×Nat}
theorem u29 (E:EN f t m W H a o i k) (h:∀t',Hd (exs (ex G (n+158+2) CW) (BW.drop (29+1)) (S NW (W29 ns f t m W H a i k) σ (o++t'))) P):Hd (exs (ex G (n+158+2) CW) (BW.drop 29) (S NW (W28 ns f t m W H a i k) σ o)) P:=by
  refine AH (as_h ⋯ _) ?_
  refine(x_mtO (n:=n+156) (N:=[".0","one","two","limit"]) (.vals ((rws f m W H a).map rowD)) (rws f m W H a) rowD lvD [] (fun r=>[("one",tx r.1),("two",tx r.2.1),("limit",ii r.2.2)]) z0 ⋯ (i_val (v:= .fl ((rws f m W H a).map rowD)) ⋯ (x_bo .Add (a:= .d (.list ((js1 f m W H a++js2 f).map rowD))) (b:= .d (.list ((abv f m W H a).map rowD))) ⋯ ⋯ ⋯ ⋯) ⋯) ⋯ (fun _ _=>rfl) ⋯ ⋯ ⋯ (fun _ _ _ _=>⋯) (fun _ _ _=>⋯) ⋯ (fun r σ t' hr=>?_)).get fun r hr ⟨e1,t',e2⟩=> .of hr ?_
  · obtain⟨l1,l2⟩:=rows_len E r hr
    exact(x_lev (N:=n+122) (x:=r.1) (y:=r.2.1) (k:=r.2.2) ⋯ ⋯ l1 l2).get fun q hq ⟨e,t2,e2⟩=> .of hq ⟨by rw[e];rfl,t2,e2⟩
  · rw[e1,e2]
    exact .of (a:=S NW (W29 ns f t m W H a i k) σ (o++t')) ⋯ (h t')
theorem u30 (hJ:∀r∈js1 f m W H a++js2 f,levV r.1 r.2.1 r.2.2=r.2.2) (h:Hd (exs (ex G (n+158+2) CW) (BW.drop (30+1)) (S NW (W29 ns f t m W H a i k) σ o)) P):Hd (exs (ex G (n+158+2) CW) (BW.drop 30) (S NW (W29 ns f t m W H a i k) σ o)) P:=by
  have e:(js1 f m W H a++js2 f).map lvD=(js1 f m W H a++js2 f).map fun r=> .int r.2.2:=List.map_congr_left fun r hr=>congrArg PyData.int (hJ r hr)
  refine IR (false||false) ⋯ (t_or ⋯ (t_cmp .NotEq (a:= .fl ((js1 f m W H a++js2 f).map lvD)) (b:= .fl ((js1 f m W H a++js2 f).map fun r=> .int r.2.2)) ⋯
    (x_slice (w:= .d (.list ((rws f m W H a).map lvD))) (lo:=none) (hi:=some (kd (kd (kd (kd (sE BW 30 0) 0) 0) 1) 0)) (sp:=none) (l:=none) (h:=some (ii (6:Nat))) (s:=none) ⋯ ⋯ ⋯ (part_s ⋯) ⋯ (slV rfl rfl rfl rfl (show 10≤1000 by decide) (slT 6)))
    (x_mit (N:=[".0","row"]) (.vals ((js1 f m W H a++js2 f).map rowD)) (js1 f m W H a++js2 f) rowD (fun r=>ii r.2.2) (fun r=> .int r.2.2) [] (fun r=>[("row",.d (rowD r))]) z0 (comp_h ⋯) (i_val (v:= .d (.list ((js1 f m W H a++js2 f).map rowD))) ⋯ ⋯ ⋯) rfl (fun _=>rfl) ⋯ ⋯ ⋯ (fun _ _ _=>⋯) (fun _ _=>⋯) ⋯ (fun _ _ _=>⋯) (fun _ _=>rfl)) (ne_same (congrArg (fun l=>some (PyData.list l)) e) rfl rfl (lay_l (lay_map fun r _=>lay_i _)) rfl)) fun _=>
    t_cmp .NotEq (a:= .fl []) (b:= .fl []) ⋯ ((x_fit (N:=[".0","number"]) (.vals ((rws f m W H a).map lvD)) (rws f m W H a) lvD (fun _=>false) (fun r=> .d (lvD r)) lvD [] (fun r=>[("number",.d (lvD r))]) z0 (comp_h ⋯) (i_val (v:= .d (.list ((rws f m W H a).map lvD))) ⋯ ⋯ ⋯) rfl (fun _=>rfl) ⋯ ⋯ ⋯ (fun _ _ _=>⋯) (fun _ _=>⋯) (fun _ _ _=>a_1 ⋯) (fun _ _ _ _=>⋯) (fun _ _=>rfl)).trans (by rw[List.filter_eq_nil_iff.mpr fun _ _=>by decide];rfl)) ⋯ (ne_same (x:= .list []) (d:=1) rfl rfl rfl (lay_l nofun) rfl)) ft fun _=>h
theorem u31 (hA:∀r∈abv f m W H a,r.2.2<levV r.1 r.2.1 r.2.2) (h:Hd (exs (ex G (n+158+2) CW) (BW.drop (31+1)) (S NW (W29 ns f t m W H a i k) σ o)) P):Hd (exs (ex G (n+158+2) CW) (BW.drop 31) (S NW (W29 ns f t m W H a i k) σ o)) P:=
  IR false ⋯ (t_cmp .NotEq (a:= .fl []) (b:= .fl []) ⋯ ((x_fit (n:=n+155) (N:=[".0","row","number"]) (.zip ((abv f m W H a).map fun r=> .tuple [rowD r,lvD r])) (abv f m W H a) (fun r=> .tuple [rowD r,lvD r]) (fun r=>decide (levV r.1 r.2.1 r.2.2≤r.2.2)) (fun r=> .d (rowD r)) rowD [] (fun r=>[("row",.d (rowD r)),("number",.d (lvD r))]) z0 (comp_h ⋯) (i_zipF (.list ((abv f m W H a).map rowD)) ((abv f m W H a).map rowD) ((abv f m W H a).map lvD) ⋯ (evs_c ⋯ (evs1 (x_slice (w:= .d (.list ((rws f m W H a).map lvD))) (lo:=some (kd (kd (kd (kd (kd (sE BW 31 0) 0) 1) 2) 1) 0)) (hi:=none) (sp:=none) (l:=some (ii (6:Nat))) (h:=none) (s:=none) ⋯ ⋯ (part_s ⋯) ⋯ ⋯ (slV rfl rfl rfl rfl (show 10≤1000 by decide) (slF 6))))) rfl (zip_map _)) ⋯ (fun _=>rfl) ⋯ ⋯ ⋯ (fun _ _ _=>⋯) (fun _ _=>⋯) (fun r _ _=>a_1 (t_cmp .LtE (a:=ii (levV r.1 r.2.1 r.2.2)) (b:=ii r.2.2) ⋯ ⋯ ⋯ ⋯)) (fun _ _ _ _=>⋯) (fun _ _=>rfl)).trans (by rw[List.filter_eq_nil_iff.mpr fun r hr=>by rw[decide_eq_false (Int.not_le.mpr (hA r hr))];decide];rfl)) ⋯ (ne_same (x:= .list []) (d:=1) rfl rfl rfl (lay_l nofun) rfl)) ft fun _=>h
end
end L1
end
section
open PySem PySem.W Mine V02
namespace Mine
variable {G:Env'} {n:Nat} {C:Cx} {v a b:V} {st st2:St} {e:Expr}
theorem x_listS {vs xs} (h0:ev G (n+1) C e st=evList (fs G n) C (kids e) st) (h:evs (ev G n C) (kids e) st=some (vs,st2)) (hl:decide (vs.length≤maxLen)=true) (hx:rd0s vs=some xs):ev G (n+1) C e st=some (.fl xs,st2):=by
  rw[h0];show(evs (ev G n C) (kids e) st).bind _=_
  rw[h];show gd (decide (vs.length≤maxLen)) _=_
  rw[hl];show(rd0s vs).map _=_
  rw[hx];rfl
theorem x_and (h0:ev G (n+1) C e st=evBool (fs G n) C .And [kd e 0,kd e 1] st) (h1:ev G n C (kd e 0) st=some (.d (.bool true),st)) (h2:ev G n C (kd e 1) st=some (v,st)):ev G (n+1) C e st=some (v,st):=by
  rw[h0];show(ev G n C (kd e 0) st).bind _=_
  rw[h1];exact h2
end Mine
namespace L1
noncomputable def newT:List Nat:=[110,101,119]
noncomputable def zN (f:Int) (W H:Nat):Bool:=md ((W+stp (fr f) * H:Nat):Int) (siz (fr f))==rst f
noncomputable def thN (f:Int) (W H:Nat):List Nat:=bif zN f W H then vlN (W,H)else newT
noncomputable def W32 (ns:List Int) (f:Int) (t m:List Nat) (W H:Nat) (a:Nat×Nat) (i k:Nat):List (Str×V):=("there",tx (thN f W H))::W29 ns f t m W H a i k
noncomputable def fdD (f:Int) (W H:Nat) (a:Nat×Nat):PyData:= .list [txtD (vlN a),txtD (vlN a),.none,txtD (thN f W H)]
noncomputable def W33 (ns:List Int) (f:Int) (t m:List Nat) (W H:Nat) (a:Nat×Nat) (i k:Nat):List (Str×V):=("found",.d (fdD f W H a))::W32 ns f t m W H a i k
noncomputable def esN (f:Int) (W H:Nat):List Ent:=(plN (bkN f W H)).map (newE (pL f) (qL f))
noncomputable def es2 (f:Int) (m:List Nat) (W H:Nat):List Ent:=bif zN f W H then esN f W H else esN f W H++[(upW m,newT)]
section
variable {n W H i k:Nat} {ns:List Int} {f:Int} {P:Fl×St→Prop} {o o2 t':Objs} {t m:List Nat} {σ:Str→Option V} {a c:Nat×Nat}
theorem find_wd {p q:Nat} (h:LL p q) {l:List (Nat×Nat)} {c:Nat×Nat}:(l.map (newE p q)).find? (sH (wdN p q c))=bif l.contains c then some (newE p q c)else none:=by
  rw[List.find?_map,show sH (wdN p q c)∘newE p q=fun a=>decide (a=c)from funext fun a=>sH_new h]
  cases q:l.contains c with
  | true=>
    cases hf:l.find? fun a=>decide (a=c)with
    |none=>exact absurd (List.find?_eq_none.mp hf c (List.contains_iff_mem.mp q)) (by rw[decide_eq_true rfl];exact fun h=>h rfl)
    |some x=>rw[of_decide_eq_true (show decide (x=c)=true from List.find?_some (p:=fun a=>decide (a=c)) hf)];rfl
  |false=>rw[List.find?_eq_none.mpr fun x hx h=>by rw[of_decide_eq_true h]at hx;rw[List.contains_iff_mem.mpr hx]at q;cases q];rfl
theorem md_add {W H c s r:Nat} (hs:s≠0) (hr:r<s):(W % s=md ((r:Int) - c * H) s)↔md ((W+c * H:Nat):Int) s=r:=by
  have e (x:Int):x.fmod s=x % s:=Int.fmod_eq_emod_of_nonneg x (Int.natCast_nonneg s)
  have e1:=md_eq (x:=(r:Int) - c * H) hs
  have e2:=md_eq (x:=((W+c * H:Nat):Int)) hs
  rw[e]at e1 e2
  have g:(W:Int) % s=(W % s:Nat):=rfl
  have h2:((W+c * H:Nat):Int)=(W:Int)+c * H:=by rw[Int.natCast_add,Int.natCast_mul]
  have hr':(r:Int) % s=r:=Int.emod_eq_of_lt (Int.natCast_nonneg r) (Int.ofNat_lt.mpr hr)
  rw[h2]at e2 ⊢
  constructor
  · intro h
    have h3:(W:Int) % s=((r:Int) - c * H) % s:=g.trans ((congrArg Int.ofNat h).trans e1.symm)
    have h4:=Int.emod_emod_of_dvd ((W:Int) - ((r:Int) - c * H)) (Int.dvd_refl (s:Int))
    have h5:((W:Int)+c * H) % s=r % s:=by
      rw[←Int.emod_add_emod,h3,Int.emod_add_emod,Int.sub_add_cancel]
    rw[hr']at h5
    exact Int.ofNat.inj (e2.symm.trans h5)
  · intro h
    rw[h]at e2
    refine Int.ofNat.inj (g.symm.trans (Eq.trans ?_ e1))
    have h5:((W:Int)+c * H - c * H) % s=(r - c * H) % s:=by rw[←Int.emod_sub_emod,e2]
    rw[Int.add_sub_cancel]at h5
    exact h5
theorem rst_lt (f:Int):rst f<siz (fr f):=md_lt (siz_pos _)
theorem z_mem (x:TX f t m W H):(plN (bkN f W H)).contains (W,H)=zN f W H:=by
  rw[Bool.eq_iff_iff,List.contains_iff_mem,mem_pl x.bk.m.1]
  unfold zN
  rw[beq_iff_eq,←md_add (siz_pos _) (rst_lt f)]
  exact⟨fun h=>h.2.2,fun h=>⟨Nat.le_add_right ..,Nat.le_add_right ..,h⟩⟩
theorem fd_ok (E:EN f t m W H a o i k):(esN f W H).find? (sH (wdN (pL f) (qL f) a))=some (newE (pL f) (qL f) a):=by
  unfold esN
  rw[find_wd (LL_of f),List.contains_iff_mem.mpr (E.e ▸ pc_mem E.l)];rfl
theorem fd_m (E:EN f t m W H a o i k):(esN f W H).find? (sH m)=bif zN f W H then some (newE (pL f) (qL f) (W,H))else none:=by
  unfold esN
  rw[E.x.me,find_wd (LL_of f),z_mem E.x]
theorem noise_low:(noiseL.all fun c=>Unicode.lowerOf c==[c]&&(c !=931&&(Nat.ble 160 c)))=true:=by decide+kernel
theorem end_bd {c:Nat} (h:c∈endN f):c=hid f∨c∈mrk f:=(List.mem_append.mp h).elim (fun h=>(List.mem_append.mp h).imp (fun h=>List.mem_singleton.mp h) id) fun h=> .inl (List.mem_singleton.mp h)
theorem hid_ok (f:Int):Unicode.lowerOf (hid f)=[hid f]∧hid f≠931∧160≤hid f:=by
  obtain⟨h1,h⟩:=bA (List.all_eq_true.mp noise_low _ (hid_mem f))
  obtain⟨h2,h3⟩:=bA h
  exact⟨eq_of_beq h1,bne_iff_ne.mp h2,Nat.le_of_ble_eq_true h3⟩
theorem mrk_bd {c:Nat} (h:c∈mrk f):65≤c∧c≤122:=by
  rw[mrk_eq]at h
  exact wd_bd (LL_of f) false false _ h
theorem low_end:hid f∈lowW (endN f)∧okW (lowW (endN f))=true:=by
  have h:=hid_ok f
  have e:lowW (endN f)=endN f:=by
    rw[lowW_eq fun q=>(end_bd q).elim (fun e=>h.2.1 e.symm) fun q=>absurd (mrk_bd q).2 (by decide)]
    unfold endN
    rw[List.flatMap_append,List.flatMap_append,show[hid f].flatMap Unicode.lowerOf=[hid f]from(List.append_nil _).trans h.1]
    rw[mrk_eq,show(wdN (pL f) (qL f) ((mkN f).length - 2,1)).flatMap Unicode.lowerOf=wdN (pL f) (qL f) ((mkN f).length - 2,1)from fm_wd ((LL_of f).l.ok false).1 ((LL_of f).r.ok false).1 _]
  rw[e]
  refine⟨List.mem_append_right _ (List.mem_singleton.mpr rfl),List.all_eq_true.mpr fun c hc=>?_⟩
  have hb:32≤c∧c≠127:=(end_bd hc).elim (fun e=>by rw[e];omega) fun q=>by have:=mrk_bd q;omega
  rw[decide_eq_true hb.1];exact bne_iff_ne.mpr hb.2
theorem fd_end (E:EN f t m W H a o i k):(esN f W H).find? (sH (lowW (endN f)))=none:=List.find?_eq_none.mpr fun x hx=>by
  obtain⟨c,_,rfl⟩:=List.mem_map.mp hx
  unfold sH
  rw[show lowW (newE (pL f) (qL f) c).1=wdN (pL f) (qL f) c from low_wd (LL_of f) _ _ c]
  intro q
  have hm:=(low_end (f:=f)).1
  rw[←eq_of_beq q]at hm
  have:=(wd_bd (LL_of f) false false c hm).2
  have:=(hid_ok f).2.2
  omega
theorem up_m (x:TX f t m W H):upW m=wdN (cp true (pL f)) (cp true (qL f)) (W,H):=by
  rw[x.me];exact up_wd (LL_of f) false false _
end
end L1
end
section
open PySem PySem.W Mine V02
namespace L1
section
variable {n W H i k:Nat} {ns:List Int} {f:Int} {P:Fl×St→Prop} {o o2 t':Objs} {t m:List Nat} {σ:Str→Option V} {a c:Nat×Nat}
theorem EN.it2 (E:EN f t m W H a o i k) {g:Nat×Nat→PyData}:itemV o2 (.d (.list ((plN (bkN f W H)).map g))) (k:Int)=some (.d (g a)):=itL (ix_any E.l E.x.bk (List.length_map ..)) ((gDa (d:=(0,0)) E.l).trans (congrArg (fun c=>some (g c)) E.e))
theorem EN.pl (E:EN f t m W H a o i k):a∈plN (bkN f W H):=E.e ▸ pc_mem E.l
theorem es_ok (X:BkOK (bkN f W H)):∀p∈esN f W H,p.1.length≤1000:=fun p hp=>by
  obtain⟨c,hc,rfl⟩:=List.mem_map.mp hp
  exact up_len (b:=bkN f W H) (LL_of f) X hc _ _
theorem es_len (X:BkOK (bkN f W H)):(esN f W H).length≤441:=Nat.le_trans (Nat.le_of_eq (List.length_map ..)) (plN_len X)
theorem WH_le (x:TX f t m W H):W≤20∧H≤20:=⟨Nat.le_trans x.w2 (by decide),Nat.le_trans x.h2 (by decide)⟩
theorem th_ok (x:TX f t m W H):okW (thN f W H)=true∧okT (thN f W H):=by
  obtain⟨h1,_,h3⟩:=vl_ok (c:=(W,H)) (WH_le x).1 (WH_le x).2
  unfold thN
  cases zN f W H with
  |true=>exact⟨h1,h3⟩
  |false=>exact⟨⋯,(show okT newT from fun c hc=>by revert c hc;decide)⟩
theorem u32 (x:TX f t m W H) (h:Hd (exs (ex G (n+158+2) CW) (BW.drop (32+1)) (S NW (W32 ns f t m W H a i k) σ o)) P):Hd (exs (ex G (n+158+2) CW) (BW.drop 32) (S NW (W29 ns f t m W H a i k) σ o)) P:=by
  have hb:=WH_le x;have h3:=fr_le f
  refine A (tx (thN f W H)) (st1:=S NW (W29 ns f t m W H a i k) σ o) (S NW (W32 ns f t m W H a i k) σ o) (as_h ⋯ _) (x_ife (zN f W H) ⋯ (t_cmp .Eq (a:=ii (md ((W+stp (fr f) * H:Nat):Int) (siz (fr f)))) (b:=ii (rst f)) ⋯ (x_bo .Mod (a:=ii (W+stp (fr f) * H:Nat)) (b:=ii (siz (fr f))) ⋯ (x_bo .Add (a:=ii W) (b:=ii (stp (fr f) * H:Nat)) ⋯ ⋯ (x_bo .Mult (a:=ii (stp (fr f))) (b:=ii H) ⋯ ⋯ ⋯ (mulN (by unfold stp;omega))) ⋯) ⋯ (modV (siz_pos _))) ⋯ (eq_nat _ _)) (fun q=>?_) fun q=>?_) ⋯ h
  · have n1:=num_l hb.1;have n2:=num_l hb.2
    unfold thN;rw[q]
    exact x_bo .Add (a:=tx (numW W++[32])) (b:=tx (numW H)) ⋯ (x_bo .Add (a:=tx (numW W)) (b:=tx [32]) ⋯ (x_bui .str ⋯ (evs1 (v:=ii W) ⋯) (numV hb.1)) ⋯ (addT (Nat.le_trans (Nat.succ_le_succ n1.2.1) (by decide)))) (x_bui .str ⋯ (evs1 (v:=ii H) ⋯) (numV hb.2)) (addT (by rw[List.length_append];exact Nat.le_trans (Nat.add_le_add (Nat.succ_le_succ n1.2.1) n2.2.1) (by decide)))
  · unfold thN;rw[q];exact ⋯
theorem setd_m (E:EN f t m W H a o i k):∃o2,call G (n+60) "Headers.setdefault" [.obj 3,tx (upW m),tx newT] [] o=some (tx (thN f W H),o2)∧HA o2 3 2 (es2 f m W H):=by
  have X:=E.x.bk
  have lu:lowW (upW m)=m:=by rw[up_m E.x,low_wd (LL_of f),←E.x.me]
  have uo:okW (upW m)=true:=by rw[up_m E.x];exact okW_wd (LL_of f) true true _
  have mo:okW m=true:=by rw[E.x.me];exact okW_wd (LL_of f) false false _
  have ul:(upW m).length≤1000:=by rw[up_m E.x,wd_len];have:=WH_le E.x;show W+H≤1000;omega
  have hs:=setd_spec (n:=n) (a:=upW m) (b:=newT) E.h (es_ok X) (Nat.lt_of_le_of_lt (es_len X) (by decide)) ul (lu.symm ▸ mo) uo ⋯ ((congrArg (fun w=>(esN f W H).find? (sH w)) lu).trans (fd_m E))
  unfold thN es2
  cases q:zN f W H with
  |true=>rw[q]at hs;exact⟨_,hs,E.h⟩
  | false=>
    rw[q]at hs
    exact⟨_,hs,E.h.set (es':=esN f W H++[(upW m,newT)]) (by rw[List.length_append];exact Nat.le_trans (Nat.succ_le_succ (es_len X)) (by decide))⟩
theorem u33 (E:EN f t m W H a o i k) (h:∀o2,HA o2 3 2 (es2 f m W H)→Hd (exs (ex G (n+158+2) CW) (BW.drop (33+1)) (S NW (W33 ns f t m W H a i k) σ o2)) P):Hd (exs (ex G (n+158+2) CW) (BW.drop 33) (S NW (W32 ns f t m W H a i k) σ o)) P:=by
  obtain⟨o2,e2,H2⟩:=setd_m (n:=n+97) E
  have X:=E.x.bk
  have L:=LL_of f
  have ha:=E.pl
  have sl:(spN (pL f) (qL f) a).length≤1000:=up_len (b:=bkN f W H) L X ha _ _
  have lw:lowW (spN (pL f) (qL f) a)=wdN (pL f) (qL f) a:=low_wd L _ _ a
  have lw2:lowW (wdN (pL f) (qL f) a)=wdN (pL f) (qL f) a:=low_wd L false false a
  have uw:upW (spN (pL f) (qL f) a)=wdN (cp true (pL f)) (cp true (qL f)) a:=up_wd L _ _ a
  have ow:okW (wdN (pL f) (qL f) a)=true:=okW_wd L false false a
  have lu:lowW (wdN (cp true (pL f)) (cp true (qL f)) a)=wdN (pL f) (qL f) a:=low_wd L true true a
  have um:(upW m).length≤1000:=by rw[up_m E.x,wd_len];have:=WH_le E.x;show W+H≤1000;omega
  refine A (.fl [txtD (vlN a),txtD (vlN a),.none,txtD (thN f W H)]) (st1:=S NW (W32 ns f t m W H a i k) σ o2) (S NW (W33 ns f t m W H a i k) σ o2) (as_h ⋯ _) (x_listS (vs:=[tx (vlN a),tx (vlN a),.d .none,tx (thN f W H)]) ⋯
    (evs_s (x_ix (i:=3) (a:=tx (wdN (pL f) (qL f) a)) (o':=o) ⋯ ⋯ ((x_low (spN (pL f) (qL f) a) (x_rc ⋯ (x_item (w:= .d (.list (spL (bkN f W H)))) (j:=k) ⋯ ⋯ ⋯ E.it)) sl).trans (congrArg (fun w=>some (tx w,S NW (W32 ns f t m W H a i k) σ o)) lw)) E.h.is rfl ((item_spec (n:=n+117) E.h (es_ok X) (wd_le X ha) (lw2.symm ▸ ow)).trans (by rw[lw2];show some (fndV ((esN f W H).find? (sH (wdN (pL f) (qL f) a))),o)=_;rw[fd_ok E];rfl)))
      (evs_s (x_ob 3 "get" "Headers.get" (o':=o) ⋯ ⋯ E.h.is (evs1 (v:=tx (wdN (cp true (pL f)) (cp true (qL f)) a)) ((x_up (spN (pL f) (qL f) a) (x_rc ⋯ (x_item (w:= .d (.list (spL (bkN f W H)))) (j:=k) ⋯ ⋯ ⋯ E.it)) (by rw[uw];exact up_len (b:=bkN f W H) L X ha _ _)).trans (by rw[uw]))) ⋯ ((get_spec (n:=n+122) E.h (es_ok X) (up_len (b:=bkN f W H) L X ha true true) (lu.symm ▸ ow)).trans (by show some (fndV ((esN f W H).find? (sH (lowW (wdN (cp true (pL f)) (cp true (qL f)) a)))),o)=_;rw[lu,fd_ok E];rfl)))
        (evs_s (x_ix (i:=3) (a:=tx (endN f)) (o':=o) ⋯ ⋯ ⋯ E.h.is rfl ((item_spec (n:=n+117) E.h (es_ok X) (Nat.le_trans (end_len f) (by decide)) (low_end (f:=f)).2).trans (by show some (fndV ((esN f W H).find? (sH (lowW (endN f)))),o)=_;rw[fd_end E];rfl)))
          (evs_s (x_ob 3 "setdefault" "Headers.setdefault" (o':=o2) ⋯ ⋯ E.h.is (evs_c (x_up m (x_rc ⋯ ⋯) um) (evs1 ⋯)) ⋯ e2) rfl)))) ⋯ ⋯) ⋯ (h o2 H2)
theorem vl_new (c:Nat×Nat):(vlN c==newT)=false:=beq_false_of_ne fun e=>absurd (show 32∈newT from e ▸ List.mem_append_left _ (List.mem_append_right _ (List.mem_singleton.mpr rfl))) (by decide)
theorem th_new:(thN f W H==newT)= !zN f W H:=by
  unfold thN
  cases zN f W H with
  |true=>exact vl_new _
  |false=>rfl
theorem u34 (E:EN f t m W H a o i k) (H2:HA o2 3 2 (es2 f m W H)) (h:P (.ret (.d (.bool true)),S NW (W33 ns f t m W H a i k) σ o2)):Hd (exs (ex G (n+158+2) CW) (BW.drop 34) (S NW (W33 ns f t m W H a i k) σ o2)) P:=by
  have X:=E.x.bk
  have hv:=vl_ok (Nat.le_trans (pl_bd X E.pl).1 X.w) (Nat.le_trans (pl_bd X E.pl).2 X.h)
  have hn:=plN_len X
  have e2:(es2 f m W H).length=(plN (bkN f W H)).length+bif !zN f W H then 1 else 0:=by
    unfold es2
    cases zN f W H with
    |true=>exact List.length_map ..
    |false=>exact List.length_append.trans (congrArg (·+1) (List.length_map ..))
  have l2:(es2 f m W H).length≤1000:=H2.n
  have hl:Lay 1 (fdD f W H a):=lay_l (lay_c (lay_tx hv.2.2) (lay_c (lay_tx hv.2.2) (lay_c ⟨rfl,Nat.le_refl 0⟩ (lay_c (lay_tx (th_ok E.x).2) lay_n))))
  have el:((plN (bkN f W H)).map plD).length=(plN (bkN f W H)).length:=List.length_map ..
  refine R (v:= .d (.bool true)) (st1:=S NW (W33 ns f t m W H a i k) σ o2) ⋯ (x_and ⋯ (x_cmp .Eq (a:= .d (fdD f W H a)) (b:= .fl [txtD (vlN a),txtD (vlN a),.none,txtD (thN f W H)]) ⋯ ⋯ (x_list (vs:=[tx (vlN a),tx (vlN a),.d .none,tx (thN f W H)]) ⋯ (evs_c (x_item (w:= .d (.list (vlL (bkN f W H)))) (j:=k) ⋯ ⋯ ⋯ E.it2) (evs_c (x_item (w:= .d (.list (vlL (bkN f W H)))) (j:=k) ⋯ ⋯ ⋯ E.it2) (evs_c ⋯ (evs1 ⋯)))) ⋯ ⋯) (eq_same rfl rfl rfl hl rfl))
    (x_cmp .Eq (a:=ii (es2 f m W H).length) (b:=ii ((plN (bkN f W H)).length+bif !zN f W H then 1 else 0:Nat)) ⋯ (x_ln ⋯ (evs1 (v:= .obj 3) ⋯) H2.is (len_spec H2) (Nat.le_trans l2 (by decide))) (x_bo .Add (a:=ii (plN (bkN f W H)).length) (b:=ii (bif !zN f W H then 1 else 0:Nat)) ⋯ (x_bui .len ⋯ (evs1 (v:= .d (.list ((plN (bkN f W H)).map plD))) ⋯) ((len_fl (el ▸ Nat.le_trans hn (by decide))).trans (by rw[el]))) (x_ife (!zN f W H) ⋯ (t_cmp .Eq (a:=tx (thN f W H)) (b:=tx newT) ⋯ ⋯ ⋯ (congrArg some th_new)) (fun q=>?_) fun q=>?_) ⋯) ((eq_nat _ _).trans (by rw[e2,beq_self_eq_true])))) h
  · rw[q];exact ⋯
  · rw[q];exact ⋯
end
end L1
end
section
open PySem PySem.W Mine V02
namespace L1
noncomputable def idx5:Nat→Nat
  |0=>0
  |1=>1
  |2=>2
  |3=>3
  |_+4=>4
noncomputable def c5 (i j:Nat):Int:=((([[0,2,1,2,2],[2,0,2,1,2],[1,2,0,2,2],[2,1,2,0,2],[2,2,2,2,0]]:List (List Int)).getD (idx5 i) []).getD (idx5 j) 0)
noncomputable def f5 (p q z i:Nat):Nat:=[cp false p,cp false q,cp true p,cp true q].getD (idx5 i) z
theorem far2 {x y u v:Nat} (hx:low1 x=[u]) (hy:low1 y=[v]) (h:u≠v):Rl 2 x y:=by
  have m:(low1 x==low1 y)=false:=beq_eq_false_iff_ne.mpr fun e=>h (by rw[hx,hy]at e;exact(List.cons.inj e).1)
  have r:=Rl.ne (x:=x) (y:=y) fun e=>by rw[e,beq_self_eq_true]at m;cases m
  rw[m]at r;exact r
theorem near1 {x y u:Nat} (hx:low1 x=[u]) (hy:low1 y=[u]) (h:x≠y):Rl 1 x y:=by
  have r:=Rl.ne h
  rw[hx,hy,beq_self_eq_true]at r;exact r
theorem LT.low {p:Nat} (h:LT p) (e:Bool):low1 (cp e p)=[p]:=(low1_eq _).trans (h.ok e).1
theorem LT.pP {p:Nat} (h:LT p):Rl 1 (cp false p) (cp true p):=near1 (h.low false) (h.low true) (show p≠p - 32 by have:=h.a;omega)
section
variable {p q z:Nat} (h:LL p q) (hz:low1 z=[z]) (hb:160≤z)
include h hz hb
theorem rl5:∀i j,Rl (c5 i j) (f5 p q z i) (f5 p q z j):=by
  have A (e e':Bool):Rl 2 (cp e p) (cp e' q):=far2 (h.l.low e) (h.r.low e') h.n
  have B (e:Bool):Rl 2 (cp e p) z:=far2 (h.l.low e) hz (Nat.ne_of_lt (Nat.lt_of_le_of_lt h.l.z (Nat.lt_of_lt_of_le (by decide) hb)))
  have C (e:Bool):Rl 2 (cp e q) z:=far2 (h.r.low e) hz (Nat.ne_of_lt (Nat.lt_of_le_of_lt h.r.z (Nat.lt_of_lt_of_le (by decide) hb)))
  exact fun i j=>match i,j with
  |0,0=>Rl.refl _
  |0,1=>A false false
  |0,2=>h.l.pP
  |0,3=>A false true
  |0,_+4=>B false
  |1,0=>(A false false).symm
  |1,1=>Rl.refl _
  |1,2=>(A true false).symm
  |1,3=>h.r.pP
  |1,_+4=>C false
  |2,0=>h.l.pP.symm
  |2,1=>A true false
  |2,2=>Rl.refl _
  |2,3=>A true true
  |2,_+4=>B true
  |3,0=>(A false true).symm
  |3,1=>h.r.pP.symm
  |3,2=>(A true true).symm
  |3,3=>Rl.refl _
  |3,_+4=>C true
  |_+4,0=>(B false).symm
  |_+4,1=>(C false).symm
  |_+4,2=>(B true).symm
  |_+4,3=>(C true).symm
  |_+4,_+4=>Rl.refl _
end
noncomputable def e5 (i j:Nat):Bool:=c5 i j==0
theorem e5_self:∀i,e5 i i=true
  |0=>rfl
  |1=>rfl
  |2=>rfl
  |3=>rfl
  |_+4=>rfl
section
variable {e:Nat→Nat→Bool} {a b u v:List Nat} {x y:Nat} {m:Int}
theorem fst_s:∀n k,fstF (eqA e (x::a) (y::b)) n (k+1)=fstF (eqA e a b) n k+1
  |0,k=>rfl
  | n+1,k=>by
    show(bif eqA e a b k then fstF (eqA e (x::a) (y::b)) n (k+1+1)else k+1)=(bif eqA e a b k then fstF (eqA e a b) n (k+1)else k)+1
    rw[fst_s n (k+1)]
    cases eqA e a b k<;>rfl
theorem preP_c:preP e (x::a) (y::b)=bif e x y then preP e a b+1 else 0:=by
  show(bif e x y then fstF (eqA e (x::a) (y::b)) a.length 1 else 0)=_
  rw[fst_s a.length 0];rfl
theorem preP_r:preP e a []=0:=by
  cases a with
  |nil=>rfl
  |cons=>rfl
theorem preP_n (h:e x y=false):preP e (x::a) (y::b)=0:=by rw[preP_c,h];rfl
theorem preP_app (h:∀x∈u,e x x=true):preP e (u++a) (u++b)=u.length+preP e a b:=by
  induction u with
  |nil=>exact(Nat.zero_add _).symm
  | cons x u ih=>
    rw[List.cons_append,List.cons_append,preP_c,h x List.mem_cons_self,ih fun y hy=>h y (List.mem_cons_of_mem _ hy),List.length_cons,Nat.succ_add];rfl
theorem same_pre:∀{a b:List Nat},sameP e a b=true→preP e a b=a.length∧preP e a b=b.length
  |[],[],_=>⟨rfl,rfl⟩
  |[],_::_,h=>ft h
  |_::_,[],h=>ft h
  | x::a,y::b,h=>by
    obtain⟨h1,h2⟩:=bA h
    obtain⟨g1,g2⟩:=same_pre h2
    rw[preP_c,h1]
    exact⟨congrArg (·+1) g1,congrArg (·+1) g2⟩
theorem lev_strip (u v:List Nat) (hp:preP e5 (a++v) (b++v)=0) (hs:preP e5 a.reverse b.reverse=0):levT c5 (u++(a++v)) (u++(b++v)) m=coreP (fun j i=>c5 i j) c5 a b m:=by
  have h1:preP e5 (u++(a++v)) (u++(b++v))=u.length:=by rw[preP_app fun x _=>e5_self x,hp];rfl
  have h2:preP e5 (a++v).reverse (b++v).reverse=v.length:=by
    rw[List.reverse_append,List.reverse_append,preP_app fun x _=>e5_self x,hs,List.length_reverse];rfl
  unfold levT
  cases q:sameP (fun i j=>c5 i j==0) (u++(a++v)) (u++(b++v))with
  | true=>
    obtain⟨g1,g2⟩:=same_pre (e:=e5) q
    rw[h1,List.length_append,List.length_append]at g1 g2
    have nil {l:List Nat} (g:u.length=u.length+(l.length+v.length)):l=[]:=List.eq_nil_of_length_eq_zero (Nat.eq_zero_of_add_eq_zero_right (Nat.add_left_cancel (g.symm.trans (Nat.add_zero _).symm)))
    have ea:=nil g1
    have eb:=nil g2
    rw[ea,eb];rfl
  | false=>
    show levP e5 _ _ _ _ m=_
    unfold levP
    rw[h1,List.drop_left,List.drop_left,h2,List.length_append,List.length_append,Nat.add_sub_cancel,Nat.add_sub_cancel,List.take_left,List.take_left]
end
theorem rep_add {x n k m:Nat} (h:n+k=m):List.replicate n x++List.replicate k x=List.replicate m x:=by rw[List.replicate_append_replicate,h]
theorem mn1 {a b:Nat}:a - b+min a b=a:=Nat.sub_add_min_cancel a b
theorem mn2 {a b:Nat}:b - a+min a b=b:=Nat.min_comm a b ▸ mn1
theorem mn3 {a b:Nat}:min a b+(a - b)=a:=(Nat.add_comm ..).trans mn1
theorem mn4 {a b:Nat}:min a b+(b - a)=b:=(Nat.add_comm ..).trans mn2
theorem sz {a b:Nat}:a - b=0∨b - a=0:=(Nat.le_total a b).imp Nat.sub_eq_zero_of_le Nat.sub_eq_zero_of_le
theorem lev_wd {W H x y:Nat} {m:Int}:levT c5 (wdN 0 1 (W,H)) (wdN 0 1 (x,y)) m=coreP (fun j i=>c5 i j) c5 (wdN 0 1 (W - x,H - y)) (wdN 0 1 (x - W,y - H)) m:=by
  have hs0:∀i j k l,(i=0∨j=0)→(k=0∨l=0)→preP e5 (wdN 0 1 (i,k)).reverse (wdN 0 1 (j,l)).reverse=0:=by
    intro i j k l h1 h2
    unfold wdN
    rw[List.reverse_append,List.reverse_append,List.reverse_replicate,List.reverse_replicate,List.reverse_replicate,List.reverse_replicate]
    rcases h2 with rfl |rfl
    · cases l with
      |zero=>rcases h1 with rfl |rfl;exact rfl;exact preP_r
      | succ l=>cases i with
        |zero=>exact rfl
        |succ i=>exact preP_n rfl
    · cases k with
      |zero=>rcases h1 with rfl |rfl;exact rfl;exact preP_r
      | succ k=>cases j with
        |zero=>exact preP_r
        |succ j=>exact preP_n rfl
  have hs:=hs0 (W - x) (x - W) (H - y) (y - H) sz sz
  by_cases e:W=x
  · subst e
    have w:∀k i j,i+j=k→wdN 0 1 (W,k)=(List.replicate W 0++List.replicate i 1)++(wdN 0 1 (W - W,j)++[]):=fun k i j h=>by
      unfold wdN
      rw[Nat.sub_self,List.append_nil,List.append_assoc]
      exact congrArg (List.replicate W 0++·) (rep_add h).symm
    rw[w H (min H y) (H - y) mn3,w y (min H y) (y - H) mn4]
    refine lev_strip _ [] ?_ hs
    rw[List.append_nil,List.append_nil,Nat.sub_self]
    rcases Nat.le_total H y with h |h
    · rw[Nat.sub_eq_zero_of_le h];exact rfl
    · rw[Nat.sub_eq_zero_of_le h];exact preP_r
  · have w:∀X Y i j k l,i+j=X→k+l=Y→wdN 0 1 (X,Y)=List.replicate i 0++(wdN 0 1 (j,k)++List.replicate l 1):=fun X Y i j k l h h2=>by
      unfold wdN
      rw[List.append_assoc,←List.append_assoc,rep_add h,rep_add h2]
    rw[w W H (min W x) (W - x) (H - y) (min H y) mn3 mn1,w x y (min W x) (x - W) (y - H) (min H y) mn4 mn2]
    refine lev_strip _ _ ?_ hs
    have z (k l m:Nat) (h:k+l=m):wdN 0 1 (0,k)++List.replicate l 1=List.replicate m 1:=rep_add h
    rcases Nat.lt_or_gt_of_ne e with h |h
    · rw[Nat.sub_eq_zero_of_le (Nat.le_of_lt h),z (H - y) (min H y) H mn1]
      obtain⟨k,hk⟩:∃k,x - W=k+1:=⟨_,(Nat.succ_pred_eq_of_pos (Nat.sub_pos_of_lt h)).symm⟩
      rw[hk]
      cases H with
      |zero=>exact rfl
      |succ H=>exact preP_n rfl
    · rw[Nat.sub_eq_zero_of_le (Nat.le_of_lt h),z (y - H) (min H y) y mn2]
      obtain⟨k,hk⟩:∃k,W - x=k+1:=⟨_,(Nat.succ_pred_eq_of_pos (Nat.sub_pos_of_lt h)).symm⟩
      rw[hk]
      cases y with
      |zero=>exact preP_r
      |succ y=>exact preP_n rfl
end L1
end
section
open PySem PySem.W Mine V02
namespace L1
noncomputable def coX (a b:List Nat) (m:Int):Int:=coreP (fun j i=>c5 i j) c5 a b m
noncomputable def dT (i j k l:Nat):Int:=2 * max3 ((j:Int) - i).natAbs ((l:Int) - k).natAbs ((j:Int) - i+((l:Int) - k)).natAbs
noncomputable def ckM (i j k l:Nat) (m:Int):Bool:=(decide (coX (wdN 0 1 (i,k)) (wdN 0 1 (j,l)) m≤m)==decide (dT i j k l≤m))&&(bif decide (dT i j k l≤m)then coX (wdN 0 1 (i,k)) (wdN 0 1 (j,l)) m==dT i j k l else true)
noncomputable def ckD (i j k l:Nat):Bool:=([2,4,6]:List Int).all (ckM i j k l)&&(decide (dT i j k l - 1<coX (wdN 0 1 (i,k)) (wdN 0 1 (j,l)) (dT i j k l - 1))&&coX (wdN 0 1 (j,l)) (wdN 0 1 (i,k)) (dT i j k l)==dT i j k l)
noncomputable def prs (n:Nat):List (Nat×Nat):=(List.range n).map (fun i=>(i,0))++[(0,1),(0,2),(0,3)]
theorem ckD_all:((prs 11).all fun a=>(prs 10).all fun b=>ckD a.1 a.2 b.1 b.2)=true:=by decide+kernel
noncomputable def ckE (W x k l:Nat):Bool:=bif decide (dT (W - x) (x - W) k l≤6)then coX (wdN 2 1 (x,l)) (wdN 0 1 (W,k)) (dT (W - x) (x - W) k l+(bif decide ((W:Int)<x)then(W:Int)else x))==dT (W - x) (x - W) k l+(bif decide ((W:Int)<x)then(W:Int)else x)else true
theorem ckE_all:((List.range 10).all fun W=>(List.range 14).all fun x=>(prs 4).all fun b=>ckE (W+1) x b.1 b.2)=true:=by decide+kernel
noncomputable def ckO (H y i j:Nat):Bool:=bif decide (dT i j (H - y) (y - H)≤6)then coX (wdN 0 3 (j,y)) (wdN 0 1 (i,H)) (dT i j (H - y) (y - H)+(bif decide ((H:Int)<y)then(H:Int)else y))==dT i j (H - y) (y - H)+(bif decide ((H:Int)<y)then(H:Int)else y)else true
theorem ckO_all:((List.range 9).all fun H=>(List.range 13).all fun y=>(prs 4).all fun b=>ckO (H+1) y b.1 b.2)=true:=by decide+kernel
end L1
end
section
open PySem PySem.W Mine V02
namespace L1
theorem map_wd {φ:Nat→Nat} {i j:Nat} {c:Nat×Nat}:(wdN i j c).map φ=wdN (φ i) (φ j) c:=by unfold wdN;rw[List.map_append,List.map_replicate,List.map_replicate]
theorem wd_rev {i j a b:Nat}:(wdN i j (a,b)).reverse=wdN j i (b,a):=by unfold wdN;rw[List.reverse_append,List.reverse_replicate,List.reverse_replicate]
theorem pz {i j k l a b c d:Nat} (h1:a≠0→c≠0→e5 i k=false) (h2:a≠0→c=0→d≠0→e5 i l=false) (h3:a=0→b≠0→c≠0→e5 j k=false) (h4:a=0→b≠0→c=0→d≠0→e5 j l=false):preP e5 (wdN i j (a,b)) (wdN k l (c,d))=0:=
  match a,b,c,d with
  |0,0,_,_=>rfl
  |_,_,0,0=>preP_r
  |_+1,_,_+1,_=>preP_n (h1 (Nat.succ_ne_zero _) (Nat.succ_ne_zero _))
  |_+1,_,0,_+1=>preP_n (h2 (Nat.succ_ne_zero _) rfl (Nat.succ_ne_zero _))
  |0,_+1,_+1,_=>preP_n (h3 rfl (Nat.succ_ne_zero _) (Nat.succ_ne_zero _))
  |0,_+1,0,_+1=>preP_n (h4 rfl (Nat.succ_ne_zero _) rfl (Nat.succ_ne_zero _))
theorem lev_ev {W H x y:Nat} {m:Int} (hW:W≠0):levT c5 (wdN 2 1 (x,y)) (wdN 0 1 (W,H)) m=coX (wdN 2 1 (x,y - H)) (wdN 0 1 (W,H - y)) m:=by
  have w (i X k l m:Nat) (h:k+l=m):wdN i 1 (X,m)=wdN i 1 (X,k)++List.replicate l 1:=by
    unfold wdN;rw[List.append_assoc];exact congrArg (_++·) (rep_add h).symm
  refine(congr (congrArg (fun a b=>levT c5 a b m) (w 2 x (y - H) (min H y) y mn2)) (w 0 W (H - y) (min H y) H mn1)).trans (lev_strip [] (List.replicate (min H y) 1) ?_ ?_)
  · rw[←w 2 x (y - H) (min H y) y mn2,←w 0 W (H - y) (min H y) H mn1]
    exact pz (fun _ _=>rfl) (fun _ h=>absurd h hW) (fun _ _ _=>rfl) (fun _ _ h=>absurd h hW)
  · rw[wd_rev,wd_rev]
    exact pz (fun h h2=>(sz.elim h h2).elim) (fun _ _ _=>rfl) (fun _ _ _=>rfl) (fun _ _ _ _=>rfl)
theorem lev_od {W H x y:Nat} {m:Int} (hH:H≠0):levT c5 (wdN 0 3 (x,y)) (wdN 0 1 (W,H)) m=coX (wdN 0 3 (x - W,y)) (wdN 0 1 (W - x,H)) m:=by
  have w (j k l m Y:Nat) (h:k+l=m):wdN 0 j (m,Y)=List.replicate k 0++(wdN 0 j (l,Y)++[]):=by
    unfold wdN;rw[List.append_nil,←List.append_assoc,rep_add h]
  refine(congr (congrArg (fun a b=>levT c5 a b m) (w 3 (min W x) (x - W) x y mn4)) (w 1 (min W x) (W - x) W H mn3)).trans (lev_strip (List.replicate (min W x) 0) [] ?_ ?_)
  · rw[List.append_nil,List.append_nil]
    exact pz (fun h h2=>(sz.elim h h2).elim) (fun _ _ _=>rfl) (fun _ _ _=>rfl) (fun _ _ _ _=>rfl)
  · rw[wd_rev,wd_rev]
    exact pz (fun _ _=>rfl) (fun _ h=>absurd h hH) (fun _ _ _=>rfl) (fun _ _ h=>absurd h hH)
theorem prs_mem {n i j:Nat} (h:i=0∨j=0) (hi:i<n) (hj:j≤3):(i,j)∈prs n:=by
  unfold prs
  rcases j with _ |_ |_ |_ |j
  · exact List.mem_append_left _ (List.mem_map.mpr ⟨i,List.mem_range.mpr hi,rfl⟩)
  · obtain rfl:i=0:=h.resolve_right (by decide);exact List.mem_append_right _ List.mem_cons_self
  · obtain rfl:i=0:=h.resolve_right (by decide);exact List.mem_append_right _ (List.mem_cons_of_mem _ List.mem_cons_self)
  · obtain rfl:i=0:=h.resolve_right (by decide);exact List.mem_append_right _ (List.mem_cons_of_mem _ (List.mem_cons_of_mem _ List.mem_cons_self))
  · omega
noncomputable def d4 (W H:Nat) (c:Nat×Nat):Int:=dT (W - c.1) (c.1 - W) (H - c.2) (c.2 - H)
theorem sub_split (x W:Nat):(x:Int) - W=((x - W:Nat):Int) - (W - x:Nat):=by omega
theorem hx_eq {W H:Nat} {c:Nat×Nat}:hxI W H c=d4 W H c:=by
  unfold hxI d4 dT dxI
  rw[sub_split c.1 W,sub_split c.2 H]
theorem prs_at {n W x:Nat} (h1:W - x<n) (h2:x≤W+3):(W - x,x - W)∈prs n:=prs_mem sz h1 (Nat.sub_le_iff_le_add'.mpr h2)
section
variable {f:Int} {t m:List Nat} {W H:Nat} {c a:Nat×Nat}
theorem rlf (f:Int):∀i j,Rl (c5 i j) (f5 (pL f) (qL f) (hid f) i) (f5 (pL f) (qL f) (hid f) j):=rl5 (LL_of f) ((low1_eq _).trans (hid_ok f).1) (hid_ok f).2.2
theorem lev_f {u v:List Nat} {k:Int}:levV (u.map (f5 (pL f) (qL f) (hid f))) (v.map (f5 (pL f) (qL f) (hid f))) k=levT c5 u v k:=lev_T (rlf f)
theorem wd_f {i j:Nat}:wdN (f5 (pL f) (qL f) (hid f) i) (f5 (pL f) (qL f) (hid f) j) c=(wdN i j c).map (f5 (pL f) (qL f) (hid f)):=map_wd.symm
theorem lev_1 {k:Int}:levV (wdN (pL f) (qL f) (W,H)) (wdN (pL f) (qL f) c) k=coX (wdN 0 1 (W - c.1,H - c.2)) (wdN 0 1 (c.1 - W,c.2 - H)) k:=
  (congr (congrArg (fun a b=>levV a b k) (wd_f (i:=0) (j:=1))) (wd_f (i:=0) (j:=1))).trans (lev_f.trans lev_wd)
theorem lev_2 {k:Int}:levV (wdN (pL f) (qL f) c) (wdN (pL f) (qL f) (W,H)) k=coX (wdN 0 1 (c.1 - W,c.2 - H)) (wdN 0 1 (W - c.1,H - c.2)) k:=
  (congr (congrArg (fun a b=>levV a b k) (wd_f (i:=0) (j:=1))) (wd_f (i:=0) (j:=1))).trans (lev_f.trans lev_wd)
theorem le_3 {x W:Nat} (h:x≤W+fr f):x≤W+3:=Nat.le_trans h (Nat.add_le_add_left (fr_le f).2 W)
theorem ck_at (x:TX f t m W H) (h1:c.1≤W+fr f) (h2:c.2≤H+fr f):ckD (W - c.1) (c.1 - W) (H - c.2) (c.2 - H)=true:=
  List.all_eq_true.mp (List.all_eq_true.mp ckD_all (W - c.1,c.1 - W) (prs_at (Nat.lt_succ_of_le (Nat.le_trans (Nat.sub_le ..) x.w2)) (le_3 h1))) (H - c.2,c.2 - H) (prs_at (Nat.lt_succ_of_le (Nat.le_trans (Nat.sub_le ..) x.h2)) (le_3 h2))
theorem fr_mem (f:Int):fr f∈([1,2,3]:List Nat):=by
  have h:md (f.fdiv 40) 3<3:=md_lt (by decide)
  unfold fr
  generalize md (f.fdiv 40) 3=k at h
  match k,h with
  |0,_=>decide
  |1,_=>decide
  |2,_=>decide
theorem two_fr (f:Int):((2 * fr f:Nat):Int)∈([2,4,6]:List Int):=List.mem_map_of_mem (f:=fun r:Nat=>((2 * r:Nat):Int)) (fr_mem f)
theorem told_ok (x:TX f t m W H) (h1:c.1≤W+fr f) (h2:c.2≤H+fr f):(tlN f m c≤(2 * fr f:Nat)↔hxI W H c≤(2 * fr f:Nat))∧(tlN f m c≤(2 * fr f:Nat)→tlN f m c=hxI W H c)∧levV (wdN (pL f) (qL f) c) m (hxI W H c)=hxI W H c∧hxI W H c - 1<levV m (wdN (pL f) (qL f) c) (hxI W H c - 1):=by
  obtain⟨g1,g⟩:=bA (ck_at x h1 h2)
  obtain⟨g2,g3⟩:=bA g
  obtain⟨g4,g5⟩:=bA (List.all_eq_true.mp g1 _ (two_fr f))
  rw[hx_eq]
  unfold tlN
  rw[x.me,lev_1,lev_1,lev_2]
  have e:coX (wdN 0 1 (W - c.1,H - c.2)) (wdN 0 1 (c.1 - W,c.2 - H)) (2 * fr f:Nat)≤(2 * fr f:Nat)↔d4 W H c≤(2 * fr f:Nat):=by
    have:=eq_of_beq g4
    exact⟨fun h=>of_decide_eq_true (this ▸ decide_eq_true h),fun h=>of_decide_eq_true (this.symm ▸ decide_eq_true h)⟩
  refine⟨e,fun h=>?_,eq_of_beq g3,of_decide_eq_true g2⟩
  rw[decide_eq_true (show dT (W - c.1) (c.1 - W) (H - c.2) (c.2 - H)≤_ from e.mp h)]at g5
  exact eq_of_beq g5
theorem spelled_ok (x:TX f t m W H) (h1:c.1≤W+fr f) (h2:c.2≤H+fr f) (h6:hxI W H c≤6) (hW:W≤c.1+3) (hH:H≤c.2+3):levV (spN (pL f) (qL f) c) m (hxI W H c+grI W H c)=hxI W H c+grI W H c:=by
  have f1:=(fr_le f).1
  obtain⟨w,rfl⟩:∃w,W=w+1:=Nat.exists_eq_add_of_le' (Nat.le_trans f1 x.w1)
  obtain⟨h,rfl⟩:∃h,H=h+1:=Nat.exists_eq_add_of_le' (Nat.le_trans f1 x.h1)
  rw[hx_eq]at h6 ⊢
  unfold spN grI evA
  rw[x.me]
  show levV (wdN (cp (jA c==0) (pL f)) (cp (!(jA c==0)) (qL f)) c) _ _=_
  cases jA c==0 with
  | true=>
    have h:=List.all_eq_true.mp (List.all_eq_true.mp (List.all_eq_true.mp ckE_all w (List.mem_range.mpr (Nat.lt_of_succ_le x.w2))) c.1 (List.mem_range.mpr (Nat.lt_succ_of_le (Nat.le_trans h1 (Nat.add_le_add x.w2 (fr_le f).2))))) (h+1 - c.2,c.2 - (h+1)) (prs_at (Nat.lt_succ_of_le (Nat.sub_le_iff_le_add'.mpr hH)) (le_3 h2))
    unfold ckE at h
    rw[decide_eq_true (show dT _ _ _ _≤6 from h6)]at h
    exact((congr (congrArg (fun a b=>levV a b _) (wd_f (i:=2) (j:=1))) (wd_f (i:=0) (j:=1))).trans (lev_f.trans (lev_ev (Nat.succ_ne_zero w)))).trans (eq_of_beq h)
  | false=>
    have h:=List.all_eq_true.mp (List.all_eq_true.mp (List.all_eq_true.mp ckO_all h (List.mem_range.mpr (Nat.lt_of_succ_le x.h2))) c.2 (List.mem_range.mpr (Nat.lt_succ_of_le (Nat.le_trans h2 (Nat.add_le_add x.h2 (fr_le f).2))))) (w+1 - c.1,c.1 - (w+1)) (prs_at (Nat.lt_succ_of_le (Nat.sub_le_iff_le_add'.mpr hW)) (le_3 h1))
    unfold ckO at h
    rw[decide_eq_true (show dT _ _ _ _≤6 from h6)]at h
    exact((congr (congrArg (fun a b=>levV a b _) (wd_f (i:=0) (j:=3))) (wd_f (i:=0) (j:=1))).trans (lev_f.trans (lev_od (Nat.succ_ne_zero _)))).trans (eq_of_beq h)
end
end L1
end
section
open PySem PySem.W Mine V02
namespace L1
noncomputable def hexC (r s i j:Nat):Bool:=decide (((iv r i+iv r j).natAbs:Int)≤r)&&md (iv r i+stp r * iv r j) (siz r)==s
noncomputable def hexL (r s:Nat):List (Nat×Nat):=(List.range (2 * r+1)).flatMap fun i=>((List.range (2 * r+1)).filter (hexC r s i)).map fun j=>(i,j)
theorem hex1:(([1,2,3]:List Nat).all fun r=>(List.range (siz r)).all fun s=>(hexL r s).length==1)=true:=by decide+kernel
theorem md_iff {x y:Int} {n:Nat} (hn:n≠0):md x n=md y n↔(n:Int) ∣ x - y:=by
  have e (x:Int):x % n=md x n:=(Int.fmod_eq_emod_of_nonneg x (Int.natCast_nonneg n)).symm.trans (md_eq hn)
  rw[Int.dvd_iff_emod_eq_zero,←Int.emod_eq_emod_iff_emod_sub_eq_zero,e,e]
  exact⟨congrArg Int.ofNat,Int.ofNat.inj⟩
theorem m2_le {a b k:Int}:(bif decide (a<b)then b else a)≤k↔a≤k∧b≤k:=by
  by_cases h:a<b
  · rw[decide_eq_true h];exact⟨fun q=>⟨Int.le_trans (Int.le_of_lt h) q,q⟩,And.right⟩
  · rw[decide_eq_false h];exact⟨fun q=>⟨q,Int.le_trans (Int.not_lt.mp h) q⟩,And.left⟩
theorem max3_le {a b c k:Int}:max3 a b c≤k↔a≤k∧b≤k∧c≤k:=(m2_le.trans (and_congr m2_le Iff.rfl)).trans and_assoc
theorem two_le {M:Int} {r:Nat}:2 * M≤(2 * r:Nat)↔M≤r:=by omega
theorem iv_lt {r i:Nat}:((iv r i).natAbs:Int)≤r↔i<2 * r+1:=by unfold iv;omega
theorem iv_at {W r x:Nat} (h:x≤W+r):iv r (W+r - x)=(W:Int) - x:=by unfold iv;omega
theorem dx_at {W r x:Nat} (h:x≤W+r):dxI W x= -(iv r (W+r - x)):=by rw[iv_at h,Int.neg_sub];rfl
theorem hx_iff {W H r:Nat} {c:Nat×Nat} (h1:c.1≤W+r) (h2:c.2≤H+r):hxI W H c≤(2 * r:Nat)↔W+r - c.1<2 * r+1∧H+r - c.2<2 * r+1∧((iv r (W+r - c.1)+iv r (H+r - c.2)).natAbs:Int)≤r:=by
  unfold hxI
  rw[dx_at h1,dx_at h2,←Int.neg_add,Int.natAbs_neg,Int.natAbs_neg,Int.natAbs_neg]
  exact two_le.trans (max3_le.trans (and_congr iv_lt (and_congr iv_lt Iff.rfl)))
theorem mem_hex {r s i j:Nat}:(i,j)∈hexL r s↔i<2 * r+1∧j<2 * r+1∧hexC r s i j=true:=by
  unfold hexL
  rw[List.mem_flatMap]
  constructor
  · rintro⟨i',h1,h2⟩
    obtain⟨j',h3,e⟩:=List.mem_map.mp h2
    cases e
    obtain⟨h4,h5⟩:=List.mem_filter.mp h3
    exact⟨List.mem_range.mp h1,List.mem_range.mp h4,h5⟩
  · exact fun⟨h1,h2,h3⟩=>⟨i,List.mem_range.mpr h1,List.mem_map.mpr ⟨j,List.mem_filter.mpr ⟨List.mem_range.mpr h2,h3⟩,rfl⟩⟩
theorem fil_one {α:Type} {p:α→Bool} {a:α}:∀{l:List α},l.Nodup→a∈l→(∀c∈l,p c=true↔c=a)→l.filter p=[a]
  |[],_,h,_=>nomatch h
  | c ::l,hn,hm,hp=>by
    obtain⟨n1,n2⟩:=List.nodup_cons.mp hn
    have hp':∀d∈l,p d=true↔d=a:=fun d hd=>hp d (List.mem_cons_of_mem _ hd)
    rcases List.mem_cons.mp hm with e |hm
    · rw[List.filter_cons,if_pos ((hp c List.mem_cons_self).mpr e.symm),List.filter_eq_nil_iff.mpr fun d hd q=>n1 (e ▸ (hp' d hd).mp q ▸ hd),e]
    · rw[List.filter_cons,if_neg fun q=>n1 ((hp c List.mem_cons_self).mp q ▸ hm)]
      exact fil_one n2 hm hp'
section
variable {f:Int} {t m:List Nat} {W H:Nat} {c a:Nat×Nat}
noncomputable def sN (f:Int) (W H:Nat):Nat:=md ((W:Int)+stp (fr f) * H - rst f) (siz (fr f))
theorem rst_md (f:Int):md (rst f:Nat) (siz (fr f))=rst f:=(md_nat _ _).trans (Nat.mod_eq_of_lt (rst_lt f))
theorem okR_eq (i j:Nat):okR f W H i j=hexC (fr f) (sN f W H) i j:=by
  have e:(md ((W:Int) - iv (fr f) i+stp (fr f) * ((H:Int) - iv (fr f) j)) (siz (fr f))==rst f)=(md (iv (fr f) i+stp (fr f) * iv (fr f) j) (siz (fr f))==sN f W H):=by
    rw[Bool.eq_iff_iff,beq_iff_eq,beq_iff_eq]
    unfold sN
    rw[md_iff (siz_pos _),←Int.dvd_neg]
    have q:=md_iff (x:=(W:Int) - iv (fr f) i+stp (fr f) * ((H:Int) - iv (fr f) j)) (y:=(rst f:Nat)) (siz_pos (fr f))
    rw[rst_md f]at q
    refine q.trans (iff_of_eq (congrArg ((siz (fr f):Int) ∣ ·) ?_))
    rw[Int.mul_sub];omega
  unfold okR hexC
  rw[e]
theorem okR_at (h1:c.1≤W+fr f) (h2:c.2≤H+fr f):okR f W H (W+fr f - c.1) (H+fr f - c.2)=true↔((iv (fr f) (W+fr f - c.1)+iv (fr f) (H+fr f - c.2)).natAbs:Int)≤fr f∧c.1 % siz (fr f)=x0N (bkN f W H) c.2:=by
  unfold okR
  rw[Bool.and_eq_true,decide_eq_true_iff,beq_iff_eq]
  refine and_congr Iff.rfl (Iff.trans (iff_of_eq ?_) (md_add (W:=c.1) (H:=c.2) (c:=stp (fr f)) (siz_pos _) (rst_lt f)).symm)
  rw[iv_at h1,iv_at h2,Int.sub_sub_self,Int.sub_sub_self,Int.natCast_add,Int.natCast_mul]
theorem perfect (x:TX f t m W H):∃a,a∈plN (bkN f W H)∧tkL f W H=[plD a]∧∀c∈plN (bkN f W H),hxI W H c≤(2 * fr f:Nat)↔c=a:=by
  have hs:sN f W H<siz (fr f):=md_lt (siz_pos _)
  obtain⟨⟨i,j⟩,hp⟩:=List.length_eq_one_iff.mp (eq_of_beq (List.all_eq_true.mp (List.all_eq_true.mp hex1 _ (fr_mem f)) _ (List.mem_range.mpr hs)))
  obtain⟨hi,hj,hc⟩:=mem_hex.mp (hp ▸ List.mem_cons_self:(i,j)∈hexL (fr f) (sN f W H))
  have ht:tkL f W H=[ijD f W H i j]:=by
    have e:tkL f W H=(hexL (fr f) (sN f W H)).map fun p=>ijD f W H p.1 p.2:=by
      unfold tkL hexL
      rw[List.map_flatMap]
      refine congrArg (fun g=>List.flatMap g (List.range (2 * fr f+1))) (funext fun i=>?_)
      rw[List.map_map,show okR f W H i=hexC (fr f) (sN f W H) i from funext fun j=>okR_eq i j];rfl
    rw[e,hp];rfl
  have le {i W:Nat} (h:i<2 * fr f+1) (w:fr f≤W):i≤W+fr f:=Nat.le_trans (Nat.le_of_lt_succ h) (Nat.two_mul (fr f) ▸ Nat.add_le_add_right w _)
  have ei:=Nat.sub_sub_self (le hi x.w1)
  have ej:=Nat.sub_sub_self (le hj x.h1)
  have b1:W+fr f - i≤W+fr f:=Nat.sub_le ..
  have b2:H+fr f - j≤H+fr f:=Nat.sub_le ..
  have ea:ijD f W H i j=plD (W+fr f - i,H+fr f - j):=by
    have q1:=iv_at b1
    have q2:=iv_at b2
    rw[ei]at q1
    rw[ej]at q2
    unfold ijD;rw[q1,q2,Int.sub_sub_self,Int.sub_sub_self];rfl
  have ha:=(okR_at (f:=f) (c:=(W+fr f - i,H+fr f - j)) b1 b2).mp (by rw[ei,ej,okR_eq];exact hc)
  refine⟨(W+fr f - i,H+fr f - j),(mem_pl x.bk.m.1).mpr ⟨b2,b1,ha.2⟩,ht.trans (congrArg (fun z=>[z]) ea),fun c hcm=>⟨fun h=>?_,fun h=>?_⟩⟩
  · obtain⟨p2,p1,p3⟩:=(mem_pl x.bk.m.1).mp hcm
    obtain⟨k1,k2,k3⟩:=(hx_iff p1 p2).mp h
    have e:=List.mem_singleton.mp (hp ▸ mem_hex.mpr ⟨k1,k2,(okR_eq _ _).symm.trans ((okR_at p1 p2).mpr ⟨k3,p3⟩)⟩)
    exact Prod.ext ((Nat.sub_sub_self p1).symm.trans (congrArg (W+fr f - ·) (Prod.mk.inj e).1)) ((Nat.sub_sub_self p2).symm.trans (congrArg (H+fr f - ·) (Prod.mk.inj e).2))
  · subst h
    exact(hx_iff b1 b2).mpr ⟨by rw[ei];exact hi,by rw[ej];exact hj,ha.1⟩
end
end L1
end
section
open PySem PySem.W Mine V02
namespace L1
noncomputable def ckG (d:Nat):Bool:=levT c5 ([4]++wdN 0 1 (d,1)++[4]) (wdN 0 1 (d,1)) 4==4&&(decide (3<levT c5 ([4]++wdN 0 1 (d,1)++[4]) (wdN 0 1 (d,1)) 3)&&levT c5 (wdN 0 1 (d,1)++[4]) ([4]++wdN 0 1 (d,1)) 4==4)
theorem ckG_ok:(ckG 1&&ckG 2)=true:=by decide+kernel
theorem ckQ:levT c5 ([1]++List.replicate 41 0) [1,1,0] 80=80:=⋯
theorem ckQ1:levT c5 ([1]++List.replicate 42 0) [1,1,0] 82=83:=⋯
theorem ckQ2:levT c5 [1,1,0] ([1]++List.replicate 42 0) 82=83:=⋯
theorem ckS:levV [64261] [64262] 2=2:=⋯
theorem ckW:coX [0,1] [1,0] 4=4:=⋯
section
variable {f:Int} {t m:List Nat} {W H:Nat} {c a:Nat×Nat}
theorem end_f:endN f=([4]++wdN 0 1 ((mkN f).length - 2,1)++[4]).map (f5 (pL f) (qL f) (hid f)):=by
  unfold endN
  rw[mrk_eq,List.map_append,List.map_append,map_wd];rfl
theorem mrk_f:mrk f=(wdN 0 1 ((mkN f).length - 2,1)).map (f5 (pL f) (qL f) (hid f)):=by rw[mrk_eq,map_wd];rfl
theorem ckG_at (f:Int):ckG ((mkN f).length - 2)=true:=by
  obtain⟨g1,g2⟩:=bA ckG_ok
  exact(Nat.eq_or_lt_of_le (mk_ok f).l3).elim (fun e=>e ▸ g1) fun h=>(Nat.le_antisymm (mk_ok f).l4 h) ▸ g2
theorem qp_f (k:Nat):qpN f k=([1]++List.replicate k 0).map (f5 (pL f) (qL f) (hid f)):=by rw[List.map_append,List.map_replicate];rfl
theorem qq_f:qqN f=[1,1,0].map (f5 (pL f) (qL f) (hid f)):=rfl
theorem sw_ok (x:TX f t m W H):levV m (swN f W m) 4=4:=by
  have f1:=(fr_le f).1
  obtain⟨w,rfl⟩:∃w,W=w+1:=Nat.exists_eq_add_of_le' (Nat.le_trans f1 x.w1)
  obtain⟨h,rfl⟩:∃h,H=h+1:=Nat.exists_eq_add_of_le' (Nat.le_trans f1 x.h1)
  have e1:m=(List.replicate w 0++([0,1]++List.replicate h 1)).map (f5 (pL f) (qL f) (hid f)):=by
    rw[x.me,List.map_append,List.map_append,List.map_replicate,List.map_replicate]
    unfold wdN
    rw[List.replicate_succ',List.replicate_succ,List.append_assoc];rfl
  have t1:m.take w=List.replicate w (pL f):=by
    rw[x.me];unfold wdN
    rw[List.replicate_succ',List.append_assoc,List.take_left' List.length_replicate]
  have t2:m.drop (w+1+1)=List.replicate h (qL f):=by
    rw[x.me];unfold wdN
    show(List.replicate (w+1) (pL f)++([qL f]++List.replicate h (qL f))).drop (w+1+1)=_
    rw[←List.append_assoc,List.drop_left' (by rw[List.length_append,List.length_replicate];rfl)]
  have e2:swN f (w+1) m=(List.replicate w 0++([1,0]++List.replicate h 1)).map (f5 (pL f) (qL f) (hid f)):=by
    unfold swN
    rw[t2,Nat.add_sub_cancel,t1,List.map_append,List.map_append,List.map_replicate,List.map_replicate,List.append_assoc,List.append_assoc];rfl
  rw[e2,e1,lev_f]
  exact(lev_strip (a:=[0,1]) (b:=[1,0]) (List.replicate w 0) (List.replicate h 1) (preP_n rfl) (preP_n rfl)).trans ckW
theorem end_take:(endN f).take ((endN f).length - 1)=[hid f]++mrk f:=by
  unfold endN
  rw[List.length_append]
  exact List.take_left' rfl
theorem js_ok (x:TX f t m W H) (ha:a∈plN (bkN f W H)) (hx:hxI W H a≤(2 * fr f:Nat)):∀r∈js1 f m W H a++js2 f,levV r.1 r.2.1 r.2.2=r.2.2:=by
  have hb:=pl_bd x.bk ha
  have h3:=fr_le f
  obtain⟨k1,k2,_⟩:=(hx_iff hb.1 hb.2).mp hx
  have near {W r x:Nat} (h:W+r - x<2 * r+1) (h3:r≤3):W≤x+3:=by omega
  obtain⟨g1,g⟩:=bA (ckG_at f)
  obtain⟨g2,g3⟩:=bA g
  have mk {r:Row} {l:List Row} (h:levV r.1 r.2.1 r.2.2=r.2.2) (h2:∀x∈l,levV x.1 x.2.1 x.2.2=x.2.2):∀x∈r::l,levV x.1 x.2.1 x.2.2=x.2.2:=List.forall_mem_cons.mpr ⟨h,h2⟩
  refine mk (spelled_ok x hb.1 hb.2 (Int.le_trans hx (Int.ofNat_le.mpr (Nat.mul_le_mul_left 2 h3.2))) (near k1 h3.2) (near k2 h3.2)) (mk (sw_ok x) (mk ?_ (mk ?_ (mk ?_ (mk ckS nofun)))))
  · show levV (endN f) (mrk f) 4=4
    rw[end_f,mrk_f,lev_f];exact eq_of_beq g1
  · show levV ((endN f).drop 1) ((endN f).take ((endN f).length - 1)) 4=4
    rw[end_take,show(endN f).drop 1=mrk f++[hid f]from rfl,mrk_f]
    refine(show _=levV ((wdN 0 1 ((mkN f).length - 2,1)++[4]).map (f5 (pL f) (qL f) (hid f))) (([4]++wdN 0 1 ((mkN f).length - 2,1)).map (f5 (pL f) (qL f) (hid f))) 4 from ?_).trans (lev_f.trans (eq_of_beq g3))
    rw[List.map_append,List.map_append];rfl
  · show levV (qpN f 41) (qqN f) 80=80
    rw[qp_f,qq_f,lev_f];exact ckQ
theorem abv_ok (x:TX f t m W H) (ha:a∈plN (bkN f W H)):∀r∈abv f m W H a,r.2.2<levV r.1 r.2.1 r.2.2:=by
  have hb:=pl_bd x.bk ha
  obtain⟨_,g⟩:=bA (ckG_at f)
  have mk {r:Row} {l:List Row} (h:r.2.2<levV r.1 r.2.1 r.2.2) (h2:∀x∈l,x.2.2<levV x.1 x.2.1 x.2.2):∀x∈r::l,x.2.2<levV x.1 x.2.1 x.2.2:=List.forall_mem_cons.mpr ⟨h,h2⟩
  refine mk (told_ok x hb.1 hb.2).2.2.2 (mk ?_ (mk ?_ (mk ?_ nofun)))
  · show 3<levV (endN f) (mrk f) 3
    rw[end_f,mrk_f,lev_f];exact of_decide_eq_true (bA g).1
  · show 82<levV (qpN f 42) (qqN f) 82
    rw[qp_f,qq_f,lev_f,ckQ1];decide
  · show 82<levV (qqN f) (qpN f 42) 82
    rw[qp_f,qq_f,lev_f,ckQ2];decide
end
section
variable {n:Nat} {ns:List Int}
theorem call_law {N:Nat} {o:Objs}:call G (N+1) "law" [.d (intsD ns)] [] o=(exs (ex G N ⟨F_law.scope,F_law.mv⟩) (F_law.body.drop 0) (S NW (W0 ns) z0 o)).bind fun p=>p.1.val.map fun v=>(v,p.2.objs):=⋯
theorem hlaw (hl:ns.length≤63):Hd (call G 169 "law" [.d (intsD ns)] [] []) fun r=>r.1= .d (.bool true):=by
  obtain⟨W,H,x⟩:=pcs_ok ns (fstI ns)
  obtain⟨a,ha,hT,hU⟩:=perfect x
  obtain⟨b,r,hp⟩:∃b r,plN (bkN (fstI ns) W H)=b::r:=List.exists_cons_of_ne_nil (List.ne_nil_of_mem ha)
  obtain⟨k,k1,k2,k3⟩:=idx_ex ha
  have told (c) (hc:c∈plN (bkN (fstI ns) W H)):=told_ok (c:=c) x (pl_bd x.bk hc).1 (pl_bd x.bk hc).2
  have hF:(plN (bkN (fstI ns) W H)).filter (fun c=>decide (tlN (fstI ns) (pcF ns (fstI ns) 1) c≤(2 * fr (fstI ns):Nat)))=[a]:=fil_one (pl_nodup x.bk.m.1) ha fun c hc=>decide_eq_true_iff.trans ((told c hc).1.trans (hU c hc))
  have hx:=(hU a ha).mpr rfl
  have h0:=call_law (N:=168) (ns:=ns) (o:=[])
  generalize call G 169 "law" [.d (intsD ns)] [] []=y at h0 ⊢
  refine c_call2 h0 ?_
  refine u0 (n:=8) hl ?_
  refine u1 ?_
  refine u3 ?_
  refine u4 ?_
  refine u5 ?_
  refine u6 hl ?_
  refine u7 ?_
  refine u8 ?_
  refine u9 fun c0=>?_
  refine u10 x ?_
  refine u11 x ?_
  refine u12 x ?_
  refine u13 x ?_
  refine u14 x ?_
  refine u15 x hp fun t1=>?_
  refine u16 x ?_
  refine u17 x ?_
  refine u18 x ?_
  refine u19 hT ?_
  refine u20 x fun t2=>?_
  refine u21 x hF ?_
  refine u22 ?_
  refine u23 x (fun c hc=>(told c hc).2.1) (fun c hc=>(told c hc).2.2.1) fun σ t3=>?_
  have E:EN (fstI ns) (pcF ns (fstI ns) 0) (pcF ns (fstI ns) 1) W H a (OO (bkN (fstI ns) W H) c0 (cellP (pcs ns (fstI ns))) t1++t2++[.list ((plN (bkN (fstI ns) W H)).map fun c=> .int (hxI W H c))]++t3) (OO (bkN (fstI ns) W H) c0 (cellP (pcs ns (fstI ns))) t1++t2).length k:=⟨x,((OO_HA x).app.app).app,at_mid,k1,k2,k3⟩
  refine u24 E ?_
  refine u25 E ?_
  refine u26 E ?_
  refine u27 ?_
  refine u28 E ?_
  refine u29 E fun t4=>?_
  refine u30 (js_ok x ha hx) ?_
  refine u31 (abv_ok x ha) ?_
  refine u32 x ?_
  refine u33 E.app fun o2 H2=>?_
  exact u34 E H2 (.of rfl rfl)
end
end L1
end
section
open PySem PySem.W PyProof.Rows Mine H02
set_option maxHeartbeats 8000000 in
theorem PySem.Challenge.cw_tp0058_02_holds : PySem.Challenge.rw_tp0058_02.Holds := by
  w_on
  refine holds_law (by decide+kernel) fun said=>?_
  refine law_holds (q:=qv) (loose:=H02.loose) (Y:=H02.Y) said rfl H02.behind (fun _ _ _ _ _=>trivial) (by rfl) (by rfl) (by rfl) (by decide+kernel) ⟨rfl,rfl,rfl,rfl,rfl,by decide+kernel⟩ ?hw ?call
  case hw=>w_witness2
  case call=>
    intro w s₀ s₁ mg mb G Y a hmg args vs as hpre hlay L low
    have hrd:=L.reads
    have hwl:=L.well
    have hlo:=L.low low
    wrow_args hpre hlay hrd hwl hlo
    rename_i ns hs hlay0 hL1 hr1 hl2 w4 w3 l vals w0 hL ra w1 r0 hI hr hc hc2
    refine V02.top_call (L1.hlaw (ns:=ns) (by omega)) Y L.keeps L.gens G.T.g hmg (by obtain⟨o,ho,hc',n,hd⟩:=hL;cases w1 with |list e _=>exact⟨o,n,ho,hc',hd,by rw[Option.some.inj (ho.symm.trans e)]⟩) hI fun s' hk ho hg=>?fin
    case fin=>
      refine GoodW.toG ⟨.inl ⟨_,.bool true,[],rfl,raisesW_false ?hn,.bool true,?hp,unshared_nil⟩,hk,ho,hg⟩
      case hn=>wrow_none_raised
      case hp=>wrow_post
end
