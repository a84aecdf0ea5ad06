import PyProof.Rows.All
import PyProof.EnumStmt
import PyProof.EnumMake
import PyProof.RangeFor
import PyProof.Rows.Range3
import KE.KCallOwn
import KE.KFromBytes
import KE.KSuper
import Wide.FinOn
import OpenK.AllK
import Wide.All
import PySem.Challenge.RW_wa0042_01
open PySem PySem.W PyProof.Rows
set_option Elab.async false
set_option maxRecDepth 100000
namespace Mine.Internal
section
variable {β:Type}{r:β}
theorem nos {C:Prop}(h:none=some r):C:=nomatch h
noncomputable def grd (c:Prop) [Decidable c] (x:Option β):Option β:=if c then x else none
theorem ite_some {c:Prop} [Decidable c] {x y:Option β}(h:(if c then x else y)=some r):(c∧x=some r)∨(¬ c∧y=some r):=by
 split at h
 ·exact .inl ⟨‹_›,h⟩
 ·exact .inr ⟨‹_›,h⟩
theorem grd_some {c:Prop} [Decidable c] {x:Option β}(h:grd c x=some r):c∧x=some r:=
 (ite_some h).elim id fun h=>nomatch h.2
theorem ifn_some {c:Prop} [Decidable c] {x:Option β}(h:(if c then none else x)=some r):¬ c∧x=some r:=
 (ite_some h).elim (fun h=>nomatch h.2) id
theorem grd_el {C:Prop}{c:Prop} [Decidable c] {x:Option β}(h:grd c x=some r)(q:c→x=some r→C):C:=q (grd_some h).1 (grd_some h).2
noncomputable def opt {α:Type}(o:Option α)(f:α→Option β):Option β:=match o with
 | some a=>f a
 | none=>none
theorem opt_some {α:Type}{o:Option α}{f:α→Option β}(h:opt o f=some r):∃ a,o=some a∧f a=some r:=by
 cases o with
 | none=>cases h
 | some a=>exact⟨a,rfl,h⟩
theorem opt_el {C:Prop}{α:Type}{o:Option α}{f:α→Option β}(h:opt o f=some r)(q:∀ a,o=some a→f a=some r→C):C:=by
 cases o with
 | none=>exact nos h
 | some a=>exact q a rfl h
end
noncomputable def optB {α β:Type}(o:Option α)(b:β)(f:α→β):β:=match o with
 | some a=>f a
 | none=>b
theorem optB_t {α:Type}{o:Option α}{f:α→Bool}(h:optB o false f=true):∃ a,o=some a∧f a=true:=by
 cases o with
 | some a=>exact⟨a,rfl,h⟩
 | none=>exact Bool.noConfusion h
section
variable {α:Type}{M:Model}{A:Around}{E:Value→Shared→Prop}{s:Shared}{c:Prop} [Decidable c] {a b:Sem α}{Q:α→Shared→Prop}
theorem if_t (hc:c)(h:wpAny M A a Q E s):wpAny M A (if c then a else b) Q E s:=by rw[if_pos hc]; exact h
theorem if_f (hc:¬ c)(h:wpAny M A b Q E s):wpAny M A (if c then a else b) Q E s:=by rw[if_neg hc]; exact h
end
noncomputable def kget:List (Nat×Obj)→Nat→Option Obj
 | [],_=>none
 | p::l,b=>match Nat.beq p.1 b with
  | true=>some p.2
  | false=>kget l b
noncomputable def kset:List (Nat×Obj)→Nat→Obj→List (Nat×Obj)
 | [],_,_=>[]
 | p::l,b,o=>match Nat.beq p.1 b with
  | true=>(b,o)::l
  | false=>p::kset l b o
theorem beq_dec (a b:Nat):Nat.beq a b=decide (a=b):=BT.beq_eq a b
theorem kget_cons (p:Nat×Obj)(l:List (Nat×Obj))(b:Nat):kget (p::l) b=if p.1=b then some p.2 else kget l b:=by
 show (match Nat.beq p.1 b with | true=>some p.2 | false=>kget l b)=_
 rw[beq_dec]
 by_cases h:p.1=b <;> simp[h]
theorem kget_kset (a:Nat)(o:Obj):∀ (l:List (Nat×Obj)) (b:Nat),kget (kset l a o) b=if a=b then (kget l a).map (fun _=>o) else kget l b
 | [],b=>by simp[kset,kget]
 | p::l,b=>by
  have e:kset (p::l) a o=if p.1=a then (a,o)::l else p::kset l a o:=by
   show (match Nat.beq p.1 a with | true=>(a,o)::l | false=>p::kset l a o)=_
   rw[beq_dec]
   by_cases h:p.1=a <;> simp[h]
  rw[e]
  by_cases h:p.1=a
  ·subst h
   rw[if_pos rfl,kget_cons,kget_cons,kget_cons]
   by_cases q:p.1=b <;> simp[q]
  ·rw[if_neg h,kget_cons,kget_cons,kget_cons,kget_kset a o l b]
   by_cases q:a=b
   ·subst q; simp[h]
   ·by_cases r:p.1=b <;> simp[q,r]
structure KS where
 kn:List (Nat×Obj)
 n:Nat
 t:Nat
structure KOk (k:KS) (s:Shared):Prop where
 size:s.heap.objs.size=k.n
 toks:s.toks=k.t
 kn:∀ a o,kget k.kn a=some o→s.heap.get? a=some o
structure KFr (k:KS) (s s':Shared):Prop where
 gens:s'.gens=s.gens
 drawn:s'.drawn=s.drawn
 os:s'.os=s.os
 keep:∀ b o,kget k.kn b=none→s.heap.get? b=some o→s'.heap.get? b=some o
theorem KFr.refl (k:KS)(s:Shared):KFr k s s:=⟨rfl,rfl,rfl,fun _ _ _ e=>e⟩
noncomputable def quietF (c:Code):Bool:=
 !((PySem.W.Fast.tw15578638425004381011 ⟨.pure (.again c),c,default,[]⟩&&!PySem.W.Fast.tw8446751554062831747 ⟨.pure (.again c),c,default,[]⟩) || PySem.W.Fast.tw6516510885911402389 ⟨.pure (.again c),c,default,[]⟩)
theorem quietF_eq (c:Code):quietF c=c.quiet:=by
 unfold quietF Code.quiet Thread.loud
 rw[← PySem.W.Fast.te15578638425004381011,← PySem.W.Fast.te8446751554062831747,← PySem.W.Fast.te6516510885911402389]
noncomputable def stopIf {β:Type}(b:Bool)(x:Option β):Option β:=match b with
 | true=>none
 | false=>x
noncomputable def goIf {β:Type}(b:Bool)(x:Option β):Option β:=match b with
 | true=>x
 | false=>none
section
variable (den:Code→Sem Fin)(prog:Program)(P:Params)
noncomputable abbrev BsTy:=(α:Type)→Ctx→Pos→KS→Sem α→Option (Except Value α×Pos×KS)
noncomputable def bsCode (ih:BsTy):Nat→Ctx→Pos→KS→Option (Result×KS)
 | 0,_,_,_=>none
 | m+1,Γ,p,S=>opt (ih Fin Γ p S (den Γ.code)) fun x=>match x.1 with
   | .ok fin=>match fin with
    | .done f=>some (.ok f,x.2.2)
    | .again c=>goIf (quietF c) (bsCode ih m (Γ.goto c) x.2.1 x.2.2)
   | .error e=>some (.error e,x.2.2)
noncomputable def bsStep (fuel:Nat)(ih:BsTy):BsTy:=fun α Γ p S t=>match S with
 | ⟨kn,n,tk⟩=>match t with
  | .pure a=>some (.ok a,p,⟨kn,n,tk⟩)
  | .raise e=>some (.error e,p,⟨kn,n,tk⟩)
  | .rule _ k=>ih α Γ p ⟨kn,n,tk⟩ (k ())
  | .at p' k=>ih α Γ p' ⟨kn,n,tk⟩ (k ())
  | .point _ k=>ih α Γ p ⟨kn,n,tk⟩ (k ())
  | .load a _ k=>opt (kget kn a) fun o=>ih α Γ p ⟨kn,n,tk⟩ (k o)
  | .loadIfAlive a k=>opt (kget kn a) fun o=>ih α Γ p ⟨kn,n,tk⟩ (k (some o))
  | .update a _ f k=>opt (kget kn a) fun o=>stopIf (f o).isFreed (ih α Γ p ⟨kset kn a (f o),n,tk⟩ (k ()))
  | .alloc o k=>stopIf o.isFreed (ih α Γ p ⟨(n,o)::kn,n+1,tk⟩ (k n))
  | .fresh k=>ih α Γ p ⟨kn,n,tk+1⟩ (k tk)
  | .ask k=>ih α Γ p ⟨kn,n,tk⟩ (k ⟨prog,P⟩)
  | .handled own k=>ih α Γ p ⟨kn,n,tk⟩ (k (if own then Γ.own else Γ.handled))
  | .stack k=>ih α Γ p ⟨kn,n,tk⟩ (k ((Γ.code,p)::Γ.below))
  | .call c h _ _ k=>opt (bsCode den ih fuel (Γ.enter c h p) p ⟨kn,n,tk⟩) fun x=>ih α Γ p x.2 (k x.1)
  | _=>none
noncomputable def bs:Nat→BsTy
 | 0=>fun _ _ _ _ _=>none
 | n+1=>bsStep den prog P n (bs n)
end
theorem KOk.step_alloc {k:KS}{s:Shared}(K:KOk k s){o:Obj}(ho:o.isFreed=false):KOk ⟨(k.n,o)::k.kn,k.n+1,k.t⟩ { s with heap:=s.heap.push o }:=by
 refine⟨by show (s.heap.push o).objs.size=_; rw[Heap.size_push,K.size],K.toks,fun a o' e=>?_⟩
 dsimp only at e
 rw[kget_cons] at e
 by_cases h:k.n=a
 ·rw[if_pos h] at e; cases e
  have:s.heap.objs.size=a:=K.size.trans h
  subst this
  exact Heap.get?_push_size _ ho
 ·rw[if_neg h] at e
  exact Heap.get?_push_of_some _ (K.kn a o' e)
theorem KFr.step_alloc {k:KS}{s s':Shared}(K:KOk k s){o:Obj}(F:KFr ⟨(k.n,o)::k.kn,k.n+1,k.t⟩ { s with heap:=s.heap.push o } s'):KFr k s s':=by
 refine⟨F.gens,F.drawn,F.os,fun b o' e h=>F.keep b o' ?_ (Heap.get?_push_of_some _ h)⟩
 have hb:b < k.n:=K.size▸Heap.lt_size h
 show kget ((k.n,o)::k.kn) b=none
 rw[kget_cons,if_neg (by show ¬ k.n=b; lia)]
 exact e
theorem KOk.step_update {k:KS}{s:Shared}(K:KOk k s){a:Nat}{o:Obj}{f:Obj→Obj}(h:kget k.kn a=some o)(hf:(f o).isFreed=false):KOk ⟨kset k.kn a (f o),k.n,k.t⟩ { s with heap:=s.heap.update a f }:=by
 refine⟨by show (s.heap.update a f).objs.size=_; rw[Heap.size_after_update,K.size],K.toks,fun b o' e=>?_⟩
 dsimp only at e
 rw[kget_kset] at e
 by_cases hb:a=b
 ·subst hb
  rw[if_pos rfl,h] at e
  cases e
  exact Heap.get?_update_self f (K.kn _ _ h) hf
 ·rw[if_neg hb] at e
  exact (Heap.get?_update_other _ f hb).trans (K.kn b o' e)
theorem KFr.step_update {k:KS}{s s':Shared}{a:Nat}{o:Obj}{f:Obj→Obj}(h:kget k.kn a=some o)(F:KFr ⟨kset k.kn a (f o),k.n,k.t⟩ { s with heap:=s.heap.update a f } s'):KFr k s s':=by
 refine⟨F.gens,F.drawn,F.os,fun b o' e hb=>?_⟩
 have hab:a≠b:=by rintro rfl; rw[h] at e; cases e
 refine F.keep b o' ?_ ((Heap.get?_update_other _ f hab).trans hb)
 show kget (kset k.kn a (f o)) b=none
 rw[kget_kset,if_neg hab]
 exact e
theorem KFr.trans {k k':KS}{s s' s'':Shared}(hk:∀ b,b < k.n→kget k.kn b=none→kget k'.kn b=none)(K:KOk k s)(F:KFr k s s')(G:KFr k' s' s''):KFr k s s'':=
 ⟨G.gens.trans F.gens,G.drawn.trans F.drawn,G.os.trans F.os,fun b o e h=>G.keep b o (hk b (K.size▸Heap.lt_size h) e) (F.keep b o e h)⟩
noncomputable def KMono (S S':KS):Prop:=(∀ b,b < S.n→kget S.kn b=none→kget S'.kn b=none)∧S.n≤S'.n
theorem KMono.refl (S:KS):KMono S S:=⟨fun _ _ e=>e,Nat.le_refl _⟩
theorem KMono.trans {S T U:KS}(h:KMono S T)(g:KMono T U):KMono S U:=⟨fun b hb e=>g.1 b (Nat.lt_of_lt_of_le hb h.2) (h.1 b hb e),Nat.le_trans h.2 g.2⟩
section
variable {M:Model}
noncomputable def Post {α:Type}(r:Except Value α)(Q:α→Pos→Shared→Prop)(E:Value→Pos→Shared→Prop)(p':Pos)(s':Shared):Prop:=match r with | .ok a=>Q a p' s' | .error e=>E e p' s'
structure BsOut (M:Model) {α:Type} (Γ:Ctx) (p:Pos) (S S':KS) (t:Sem α) (r:Except Value α) (p':Pos):Prop where
 mono:KMono S S'
 run:∀ (s:Shared) (Q:α→Pos→Shared→Prop) (E:Value→Pos→Shared→Prop),KOk S s→(∀ s',KOk S' s'→KFr S s s'→Post r Q E p' s')→Sem.wp M Γ t Q E p s
structure BcOut (M:Model) (Γ:Ctx) (p:Pos) (S S':KS) (r:Result):Prop where
 mono:KMono S S'
 run:∀ (s:Shared) (R:Result→Shared→Prop),KOk S s→(∀ s',KOk S' s'→KFr S s s'→R r s')→wpCode M Γ R p s
noncomputable def BsGood (M:Model)(ih:BsTy):Prop:=∀ {α:Type} {Γ:Ctx} {p:Pos} {S S':KS} {t:Sem α} {r:Except Value α} {p':Pos},ih α Γ p S t=some (r,p',S')→BsOut M Γ p S S' t r p'
theorem goIf_some {β:Type}{b:Bool}{x:Option β}{r:β}(h:goIf b x=some r):b=true∧x=some r:=by
 cases b with
 | true=>exact⟨rfl,h⟩
 | false=>cases h
theorem stopIf_some {β:Type}{b:Bool}{x:Option β}{r:β}(h:stopIf b x=some r):b=false∧x=some r:=by
 cases b with
 | true=>cases h
 | false=>exact⟨rfl,h⟩
section
variable {α:Type}{Γ:Ctx}{p p':Pos}{S S' S₁:KS}{r:Except Value α}
theorem bc_again {c:Code}{q:Pos}{r:Result}(hq:quietF c=true)(h:BsOut M Γ p S S₁ (M.den Γ.code) (.ok (.again c)) q)(g:BcOut M (Γ.goto c) q S₁ S' r):BcOut M Γ p S S' r:=
 ⟨h.mono.trans g.mono,fun s R K hR=>(wpCode_iff_wp ..).mpr (h.run s _ _ K fun s' K' F=>⟨(quietF_eq _).symm.trans hq,g.run s' R K' fun s'' K'' F'=>hR s'' K'' (F.trans h.mono.1 K F')⟩)⟩
theorem bc_done {f:Flow}{q:Pos}(h:BsOut M Γ p S S' (M.den Γ.code) (.ok (.done f)) q):BcOut M Γ p S S' (.ok f):=
 ⟨h.mono,fun s R K hR=>(wpCode_iff_wp ..).mpr (h.run s _ _ K fun s' K' F=>hR s' K' F)⟩
theorem bc_err {e:Value}{q:Pos}(h:BsOut M Γ p S S' (M.den Γ.code) (.error e) q):BcOut M Γ p S S' (.error e):=
 ⟨h.mono,fun s R K hR=>(wpCode_iff_wp ..).mpr (h.run s _ _ K fun s' K' F=>hR s' K' F)⟩
theorem bsCode_good {ih:BsTy}(H:BsGood M ih):∀ (m:Nat) {Γ:Ctx} {p:Pos} {S S':KS} {r:Result},bsCode M.den ih m Γ p S=some (r,S')→BcOut M Γ p S S' r
 | 0,_,_,_,_,_,h=>nos h
 | m+1,Γ,p,S,S',r,h=>by
  obtain⟨⟨r₁,q,S₁⟩,e,h⟩:=opt_some h
  have g:=H e
  cases r₁ with
  | error x=>
   obtain⟨e1,e2⟩:=Prod.mk.inj (Option.some.inj h)
   subst e1 e2
   exact bc_err g
  | ok fin=>cases fin with
   | done f=>
    obtain⟨e1,e2⟩:=Prod.mk.inj (Option.some.inj h)
    subst e1 e2
    exact bc_done g
   | again c=>
    obtain⟨hq,h⟩:=goIf_some h
    exact bc_again hq g (bsCode_good H m h)
theorem bs_load {a:Nat}{o:Obj}{part:Option Value}{k:Obj→Sem α}(e:kget S.kn a=some o)(h:BsOut M Γ p S S' (k o) r p'):BsOut M Γ p S S' (.load a part k) r p':=
 ⟨h.mono,fun s Q E K hR=>⟨o,K.kn a o e,h.run s Q E K hR⟩⟩
theorem bs_alive {a:Nat}{o:Obj}{k:Option Obj→Sem α}(e:kget S.kn a=some o)(h:BsOut M Γ p S S' (k (some o)) r p'):BsOut M Γ p S S' (.loadIfAlive a k) r p':=
 ⟨h.mono,fun s Q E K hR=>by
  show Sem.wp M Γ (k (s.heap.get? a)) Q E p s
  rw[K.kn a o e]
  exact h.run s Q E K hR⟩
theorem bs_update {a:Nat}{o:Obj}{part:Option Value}{f:Obj→Obj}{k:Unit→Sem α}(e:kget S.kn a=some o)(hf:(f o).isFreed=false)(h:BsOut M Γ p ⟨kset S.kn a (f o),S.n,S.t⟩ S' (k ()) r p'):BsOut M Γ p S S' (.update a part f k) r p':=by
 refine⟨⟨fun b hb eb=>h.mono.1 b hb ?_,h.mono.2⟩,fun s Q E K hR=>⟨?_,h.run _ Q E (K.step_update e hf) fun s' K' F=>hR s' K' (F.step_update e)⟩⟩
 ·show kget (kset S.kn a (f o)) b=none
  rw[kget_kset,if_neg (fun e'=>by subst e'; exact nos (eb.symm.trans e))]
  exact eb
 ·rw[K.kn a o e]; rfl
theorem bs_alloc {o:Obj}{k:Addr→Sem α}(hf:o.isFreed=false)(h:BsOut M Γ p ⟨(S.n,o)::S.kn,S.n+1,S.t⟩ S' (k S.n) r p'):BsOut M Γ p S S' (.alloc o k) r p':=by
 refine⟨⟨fun b hb eb=>h.mono.1 b (Nat.lt_succ_of_lt hb) ?_,Nat.le_of_succ_le h.mono.2⟩,fun s Q E K hR=>?_⟩
 ·show kget ((S.n,o)::S.kn) b=none
  rw[kget_cons,if_neg fun e:S.n=b=>Nat.lt_irrefl b (e▸hb)]
  exact eb
 ·show Sem.wp M Γ (k s.heap.objs.size) Q E p _
  rw[K.size]
  exact h.run _ Q E (K.step_alloc hf) fun s' K' F=>hR s' K' (F.step_alloc K)
theorem bs_fresh {k:Nat→Sem α}(h:BsOut M Γ p ⟨S.kn,S.n,S.t+1⟩ S' (k S.t) r p'):BsOut M Γ p S S' (.fresh k) r p':=by
 refine⟨h.mono,fun s Q E K hR=>?_⟩
 show Sem.wp M Γ (k s.toks) Q E p _
 rw[K.toks]
 exact h.run _ Q E ⟨K.size,rfl,K.kn⟩ fun s' K' F=>hR s' K' ⟨F.gens,F.drawn,F.os,F.keep⟩
theorem bs_call {c:Code}{hd g l}{k:Result→Sem α}{r₁:Result}(g₁:BcOut M (Γ.enter c hd p) p S S₁ r₁)(h:BsOut M Γ p S₁ S' (k r₁) r p'):BsOut M Γ p S S' (.call c hd g l k) r p':=
 ⟨g₁.mono.trans h.mono,fun s Q E K hR=>g₁.run s _ K fun s' K' F=>h.run s' Q E K' fun s'' K'' F'=>hR s'' K'' (F.trans g₁.mono.1 K F')⟩
end
theorem bsStep_good {ih:BsTy}(H:BsGood M ih)(fuel:Nat):BsGood M (bsStep M.den M.prog M.w.params fuel ih):=by
 intro α Γ p S S' t r p' h
 obtain⟨kn,n,tk⟩:=S
 cases t with
 | pure a=>obtain⟨rfl,e⟩:=Prod.mk.inj (Option.some.inj h); obtain⟨rfl,rfl⟩:=Prod.mk.inj e; exact⟨.refl _,fun s Q E K hR=>hR s K (KFr.refl _ _)⟩
 | raise e=>obtain⟨rfl,e⟩:=Prod.mk.inj (Option.some.inj h); obtain⟨rfl,rfl⟩:=Prod.mk.inj e; exact⟨.refl _,fun s Q E K hR=>hR s K (KFr.refl _ _)⟩
 | rule _ k=>have g:=H (t:=k ()) h; exact⟨g.mono,g.run⟩
 | «at» q k=>have g:=H (t:=k ()) h; exact⟨g.mono,g.run⟩
 | point _ k=>have g:=H (t:=k ()) h; exact⟨g.mono,g.run⟩
 | load a part k=>obtain⟨o,e,h⟩:=opt_some h; exact bs_load e (H h)
 | loadIfAlive a k=>obtain⟨o,e,h⟩:=opt_some h; exact bs_alive e (H h)
 | update a part f k=>obtain⟨o,e,h⟩:=opt_some h; obtain⟨hf,h⟩:=stopIf_some h; exact bs_update e hf (H h)
 | alloc o k=>obtain⟨hf,h⟩:=stopIf_some h; exact bs_alloc hf (H h)
 | fresh k=>exact bs_fresh (H h)
 | ask k=>have g:=H (t:=k ⟨M.prog,M.w.params⟩) h; exact⟨g.mono,g.run⟩
 | handled own k=>have g:=H (t:=k (if own then Γ.own else Γ.handled)) h; exact⟨g.mono,g.run⟩
 | stack k=>have g:=H (t:=k ((Γ.code,p)::Γ.below)) h; exact⟨g.mono,g.run⟩
 | call c hd g l k=>obtain⟨⟨r₁,S₁⟩,e,h⟩:=opt_some h; exact bs_call (bsCode_good H _ e) (H h)
 | _=>exact nos h
theorem bs_good (M:Model):∀ n,BsGood M (bs M.den M.prog M.w.params n)
 | 0=>fun h=>nos h
 | n+1=>bsStep_good (bs_good M n) n
end
noncomputable def IDict (h:Heap)(d:Addr)(es:Array DictEntry):Prop:=∃ o ep,h.get? d=some o∧o.ExactDict∧o.data= .dict es ep
theorem IDict.keep {h h':Heap}{d:Addr}{es:Array DictEntry}(x:IDict h d es)(k:∀ o,h.get? d=some o→h'.get? d=some o):IDict h' d es:=
 let ⟨o,ep,e,r⟩:=x; ⟨o,ep,k o e,r⟩
noncomputable def isEnt (p:Int×Str)(e:DictEntry):Prop:=∃ t u,e=⟨hashInt p.1,.int p.1 t,.str p.2 u⟩
theorem ents_keys {ps:List (Int×Str)}{l:List DictEntry}(x:Paired isEnt ps l):∀ e∈l,∃ k t,e.key= .int k t∧e.hash=hashInt k:=by
 induction x with
 | nil=>intro e h; cases h
 | cons h _ ih=>
  intro e he
  rcases List.mem_cons.mp he with rfl | he
  ·obtain⟨t,u,rfl⟩:=h; exact⟨_,_,rfl,rfl⟩
  ·exact ih e he
theorem ents_fresh {ps:List (Int×Str)}{l:List DictEntry}{k:Int}(x:Paired isEnt ps l)(hk:k∉ps.map Prod.fst):∀ e∈l,Value.isInt k e.key=false:=by
 induction x with
 | nil=>intro e h; cases h
 | cons h _ ih=>
  intro e he
  rw[List.map_cons,List.mem_cons,not_or] at hk
  rcases List.mem_cons.mp he with rfl | he
  ·obtain⟨t,u,rfl⟩:=h
   show (_==k)=false
   exact beq_eq_false_iff_ne.mpr (Ne.symm hk.1)
  ·exact ih hk.2 e he
theorem Paired.app {α β:Type}{F:α→β→Prop}{a b:List α}{c d:List β}(x:Paired F a c)(y:Paired F b d):Paired F (a++b) (c++d):=by
 induction x with
 | nil=>exact y
 | cons h _ ih=>exact .cons h ih
theorem Paired.at {α β:Type}{F:α→β→Prop}{a:List α}{b:List β}(x:Paired F a b):∀ (i:Nat) (h:i < b.length),∃ q,a[i]?=some q∧F q b[i]:=by
 induction x with
 | nil=>intro i h; cases h
 | @cons p q l m hpq _ ih=>
  intro i h
  cases i with
  | zero=>exact⟨p,rfl,hpq⟩
  | succ i=>exact ih i (Nat.lt_of_succ_lt_succ h)
section
variable {prog:Program}{w:World}{A:Around}{E:Value→Shared→Prop}{s:Shared}
theorem dictFind_fresh {d:Addr}{es:Array DictEntry}{ps:List (Int×Str)}{k:Int}{t:Tok}{Q:Option Nat→Shared→Prop}(hm:IDict s.heap d es)(he:Paired isEnt ps es.toList)(hk:k∉ps.map Prod.fst)
  (h:Q none s):wpAny (model prog w) A (dictFind d (.int k t) (hashInt k)) Q E s:=by
 obtain⟨o,ep,ho,hc,hd⟩:=hm
 refine wpAny_dictFind_int ho hd (fun e hm=>ents_keys he e (Array.mem_toList_iff.mpr hm)) ?_
 rw[Array.findIdx?_eq_none_iff.mpr fun e hm=>ents_fresh he hk e (Array.mem_toList_iff.mpr hm)]
 exact h
theorem push_new {d:Addr}{es:Array DictEntry}{ps:List (Int×Str)}{p:Int×Str}{part:Option Value}{t u:Tok}{Q:Unit→Shared→Prop}(hm:IDict s.heap d es)(he:Paired isEnt ps es.toList)(hz:ps.length≤100000)
  (h:∀ h',IDict h' d (es.push ⟨hashInt p.1,.int p.1 t,.str p.2 u⟩)→Paired isEnt (ps++[p]) (es.push ⟨hashInt p.1,.int p.1 t,.str p.2 u⟩).toList→Heap.SameBut d s.heap h'→Q () { s with heap:=h' }):
  wpAny (model prog w) A (updateDictKeys d (·.push ⟨hashInt p.1,.int p.1 t,.str p.2 u⟩) part) Q E s:=by
 obtain⟨o,ep,ho,hc,hd⟩:=hm
 have hl:es.size=ps.length:=by rw[← Array.length_toList,he.length]
 refine wpAny_updateDictKeys (hz:=by rw[hl]; exact Nat.le_trans hz (by decide)) ho hd (h _ ⟨_,ep+1,Heap.get?_update_self _ ho (Obj.isFreed_of_dict (Obj.data_mapDictKeys hd _)),hc.mapDictKeys _,Obj.data_mapDictKeys hd _⟩ ?_ (Heap.SameBut.update ..))
 rw[Array.toList_push]
 exact Paired.app he (.cons ⟨t,u,rfl⟩ .nil)
theorem dictSet_fresh {d:Addr}{es:Array DictEntry}{ps:List (Int×Str)}{p:Int×Str}{t u:Tok}{Q:Unit→Shared→Prop}(hm:IDict s.heap d es)(he:Paired isEnt ps es.toList)(hk:p.1∉ps.map Prod.fst)(hz:ps.length≤100000)
  (h:∀ h' tk es',IDict h' d es'→Paired isEnt (ps++[p]) es'.toList→Heap.SameBut d s.heap h'→Q () { s with heap:=h',toks:=tk }):
  wpAny (model prog w) A (dictSet d (.int p.1 t) (.str p.2 u)) Q E s:=by
 unfold dictSet
 try with_reducible refine wpAny_holding ?_
 refine wpAny_bind (wpAny_pyHash_int ?_)
 unfold dictSetHashed
 try with_reducible refine wpAny_holding ?_
 refine wpAny_bind (dictFind_fresh (s:={ s with toks:=s.toks+1 }) hm he hk ?_)
 exact wpAny_bind (wpAny_rule (push_new (s:={ s with toks:=s.toks+1 }) hm he hz fun h' a b c=>h h' _ _ a b c))
noncomputable def Gives (p:Int×Str)(x:Sem Value×Sem Value):Prop:=
 (∀ (M:Model) (A:Around) (E:Value→Shared→Prop) (s:Shared) (Q:Value→Shared→Prop),(∀ t tk,Q (.int p.1 t) { s with toks:=tk })→wpAny M A x.1 Q E s)∧
 (∀ (M:Model) (A:Around) (E:Value→Shared→Prop) (s:Shared) (Q:Value→Shared→Prop),(∀ t tk,Q (.str p.2 t) { s with toks:=tk })→wpAny M A x.2 Q E s)
theorem evalPairs_gives:∀ {ps:List (Int×Str)} {pairs:List (Sem Value×Sem Value)} (_:Paired Gives ps pairs) (s:Shared) (Q:List (Value×Value)→Shared→Prop)
  (_:∀ vs tk,Paired (fun (p:Int×Str) (v:Value×Value)=>∃ t u,v=(.int p.1 t,.str p.2 u)) ps vs→Q vs { s with toks:=tk }),wpAny (model prog w) A (evalPairs pairs) Q E s:=by
 intro ps pairs hg
 induction hg with
 | nil=>intro s Q hQ; unfold evalPairs; exact wpAny_pure (hQ [] s.toks .nil)
 | cons h _ ih=>
  intro s Q hQ
  unfold evalPairs
  refine wpAny_bind (h.1 _ _ _ _ _ fun t tk=>?_)
  refine wpAny_bind (wpAny_holding (h.2 _ _ _ _ _ fun u tk'=>?_))
  refine wpAny_bind (wpAny_holding (ih _ _ fun vs tk'' hv=>?_))
  exact wpAny_pure (hQ _ _ (.cons ⟨t,u,rfl⟩ hv))
noncomputable def SI (s:Shared)(ps todo:List (Int×Str))(s':Shared):Prop:=∃ h' tk es done,s'={ s with heap:=h',toks:=tk }∧ps=done++todo∧IDict h' s.heap.objs.size es∧Paired isEnt done es.toList∧h'.objs.size=s.heap.objs.size+1∧∀ b o,s.heap.get? b=some o→h'.get? b=some o
theorem SI.tok {ps todo:List (Int×Str)}{s':Shared}(I:SI s ps todo s')(tk:Nat):SI s ps todo { s' with toks:=tk }:=by
 obtain⟨h',t,es,done,rfl,r⟩:=I
 exact⟨h',tk,es,done,rfl,r⟩
theorem nodup_at {ps done todo:List (Int×Str)}{p:Int×Str}(hnd:(ps.map Prod.fst).Nodup)(e:ps=done++p::todo):p.1∉done.map Prod.fst:=fun hm=>by
 rw[e,List.map_append,List.nodup_append] at hnd
 exact hnd.2.2 _ hm _ List.mem_cons_self rfl
theorem SI.turn {ps todo:List (Int×Str)}{p:Int×Str}{s':Shared}{t u:Tok}{Q:Unit→Shared→Prop}(hnd:(ps.map Prod.fst).Nodup)(hz:ps.length≤100000)(I:SI s ps (p::todo) s')(q:∀ s'',SI s ps todo s''→Q () s''):
  wpAny (model prog w) A (dictSet s.heap.objs.size (.int p.1 t) (.str p.2 u)) Q E s':=by
 obtain⟨h',tk,es,done,rfl,hps,hI,hE,hs,hk⟩:=I
 have hz':done.length≤100000:=by
  rw[hps,List.length_append] at hz
  exact Nat.le_trans (Nat.le_add_right _ _) hz
 refine dictSet_fresh (s:={ s with heap:=h',toks:=tk }) hI hE (nodup_at hnd hps) hz' fun h'' tk'' es' hI' hE' hsb=>q _ ⟨h'',tk'',es',_,rfl,?_,hI',hE',hsb.1.trans hs,fun b o hb=>(hsb.2 b (Nat.ne_of_lt (Heap.lt_size hb))).trans (hk b o hb)⟩
 rw[hps,List.append_assoc]
 rfl
noncomputable abbrev IsPair (p:Int×Str)(v:Value×Value):Prop:=∃ t u,v=(.int p.1 t,.str p.2 u)
theorem subDict_gives {ps:List (Int×Str)}{pairs:List (Sem Value×Sem Value)}{Q:Addr→Shared→Prop}(hg:Paired Gives ps pairs)(hnd:(ps.map Prod.fst).Nodup)(hz:ps.length≤100000)
  (hQ:∀ h' tk es,IDict h' s.heap.objs.size es→Paired isEnt ps es.toList→h'.objs.size=s.heap.objs.size+1→(∀ b o,s.heap.get? b=some o→h'.get? b=some o)→Q s.heap.objs.size { s with heap:=h',toks:=tk }):
  wpAny (model prog w) A (subDict pairs) Q E s:=by
 unfold subDict
 refine wpAny_bind (wpAny_alloc ?_)
 refine wpAny_bind (wpAny_holding ?_)
 have I0:SI s ps ps { s with heap:=s.heap.push { cls:= .type "dict",data:= .dict #[] } }:=⟨_,s.toks,#[],[],rfl,rfl,⟨_,0,Heap.get?_push_size _ rfl,⟨rfl,rfl,rfl⟩,rfl⟩,.nil,Heap.size_push ..,fun b o hb=>Heap.get?_push_of_some _ hb⟩
 have fin:∀ s',SI s ps [] s'→Q s.heap.objs.size s':=fun s' I=>by
  obtain⟨h',tk,es,done,rfl,hps,hI,hE,hs,hk⟩:=I
  rw[List.append_nil] at hps
  exact hQ h' tk es hI (hps▸hE) hs hk
 refine wpAny_ite ?_
 split
 ·refine wpAny_bind (evalPairs_gives hg _ _ fun vs tk hv=>?_)
  refine wpAny_holding (wpAny_bind ?_)
  refine wpAny_forIn_list _ (fun rest _ s'=>∃ todo,Paired IsPair todo rest∧SI s ps todo s') _ ?_ ?_ _ _ ⟨ps,hv,I0.tok tk⟩
  ·intro x rest b s' h
   obtain⟨todo,hr,I⟩:=h
   cases hr with
   | cons hx hr=>
    obtain⟨t,u,rfl⟩:=hx
    exact wpAny_bind (I.turn hnd hz fun s'' I'=>wpAny_pure ⟨_,hr,I'⟩)
  ·intro b s' h
   obtain⟨todo,hr,I⟩:=h
   cases hr
   exact wpAny_pure (wpAny_pure (fin s' I))
 ·refine wpAny_bind (wpAny_rule (wpAny_bind ?_))
  refine wpAny_forIn_list _ (fun rest _ s'=>∃ todo,Paired Gives todo rest∧SI s ps todo s') _ ?_ ?_ _ _ ⟨ps,hg,I0⟩
  ·intro x rest b s' h
   obtain⟨todo,hr,I⟩:=h
   cases hr with
   | cons hx hr=>
    exact wpAny_bind (hx.1 _ _ _ _ _ fun t tk₁=>wpAny_bind (wpAny_holding (hx.2 _ _ _ _ _ fun u tk₂=>wpAny_bind (wpAny_holding ((I.tok tk₂).turn hnd hz fun s'' I'=>wpAny_pure ⟨_,hr,I'⟩)))))
  ·intro b s' h
   obtain⟨todo,hr,I⟩:=h
   cases hr
   exact wpAny_pure (wpAny_pure (fin s' I))
noncomputable def MI (d:Addr)(s:Shared)(n:Nat)(ps qs:List (Int×Str))(rest:List Nat)(s':Shared):Prop:=∃ h' es' i,s'={ s with heap:=h' }∧i≤n∧rest=List.range' i (n - i)∧IDict h' d es'∧Paired isEnt (ps++qs.take i) es'.toList∧Heap.SameBut d s.heap h'
theorem range_cons {i n x:Nat}{rest:List Nat}(hi:i≤n)(h:x::rest=List.range' i (n - i)):x=i∧i < n∧rest=List.range' (i+1) (n - (i+1)):=by
 rcases Nat.lt_or_ge i n with hlt | hge
 ·obtain⟨k,hk⟩:∃ k,n - i=k+1:=Nat.exists_eq_succ_of_ne_zero (Nat.sub_ne_zero_of_lt hlt)
  rw[hk,List.range'_succ] at h
  obtain⟨h1,h2⟩:=List.cons.inj h
  exact⟨h1,hlt,by rw[h2,Nat.sub_add_eq,hk]; rfl⟩
 ·rw[Nat.sub_eq_zero_of_le hge,List.range'_zero] at h; cases h
theorem MI.turn {d:Addr}{n:Nat}{ps qs:List (Int×Str)}{x:Nat}{rest:List Nat}{s':Shared}(hn:n=qs.length)(hnd:((ps++qs).map Prod.fst).Nodup)(hz:(ps++qs).length≤100000)(I:MI d s n ps qs (x::rest) s'):
  ∃ h' es' q,s'={ s with heap:=h' }∧x < n∧qs[x]?=some q∧Heap.SameBut d s.heap h'∧IDict h' d es'∧Paired isEnt (ps++qs.take x) es'.toList∧q.1∉(ps++qs.take x).map Prod.fst∧(ps++qs.take x).length≤100000∧
   ∀ h'' es'',IDict h'' d es''→Paired isEnt (ps++qs.take x++[q]) es''.toList→Heap.SameBut d h' h''→MI d s n ps qs rest { s with heap:=h'' }:=by
 obtain⟨h',es',i,rfl,hi,hr,hI,hE',hs⟩:=I
 obtain⟨rfl,hlt,hr'⟩:=range_cons hi hr
 have hlq:x < qs.length:=hn▸hlt
 have hq:qs[x]?=some qs[x]:=List.getElem?_eq_getElem hlq
 have e:ps++qs=(ps++qs.take x)++qs[x]::qs.drop (x+1):=by rw[List.append_assoc,← List.drop_eq_getElem_cons hlq,List.take_append_drop]
 refine⟨h',es',qs[x],rfl,hlt,hq,hs,hI,hE',nodup_at hnd e,?_,fun h'' es'' hI' hE'' hs''=>⟨h'',es'',x+1,rfl,hlt,hr',hI',?_,hs.trans hs''⟩⟩
 ·rw[List.length_append] at hz ⊢
  exact Nat.le_trans (Nat.add_le_add_left (List.length_take_le' ..) _) hz
 ·rw[show qs.take (x+1)=qs.take x++[qs[x]] by rw[List.take_add_one,hq]; rfl,← List.append_assoc]
  exact hE''
theorem MI.fin {d:Addr}{n:Nat}{ps qs:List (Int×Str)}{s':Shared}(hn:n=qs.length)(I:MI d s n ps qs [] s'):∃ h' es',s'={ s with heap:=h' }∧IDict h' d es'∧Paired isEnt (ps++qs) es'.toList∧Heap.SameBut d s.heap h':=by
 obtain⟨h',es',i,rfl,hi,hr,hI,hE',hs⟩:=I
 have h0:n - i=0:=by
  have:=congrArg List.length hr
  rw[List.length_range'] at this
  exact this.symm
 have e:i=qs.length:=hn▸Nat.le_antisymm hi (Nat.le_of_sub_eq_zero h0)
 rw[e,List.take_length] at hE'
 exact⟨h',es',rfl,hI,hE',hs⟩
theorem merge_gives {d a:Addr}{es fs:Array DictEntry}{ps qs:List (Int×Str)}{Q:Unit→Shared→Prop}(hd:IDict s.heap d es)(ha:IDict s.heap a fs)(hda:d≠a)(hsa:(a==sysModules)=false)(hE:Paired isEnt ps es.toList)(hF:Paired isEnt qs fs.toList)
  (hnd:((ps++qs).map Prod.fst).Nodup) (hz:(ps++qs).length≤100000) (hps:ps≠[])
  (hQ:∀ h' es',IDict h' d es'→Paired isEnt (ps++qs) es'.toList→Heap.SameBut d s.heap h'→Q () { s with heap:=h' }):
  wpAny (model prog w) A (mergeMapping d (.ref a) false) Q E s:=by
 have typ:s.TypeIs (.ref a) "dict":=let ⟨o,_,ho,hc,_⟩:=ha; ⟨o,ho,hc.1⟩
 have hne:es.isEmpty=false:=by
  cases h:es.isEmpty with
  | false=>rfl
  | true=>
   rw[Array.isEmpty_iff.mp h] at hE
   cases hE
   exact absurd rfl hps
 have hlen:fs.size=qs.length:=by rw[← Array.length_toList,hF.length]
 have M0:MI d s fs.size ps qs (List.range fs.size) s:=⟨s.heap,es,0,rfl,Nat.zero_le _,by rw[List.range_eq_range',Nat.sub_zero],hd,by rw[List.take_zero,List.append_nil]; exact hE,Heap.SameBut.refl _ _⟩
 obtain⟨od,epd,hod,hcd,hdd⟩:=hd
 obtain⟨oa,epa,hoa,hca,hda'⟩:=ha
 unfold mergeMapping
 refine wpAny_bind (wpAny_isInstance typ F.sub_dict_dict ?_)
 refine if_t rfl ?_
 refine wpAny_bind (wpAny_specialOf typ F.slot_dict_iter.lookup (wpAny_bind (wpAny_pure ?_)))
 rw[beq_self_eq_true]
 dsimp only
 refine if_f (by rw[hsa]; exact Bool.false_ne_true) ?_
 refine wpAny_bind (wpAny_dictEntries hod hdd ?_)
 refine if_f (by rw[hne]; exact Bool.false_ne_true) ?_
 refine wpAny_bind (wpAny_dictEntries hoa hda' ?_)
 refine wpAny_bind (wpAny_dictEpoch hoa hda' (wpAny_bind ?_))
 refine wpAny_forIn_list _ (fun rest _ s'=>MI d s fs.size ps qs rest s') _ ?_ ?_ _ _ M0
 ·intro x rest b s' I
  obtain⟨h',es',q,rfl,hlt,hq,hs,hI,hE',hfr,hz',k⟩:=I.turn hlen hnd hz
  have hoa':h'.get? a=some oa:=(hs.2 a (Ne.symm hda)).trans hoa
  have hx:x < fs.toList.length:=by rw[Array.length_toList]; exact hlt
  obtain⟨q',hq',t,u,he⟩:=Paired.at hF x hx
  obtain rfl:=Option.some.inj (hq.symm.trans hq')
  have hge:fs[x]?=some ⟨hashInt q.1,.int q.1 t,.str q.2 u⟩:=by rw[← he,← Array.getElem?_toList]; exact List.getElem?_eq_getElem hx
  refine wpAny_bind (wpAny_dictEntries (s:={ s with heap:=h' }) hoa' hda' ?_)
  rw[hge]
  dsimp only
  refine wpAny_bind (wpAny_holding ?_)
  refine if_f Bool.false_ne_true ?_
  unfold dictPut
  refine wpAny_bind (dictFind_fresh (s:={ s with heap:=h' }) hI hE' hfr ?_)
  refine push_new (s:={ s with heap:=h' }) (p:=q) hI hE' hz' fun h'' hI' hE'' hs''=>?_
  refine wpAny_bind (wpAny_dictEpoch (s:={ s with heap:=h'' }) ((hs''.2 a (Ne.symm hda)).trans hoa') hda' ?_)
  rw[if_neg (by simp -iota)]
  exact wpAny_pure (k h'' _ hI' hE'' hs'')
 ·intro b s' I
  obtain⟨h',es',rfl,hI,hE',hs⟩:=I.fin hlen
  exact wpAny_pure (hQ h' es' hI hE' hs)
end
structure MSt (n₀:Nat) (h₀:Heap) (c:Nat) (main:Option Addr) (done:List (Int×Str)) (h:Heap):Prop where
 size:h.objs.size=n₀+c
 keep:∀ b o,h₀.get? b=some o→h.get? b=some o
 none:main=none→done=[]∧c=0
 some:∀ d,main=some d→done≠[]∧n₀=d∧∃ es,IDict h d es∧Paired isEnt done es.toList
noncomputable def flushT (run:List (Sem Value×Sem Value))(main:Option Addr):Sem (Option Addr):=if run.isEmpty=true then pure main else match main with
   | none=>do
    let a ← subDict run
    pure (some a)
   | some d=>do
    let sub ← holding [Value.ref d] (subDict run)
    (holding [Value.ref d,Value.ref sub] (mergeMapping d (Value.ref sub) false)).onRaise fun x=>do
     let _ ← holding [Value.ref d,x] (runValue (Code.builtin "proto.let_go" { }))
     pure ()
    pure (some d)
section
variable {prog:Program}{w:World}{A:Around}{E:Value→Shared→Prop}{s:Shared}
theorem flush_gives {n₀ c:Nat}{h₀:Heap}{main:Option Addr}{done cur:List (Int×Str)}{run:List (Sem Value×Sem Value)}{Q:Option Addr→Shared→Prop}(hM:MSt n₀ h₀ c main done s.heap)(hn:h₀.objs.size=n₀)(hg:Paired Gives cur run)(hnd:((done++cur).map Prod.fst).Nodup)(hz:(done++cur).length≤100000)
  (hr:run≠[]) (h1:sysModules < n₀) (hQ:∀ d h' tk,MSt n₀ h₀ (c+1) (some d) (done++cur) h'→Q (some d) { s with heap:=h',toks:=tk }):
  wpAny (model prog w) A (flushT run main) Q E s:=by
 have hcur:cur≠[]:=by rintro rfl; cases hg; exact hr rfl
 unfold flushT
 rw[if_neg (by cases run with | nil=>exact absurd rfl hr | cons=>exact Bool.false_ne_true)]
 have hl:(done++cur).length=done.length+cur.length:=List.length_append
 have hndc:(cur.map Prod.fst).Nodup:=by rw[List.map_append,List.nodup_append] at hnd; exact hnd.2.1
 cases main with
 | none=>
  obtain⟨hd,hc⟩:=hM.none rfl
  subst hd
  subst hc
  refine wpAny_bind (subDict_gives hg hndc (by simpa using hz) fun h' tk es hI hE hs hk=>wpAny_pure (hQ _ h' tk ⟨by rw[hs,hM.size],fun b o e=>hk b o (hM.keep b o e),(fun e=>nomatch e),(fun d e=>?_)⟩))
  cases e
  exact⟨by simpa using hcur,by rw[hM.size]; rfl,es,hI,by simpa using hE⟩
 | some d=>
  obtain⟨hdn,hnd',es,hI,hE⟩:=hM.some d rfl
  refine wpAny_bind (wpAny_holding (subDict_gives hg hndc (by lia) fun h' tk fs hI' hE' hs hk=>?_))
  have hdlt:d < s.heap.objs.size:=let ⟨_,_,e,_⟩:=hI; Heap.lt_size e
  refine wpAny_bind (wpAny_onRaise (wpAny_holding (merge_gives (s:={ s with heap:=h',toks:=tk }) (hI.keep (hk d)) hI' (Nat.ne_of_lt hdlt) ?_ hE hE' hnd hz hdn fun h'' es' hI'' hE'' hsb=>?_)))
  ·exact beq_eq_false_iff_ne.mpr (Nat.ne_of_gt (Nat.lt_of_lt_of_le h1 (by rw[hM.size]; exact Nat.le_add_right _ _)))
  ·refine wpAny_pure (hQ d h'' tk ⟨by rw[hsb.1]; show h'.objs.size=_; rw[hs,hM.size]; lia,fun b o e=>(hsb.2 b (Nat.ne_of_lt ?_)).trans (hk b o (hM.keep b o e)),(fun e=>nomatch e),(fun d' e=>?_)⟩)
   ·have:=Heap.lt_size e
    rw[hn] at this
    exact hnd'▸this
   ·cases e
    exact⟨by simp[hdn],hnd',es',hI'',hE''⟩
structure DI (s:Shared) (ps done cur todo:List (Int×Str)) (c:Nat) (main:Option Addr) (run:List (Sem Value×Sem Value)) (h':Heap):Prop where
 app:ps=done++cur++todo
 curG:Paired Gives cur run
 lt:cur.length < 17
 len:done.length=17 * c
 st:MSt s.heap.objs.size s.heap c main done h'
noncomputable def DInv (s:Shared)(ps:List (Int×Str))(rest:List (Option (Sem Value)×Sem Value))(b:Option Addr×List (Sem Value×Sem Value))(s':Shared):Prop:=
 ∃ h' tk c done cur todo pr,s'={ s with heap:=h',toks:=tk }∧rest=List.map (fun (x:Sem Value×Sem Value)=>(some x.1,x.2)) pr∧Paired Gives todo pr∧DI s ps done cur todo c b.1 b.2 h'
theorem DI.step {ps done cur todo:List (Int×Str)}{p:Int×Str}{pp:Sem Value×Sem Value}{c:Nat}{main:Option Addr}{run:List (Sem Value×Sem Value)}{h':Heap}(D:DI s ps done cur (p::todo) c main run h')(hp:Gives p pp)(hnd:(ps.map Prod.fst).Nodup)(hz:ps.length≤100000):
  Paired Gives (cur++[p]) (run++[(pp.1,pp.2)])∧((done++(cur++[p])).map Prod.fst).Nodup∧(done++(cur++[p])).length≤100000∧(run++[(pp.1,pp.2)]).length=cur.length+1∧
  (cur.length+1=17→∀ d h'',MSt s.heap.objs.size s.heap (c+1) (some d) (done++(cur++[p])) h''→DI s ps (done++(cur++[p])) [] todo (c+1) (some d) [] h'')∧
  (cur.length+1≠17→DI s ps done (cur++[p]) todo c main (run++[(pp.1,pp.2)]) h'):=by
 have hps':ps=done++(cur++[p])++todo:=by rw[D.app]; simp
 have hg:Paired Gives (cur++[p]) (run++[(pp.1,pp.2)]):=Paired.app D.curG (.cons hp .nil)
 have hl:(cur++[p]).length=cur.length+1:=List.length_append
 refine⟨hg,?_,?_,hg.length.symm.trans hl,fun e d h'' M=>⟨by rw[List.append_nil]; exact hps',.nil,by decide,?_,M⟩,fun e=>⟨hps',hg,?_,D.len,D.st⟩⟩
 ·rw[hps',List.map_append,List.nodup_append] at hnd
  exact hnd.1
 ·rw[hps',List.length_append] at hz
  exact Nat.le_trans (Nat.le_add_right _ _) hz
 ·rw[List.length_append,hl,D.len,e]
  exact (Nat.mul_succ 17 c).symm
 ·rw[hl]
  exact Nat.lt_of_le_of_ne (Nat.succ_le_of_lt D.lt) e
theorem display_gives {ps:List (Int×Str)}{pairs:List (Sem Value×Sem Value)}{Q:Value→Shared→Prop}(hg:Paired Gives ps pairs)(hnd:(ps.map Prod.fst).Nodup)(hz:ps.length≤100000)(hne:ps≠[])(h1:sysModules < s.heap.objs.size)
  (hQ:∀ d h' tk es,IDict h' d es→Paired isEnt ps es.toList→h'.objs.size=s.heap.objs.size+(ps.length+16) / 17→s.heap.objs.size=d→(∀ b o,s.heap.get? b=some o→h'.get? b=some o)→Q (.ref d) { s with heap:=h',toks:=tk }):
  wpAny (model prog w) A (dictDisplay (pairs.map fun x=>(some x.1,x.2))) Q E s:=by
 unfold dictDisplay
 extract_lets flush main run
 refine wpAny_bind ?_
 refine wpAny_forIn_list _ (fun rest b s'=>DInv s ps rest b s') _ ?_ ?_ _ _ ⟨s.heap,s.toks,0,[],[],ps,pairs,rfl,rfl,hg,rfl,.nil,by decide,rfl,⟨rfl,fun _ _ e=>e,(fun _=>⟨rfl,rfl⟩),(fun d e=>nomatch e)⟩⟩
 ·intro x rest b s' I
  obtain⟨h',tk,c,done,cur,todo,pr,rfl,hrest,hgt,D⟩:=I
  cases hgt with
  | nil=>cases hrest
  | @cons p pp todo' pr' hp hgt=>
   obtain⟨hx,hrest2⟩:=List.cons.inj hrest
   subst hx
   dsimp only
   obtain⟨hgc',hnd',hz',hlen,k1,k2⟩:=D.step hp hnd hz
   split
   ·rename_i h17
    refine wpAny_bind ((flush_gives (s:={ s with heap:=h',toks:=tk }) (main:=b.1) D.st rfl hgc' hnd' hz' (by simp) h1 fun d h'' tk' hM'=>?_:wpAny _ _ (flushT _ _) _ _ _))
    exact wpAny_pure ⟨h'',tk',c+1,_,[],todo',pr',rfl,hrest2,hgt,k1 (hlen▸eq_of_beq h17) d h'' hM'⟩
   ·rename_i h17
    exact wpAny_pure ⟨h',tk,c,done,_,todo',pr',rfl,hrest2,hgt,k2 fun e=>h17 (by rw[hlen,e]; rfl)⟩
 ·intro b s' I
  obtain⟨h',tk,c,done,cur,todo,pr,rfl,hrest,hgt,D⟩:=I
  have hpr:pr=[]:=by cases pr with | nil=>rfl | cons=>cases hrest
  subst hpr
  cases hgt
  have hps:ps=done++cur:=D.app.trans (List.append_nil _)
  have hpl:ps.length=17 * c+cur.length:=by rw[hps,List.length_append,D.len]
  have hM:=D.st
  dsimp only
  by_cases hb:b.2=[]
  ·have hc0:cur=[]:=List.length_eq_zero_iff.mp (D.curG.length.trans (by rw[hb]; rfl))
   rw[hc0,List.append_nil] at hps
   rw[hc0] at hpl
   refine wpAny_bind ?_
   show wpAny _ _ (flush b.2 b.1) _ _ _
   rw[hb]
   refine wpAny_pure ?_
   cases hm:b.1 with
   | none=>exact absurd (hps.trans (hM.none hm).1) hne
   | some d=>
    obtain⟨_,hd,es,hI,hE⟩:=hM.some d hm
    exact wpAny_pure (hQ d h' tk es hI (hps▸hE) (by rw[hM.size,hpl]; show _=_+(17 * c+0+16) / 17; lia) hd hM.keep)
  ·have hcp:0 < cur.length:=by
    rw[D.curG.length]
    exact List.length_pos_iff.mpr hb
   have hlt:=D.lt
   refine wpAny_bind ((flush_gives (s:={ s with heap:=h',toks:=tk }) (main:=b.1) hM rfl D.curG (by rw[← hps]; exact hnd) (by rw[← hps]; exact hz) hb h1 fun d h'' tk' hM'=>?_:wpAny _ _ (flushT _ _) _ _ _))
   obtain⟨_,hd,es,hI,hE⟩:=hM'.some d rfl
   exact wpAny_pure (hQ d h'' tk' es hI (hps▸hE) (by rw[hM'.size,hpl]; lia) hd hM'.keep)
end
noncomputable def Γq:Ctx:=⟨.builtin "claim.caller" {},none,none,[],none⟩
theorem go_ne {C:Prop}{a b:Shared}{t:Thread}{o:Outcome}(h:Step.go a t= .halt o b):C:=nomatch h
theorem stuck_ne {C:Prop}{a b:Shared}{m:String}{f:Flow}(h:Step.halt (.stuck m) a= .halt (.done f) b):C:=nomatch h
theorem uns_ne {C:Prop}{a b:Shared}{m:String}{f:Flow}(h:Step.halt (.unsupported m) a= .halt (.done f) b):C:=nomatch h
theorem step_through {den:Code→Sem Fin}{p:Program}{w:World}{heap:Heap}{gens drawn}{toks:Nat}{os:OsState}{s':Shared}{cur:Sem Fin}{code:Code}{pos:Pos}{stack:List Frame}{f:Flow}
  (h:step den p w ⟨heap,gens,drawn,toks,os⟩ ⟨cur,code,pos,stack⟩= .halt (.done f) s'):through ⟨cur,code,pos,stack⟩=true:=by
 cases cur with
 | pure fin=>cases fin with
  | done g=>cases stack with
   | nil=>rfl
   | cons fr r=>cases fr <;> exact go_ne h
  | again c=>exact go_ne h
 | raise e=>cases stack with
  | nil=>
   delta step finish at h
   dsimp only at h
   split at h <;> cases h
  | cons fr r=>cases fr <;> exact go_ne h
 | finish e=>
  delta step at h
  dsimp only at h
  split at h <;> cases h
 | load a q k=>
  delta step at h
  dsimp only at h
  generalize heap.get? a=o at h
  cases o with
  | none=>exact stuck_ne h
  | some x=>exact go_ne h
 | update a q g k=>
  delta step at h
  dsimp only at h
  split at h
  ·exact go_ne h
  ·exact stuck_ne h
 | choose src n k=>
  delta step at h
  dsimp only at h
  split at h
  ·exact stuck_ne h
  ·exact go_ne h
 | genState g k=>
  delta step at h
  dsimp only at h
  generalize gens[g]?=o at h
  cases o with
  | none=>exact stuck_ne h
  | some x=>exact go_ne h
 | resume g r l k=>
  delta step at h
  dsimp only at h
  generalize gens[g]?=o at h
  cases o with
  | none=>exact stuck_ne h
  | some x=>cases x with
   | fresh c=>cases r with
    | send v=>cases v <;> exact go_ne h
    | throw e=>exact go_ne h
   | _=>exact go_ne h
 | «yield» v g0 l kk=>
  delta step at h
  dsimp only at h
  generalize splitAtGen stack=o at h
  cases o with
  | none=>exact stuck_ne h
  | some x=>exact go_ne h
 | unsupported m=>exact uns_ne h
 | register _ _=>exact uns_ne h
 | fork _ _=>exact uns_ne h
 | await _ _ _ _ _=>exact uns_ne h
 | _=>exact go_ne h
theorem step_done {den:Code→Sem Fin}{p:Program}{w:World}{s s':Shared}{t:Thread}{f:Flow}(h:step den p w s t= .halt (.done f) s'):through t=true∧s'=s:=
 ⟨step_through h,step_halt_same _ _ _ _ _ _ _ h⟩
theorem run_before {den:Code→Sem Fin}{p:Program}{w:World}{f:Flow}:∀ (n:Nat) (s s':Shared) (t:Thread),PySem.runN den p w n s t= .halted (.done f) s'→
  (∀ k s₁ t₁,PySem.runN den p w k s t= .running s₁ t₁→t₁.calm=true)→s.asleep→
  ∃ k t₁,schedN den p w k (.single s t)= .running (.single s' t₁)∧through t₁=true∧s'.heap.life=s.heap.life
 | 0,_,_,_,h,_,_=>by simp -iota [PySem.runN] at h
 | n+1,s,s',t,h,hc,hz=>by
  have h0:=hc 0 s t rfl
  unfold PySem.runN at h
  cases hs:step den p w s t with
  | halt o s₁=>
   rw[hs] at h
   cases h
   obtain⟨a,rfl⟩:=step_done hs
   exact⟨0,t,rfl,a,rfl⟩
  | go s₁ t₁=>
   rw[hs] at h
   have hl:=step_life den p w s s₁ t t₁ hs
   obtain⟨k,t₂,a,b,c⟩:=run_before n s₁ s' t₁ h (fun k s₂ t₂ hk=>hc (k+1) s₂ t₂ (by unfold PySem.runN; rw[hs]; exact hk)) (Shared.asleep_of_life hl hz)
   refine⟨k+1,t₂,?_,b,c.trans hl⟩
   have e:sstep den p w (.single s t)= .go (.single s₁ t₁):=by
    rcases sstep_single den p w s t h0 hz with e | e
    ·rw[e,hs]; rfl
    ·rw[hs] at e; cases e
   simp -iota only[schedN,e]
   exact a
theorem ran_of_wp {p:Program}{w:World}{s:Shared}{t:Sem Fin}{R:Shared→Prop}(hz:s.asleep)
  (h:Sem.wp (model p w) Γq t (fun fin _ s'=>fin= .done (.ret .none)∧s'.gens=#[]∧R s') (fun _ _ _=>False) default s):
  ∃ s',R s'∧s'.gens=#[]∧s'.heap.life=s.heap.life∧∃ n t₁,schedN (denote table) p w n (.single s ⟨t,.builtin "claim.caller" {},default,[]⟩)= .running (.single s' t₁)∧through t₁=true:=by
 have h':=(wp_iff_halts (M:=model p w) (c:= .builtin "claim.caller" {}) t (fun r s'=>r= .ok (.ret .none)∧s'.gens=#[]∧R s') default s).mp (Sem.wp_mono _ _ _ (fun fin _ s' h=>by
  obtain⟨rfl,h2,h3⟩:=h
  exact⟨⟨rfl,h2,h3⟩,by rw[h2]; simp -iota [leftWithCleanup]⟩) (fun _ _ _ (q:False)=>q.elim) _ _ h)
 obtain⟨n,r,s',hn,rfl,hg,hR⟩:=h'
 obtain⟨m,s'',hm,hf,hc⟩:=(halts_real_iff (M:=model p w) s'.forget).mpr ⟨n,s',hn,rfl⟩
 have e:s''=s':=Shared.eq_of_forget_eq hf hg
 subst e
 obtain⟨k,t₁,a,b,c⟩:=run_before m s s'' _ hm hc hz
 exact⟨s'',hR,hg,c,k,t₁,a,b⟩
theorem behind_boot {p:Program}(e:opening p=plainProg p.main.scope.names)(f:∀ s,fenceModules? p s=some s)(w:World):
  (∃ s,AfterRun (opening p) w s)∧∀ s,AfterRun (opening p) w s→fenceModules? p s=some s∧s.asleep∧∃ os,s=⟨boot_heap w.params,#[],boot_drawn,boot_toks,os⟩:=by
 have h:=boot_open (N:=600) e rfl f w
 obtain⟨⟨hp,gs,d,k,os⟩,h1,h2⟩:=Option.map_eq_some_iff.mp h
 obtain⟨s,h4,h5⟩:=Option.bind_eq_some_iff.mp h1
 rw[f s] at h5
 cases h5
 have h4':importEnds table (opening p) w 600 (start (opening p)).1 (start (opening p)).2=some ⟨hp,gs,d,k,os⟩:=by rw[table_eq_tree]; exact h4
 have A:=AfterImport.of_importEnds h4'
 refine⟨⟨_,A⟩,fun s' hs'=>?_⟩
 obtain rfl:s'=_:=AfterImport.unique hs' A
 refine⟨f _,A.life,os,?_⟩
 obtain⟨rfl,rfl,rfl,rfl⟩:hp=boot_heap w.params∧gs=#[]∧d=boot_drawn∧k=boot_toks:=by simpa using h2
 rfl
noncomputable def oldAs:List Nat:=[0,1,2,4,5,6,7,8,9,10]
noncomputable def oldOs (P:Params):List (Option Obj):=[some (boot_o_0 P),some (boot_o_1 P),some (boot_o_2 P),some (boot_o_4 P),some (boot_o_5 P),some (boot_o_6 P),some (boot_o_7 P),some (boot_o_8 P),some (boot_o_9 P),some (boot_o_10 P)]
theorem zip_self {α β:Type}(f:α→β){a:α}:∀ {l:List α},a∈l→(a,f a)∈l.zip (l.map f)
 | x::l,h=>(List.mem_cons.mp h).elim (fun e=>e▸List.mem_cons_self) fun h=>List.mem_cons_of_mem _ (zip_self f h)
theorem boot_get (P:Params)(b:Nat)(o:Obj)(h:(boot_heap P).get? b=some o):b=3∨(b,some o)∈oldAs.zip (oldOs P):=by
 have hb:=Heap.lt_size h
 have hs:(boot_heap P).objs.size=11:=by kernel_rfl!
 have e:oldAs.map (boot_heap P).get?=oldOs P:=by kernel_rfl!
 have hm:∀ b < 11,b=3∨b∈oldAs:=by decide
 rw[← e,← h]
 exact (hm b (hs▸hb)).imp id fun h=>zip_self _ h
noncomputable def onDict {β:Type}(d:Data)(b:β)(f:Array DictEntry→β):β:=match d with
 | .dict es _=>f es
 | _=>b
theorem onDict_t {d:Data}{f:Array DictEntry→Bool}(h:onDict d false f=true):∃ es ep,d= .dict es ep∧f es=true:=by
 cases d with
 | dict es ep=>exact⟨es,ep,rfl,h⟩
 | _=>exact Bool.noConfusion h
noncomputable def onStrV {β:Type}(v:Value)(f:Str→Option β):Option β:=match v with
 | .str x _=>f x
 | _=>none
theorem onStrV_some {β:Type}{r:β}{v:Value}{f:Str→Option β}(h:onStrV v f=some r):∃ x t,v= .str x t∧f x=some r:=by
 cases v with
 | str x t=>exact⟨x,t,rfl,h⟩
 | _=>exact nos h
noncomputable def strB (v:Value)(f:Str→Bool):Bool:=optB (onStrV v some) false f
theorem strB_t {v:Value}{f:Str→Bool}(h:strB v f=true):∃ x t,v= .str x t∧f x=true:=by
 obtain⟨x,e,h⟩:=optB_t h
 obtain⟨y,t,e,e'⟩:=onStrV_some e
 exact⟨y,t,e,(Option.some.inj e').symm▸h⟩
noncomputable def namesOk (p:Program)(o:Option Obj):Bool:=optB o false fun ob=>onDict ob.data false fun es=>es.toList.all fun e=>strB e.key fun x=>startupNames.contains x || p.boundNames.contains x
noncomputable def glob (o:Option Obj)(x:Str):Option Value:=optB o none fun ob=>onDict ob.data none fun es=>(es.find? (·.key.isStr x)).map (·.val)
theorem globalOf_glob (h:Heap)(x:Str):globalOf h x=glob (h.get? 3) x:=by
 show _=optB (h.get? 3) none _
 unfold globalOf mainNs
 cases h.get? 3 with
 | none=>rfl
 | some ob=>rfl
noncomputable def bootGlob (P:Params)(x:Str):Option Value:=glob (some (boot_o_3 P)) x
structure TopLook (p:Program) (P:Params) (h:Heap):Prop where
 old:oldAs.map h.get?=oldOs P
 names:namesOk p (h.get? 3)=true
 laid:laidNames.map (glob (h.get? 3))=laidNames.map (bootGlob P)
 blt:glob (h.get? 3) "__builtins__"=some (.ref 4)
theorem map_at {α β:Type}{f:α→β}{l:List α}{m:List β}(h:l.map f=m)(i:Nat)(a:α)(ha:l[i]?=some a):m[i]?=some (f a):=by
 rw[← h,List.getElem?_map,ha]; rfl
theorem topLook_ran {p:Program}{w:World}{os:OsState}{s₁:Shared}(T:TopLook p w.params s₁.heap)
  (hr:∃ n t,schedN (denote table) p w n (.single ⟨boot_heap w.params,#[],boot_drawn,boot_toks,os⟩ (topStub p))= .running (.single s₁ t)∧through t=true)
  (hl:s₁.heap.life=(boot_heap w.params).life) (ho:s₁.os=os) (hg:s₁.gens=#[]):TopRan p w ⟨boot_heap w.params,#[],boot_drawn,boot_toks,os⟩ s₁:=by
 have g0:s₁.heap.get? 0=some (boot_o_0 w.params):=by have:=map_at T.old 0 0 rfl; exact (Option.some.inj this).symm
 have g2:s₁.heap.get? 2=some (boot_o_2 w.params):=by have:=map_at T.old 2 2 rfl; exact (Option.some.inj this).symm
 have g4:s₁.heap.get? 4=some (boot_o_4 w.params):=by have:=map_at T.old 3 4 rfl; exact (Option.some.inj this).symm
 have st:∀ k,staticOf s₁.heap k=none:=fun k=>by
  unfold staticOf
  rw[show cStatics=2 from rfl,g2]
  rfl
 have st0:∀ k,staticOf (boot_heap w.params) k=none:=fun k=>by
  have:(boot_heap w.params).get? 2=some (boot_o_2 w.params):=by kernel_rfl!
  unfold staticOf
  rw[show cStatics=2 from rfl,this]
  rfl
 refine⟨hr,hl,Shared.rest_eq ho,fun b o hb hn=>?_,?_,?_,?_,?_,?_,?_,?_,?_⟩
 ·rcases boot_get _ _ _ hb with rfl | hm
  ·exact absurd (.inl rfl) hn
  ·rw[← T.old] at hm
   obtain⟨i,hi,e⟩:=List.getElem_of_mem hm
   simp only[List.getElem_zip,List.getElem_map,Prod.mk.injEq] at e
   obtain⟨rfl,e⟩:=e
   exact e
 ·intro key v hv
  rw[st] at hv; cases hv
 ·intro key
  left; rw[st]; exact (st0 key).symm
 ·obtain⟨ob,hob,hn⟩:=optB_t T.names
  obtain⟨es,ep,hd,hn⟩:=onDict_t hn
  exact⟨ob,es,ep,hob,hd,fun e he=>(strB_t (List.all_eq_true.mp hn e (Array.mem_toList_iff.mpr he))).imp fun x h=>h.imp fun t h=>h.1⟩
 ·intro x hx
  have ns:s₁.heap.isNs builtinsNs=true:=by
   unfold Heap.isNs
   rw[show builtinsNs=0 from rfl,g0]
   kernel_rfl!
  have ev:s₁.heap.bltView=bltViewBooted:=by
   unfold Heap.bltView Heap.nsPairs
   rw[show builtinsNs=0 from rfl,g0]
   kernel_rfl!
  exact (Pin.builtinOf_eq ns x).trans (Heap.of_bltView ns ev x hx)
 ·exact⟨4,_,(globalOf_glob _ _).trans T.blt,g4,rfl,rfl⟩
 ·rw[hg]; intro g hm; simp at hm
 ·intro x v hv
  rw[globalOf_glob] at hv
  obtain⟨ob,hob,hn⟩:=optB_t T.names
  obtain⟨es,ep,hd,hn⟩:=onDict_t hn
  rw[hob] at hv
  have hv:onDict ob.data none (fun es=>(es.find? (·.key.isStr x)).map (·.val))=some v:=hv
  rw[hd] at hv
  obtain⟨e,he,_⟩:=Option.map_eq_some_iff.mp (show (es.find? (·.key.isStr x)).map (·.val)=some v from hv)
  have h1:=Array.find?_some he
  obtain⟨y,t,hk,h2⟩:=strB_t (List.all_eq_true.mp hn e (Array.mem_toList_iff.mpr (Array.mem_of_find?_eq_some he)))
  rw[hk] at h1
  have:y=x:=by simpa [Value.isStr] using h1
  subst this
  simpa only[Bool.or_eq_true,List.contains_iff_mem] using h2
 ·intro x hx
  rw[globalOf_glob,globalOf_glob]
  have e3:(boot_heap w.params).get? 3=some (boot_o_3 w.params):=by kernel_rfl!
  show _=glob ((boot_heap w.params).get? 3) x
  rw[e3]
  obtain⟨i,hi,rfl⟩:=List.getElem_of_mem hx
  have:=congrArg (fun l=>l[i]?) T.laid
  simp only[List.getElem?_map,List.getElem?_eq_getElem hi,Option.map_some,Option.some.injEq] at this
  exact this
set_option maxHeartbeats 0
noncomputable def twD:Code→Sem Fin:=PySem.W.Fast.tw11892475500146522536 PySem.W.Fast.tw14364793385576792824
theorem twD_eq:twD=denote table:=by
 unfold twD
 rw[← PySem.W.Fast.te11892475500146522536,← PySem.W.Fast.te14364793385576792824,table_eq_tree]
noncomputable def KS0 (P:Params):KS:=⟨[(3,boot_o_3 P),(0,boot_o_0 P),(1,boot_o_1 P),(2,boot_o_2 P),(4,boot_o_4 P),(5,boot_o_5 P),(6,boot_o_6 P),(7,boot_o_7 P),(8,boot_o_8 P),(9,boot_o_9 P),(10,boot_o_10 P)],11,boot_toks⟩
theorem kget_all {P:Nat→Obj→Prop}:∀ {l:List (Nat×Obj)} {a:Nat} {o:Obj},(∀ x∈l,P x.1 x.2)→kget l a=some o→P a o
 | [],_,_,_,h=>nos h
 | x::l,a,o,H,h=>by
  rw[kget_cons] at h
  by_cases e:x.1=a
  ·rw[if_pos e] at h
   obtain rfl:=Option.some.inj h
   exact e▸H x List.mem_cons_self
  ·rw[if_neg e] at h
   exact kget_all (fun y hy=>H y (List.mem_cons_of_mem _ hy)) h
theorem KS0_ok (P:Params)(os:OsState):KOk (KS0 P) ⟨boot_heap P,#[],boot_drawn,boot_toks,os⟩:=by
 have e:(KS0 P).kn.map (fun x=>(boot_heap P).get? x.1)=(KS0 P).kn.map fun x=>some x.2:=by kernel_rfl!
 exact⟨by kernel_rfl!,rfl,fun a o h=>kget_all (P:=fun a o=>(boot_heap P).get? a=some o) (List.map_inj_left.mp e) h⟩
noncomputable def okB {α:Type}(f:α→Bool)(x:Option (Except Value α×Pos×KS)):Bool:=match x with
 | some (r,_,_)=>match r with
  | .ok a=>f a
  | .error _=>false
 | none=>false
noncomputable def kOf {α:Type}(x:Option (Except Value α×Pos×KS)):KS:=match x with
 | some (_,_,K)=>K
 | none=>⟨[],0,0⟩
theorem okB_some {α:Type}{f:α→Bool}{x:Option (Except Value α×Pos×KS)}(h:okB f x=true):∃ a p',x=some (.ok a,p',kOf x)∧f a=true:=by
 cases x with
 | none=>cases h
 | some y=>
  obtain⟨r,p',K⟩:=y
  cases r with
  | error _=>cases h
  | ok a=>exact⟨a,p',rfl,h⟩
noncomputable def isNext (f:Flow):Bool:=match f with
 | .next=>true
 | _=>false
section
variable (p:Program)(w:World)
noncomputable def tyA (c:Value×Addr):Bool:=match c with
 | (v,a)=>match v with
  | .ref c=>Nat.beq c 13&&Nat.beq a 14
  | _=>false
noncomputable def treeA:Sem (Value×Addr):=PySem.W.Fast.tw17154629097778926822 p.main p.main.file none >>= fun code=>PySem.W.Fast.tw12822647523644345616 code mainNs mainNs builtinsNs >>= fun frame=>pure (code,frame)
noncomputable def envT:Env:={ scope:=p.main.scope,locals:=mainNs,globals:=mainNs,cells:=[],code:= .ref 13,frame:=some 14 }
noncomputable def runA:=bs twD p w.params 100000 (Value×Addr) Γq default (KS0 w.params) (treeA p)
noncomputable def kA:KS:=kOf (runA p w)
noncomputable def Γb (B:List Stmt)(p1:Pos):Ctx:=Γq.enter (.body B (envT p)) none p1
noncomputable def treeB (B G1:List Stmt):Sem Flow:=PySem.W.Fast.tw1066825118222455980 B (envT p) >>= fun _=>PySem.W.Fast.tw12563942051412417395 G1 (envT p)
noncomputable def runB (B G1:List Stmt)(p1:Pos):=bs twD p w.params 100000 Flow (Γb p B p1) p1 (kA p w) (treeB p B G1)
noncomputable def kB (B G1:List Stmt)(p1:Pos):KS:=kOf (runB p w B G1 p1)
noncomputable def treeC (x:Str)(px:Pos)(d:Addr)(G2:List Stmt):Sem Flow:=standAt px >>= fun _=>bindName (envT p) x (.ref d) >>= fun _=>PySem.W.Fast.tw12563942051412417395 G2 (envT p)
noncomputable def runC (B G1:List Stmt)(x:Str)(px:Pos)(G2:List Stmt)(c:Nat)(p1 q:Pos)(tk:Nat):=
 bs twD p w.params 100000 Flow (Γb p B p1) q ⟨(kB p w B G1 p1).kn,(kB p w B G1 p1).n+c,tk⟩ (treeC p x px (kB p w B G1 p1).n G2)
noncomputable def kC (B G1:List Stmt)(x:Str)(px:Pos)(G2:List Stmt)(c:Nat)(p1 q:Pos)(tk:Nat):KS:=kOf (runC p w B G1 x px G2 c p1 q tk)
end
theorem bs_run {p:Program}{w:World}{α:Type}{Γ:Ctx}{q:Pos}{S:KS}{t:Sem α}{N:Nat}{f:α→Bool}(h:okB f (bs twD p w.params N α Γ q S t)=true):
  ((∀ b,b < S.n→kget S.kn b=none→kget (kOf (bs twD p w.params N α Γ q S t)).kn b=none)∧S.n≤(kOf (bs twD p w.params N α Γ q S t)).n)∧
  ∀ (s:Shared) (Q:α→Pos→Shared→Prop) (E:Value→Pos→Shared→Prop),KOk S s→(∀ a q' s',f a=true→KOk (kOf (bs twD p w.params N α Γ q S t)) s'→KFr S s s'→Q a q' s')→Sem.wp (model p w) Γ t Q E q s:=by
 obtain⟨a,q',e,hf⟩:=okB_some h
 have g:BsGood (model p w) (bs (model p w).den (model p w).prog (model p w).w.params N):=bs_good (model p w) N
 rw[show (model p w).den=twD from twD_eq.symm] at g
 have:=@g _ _ _ _ _ _ _ _ e
 exact⟨this.mono,fun s Q E K H=>this.run s Q E K fun s' K' F=>H a q' s' hf K' F⟩
theorem execs_app {M:Model}{Γ:Ctx}{env:Env}{Q:Flow→Pos→Shared→Prop}{E:Value→Pos→Shared→Prop}:∀ (a b:List Stmt) (q:Pos) (s:Shared),
  Sem.wp M Γ (execs a env) (fun f q' s'=>match f with | .next=>Sem.wp M Γ (execs b env) Q E q' s' | f=>Q f q' s') E q s→Sem.wp M Γ (execs (a++b) env) Q E q s
 | [],b,q,s,h=>by
  rw[arm_execs_nil,Sem.wp_pure'] at h
  exact h
 | st::a,b,q,s,h=>by
  rw[execs_cons,Sem.wp_bind'] at h
  rw[List.cons_append,execs_cons,Sem.wp_bind']
  refine Sem.wp_mono _ _ _ (fun f q' s' h'=>?_) (fun _ _ _ h'=>h') _ _ h
  cases f with
  | next=>exact execs_app a b q' s' h'
  | _=>exact h'
noncomputable def constOf (e:Expr):Option Const:=match e with
 | .Constant c _ _=>some c
 | _=>none
theorem constOf_some {e:Expr}{c:Const}(h:constOf e=some c):∃ k p,e= .Constant c k p:=by
 cases e with
 | Constant d k p=>obtain rfl:=Option.some.inj h; exact⟨k,p,rfl⟩
 | _=>exact nos h
noncomputable def intC {β:Type}(c:Const)(f:Int→Option β):Option β:=match c with
 | .int i=>f i
 | _=>none
theorem intC_some {β:Type}{r:β}{c:Const}{f:Int→Option β}(h:intC c f=some r):∃ i,c= .int i∧f i=some r:=by
 cases c with
 | int i=>exact⟨i,rfl,h⟩
 | _=>exact nos h
noncomputable def strC {β:Type}(c:Const)(f:Str→Option β):Option β:=match c with
 | .str i=>f i
 | _=>none
theorem strC_some {β:Type}{r:β}{c:Const}{f:Str→Option β}(h:strC c f=some r):∃ i,c= .str i∧f i=some r:=by
 cases c with
 | str i=>exact⟨i,rfl,h⟩
 | _=>exact nos h
noncomputable def constPairs:List (Option Expr)→List Expr→Option (List (Int×Str))
 | [],[]=>some []
 | k::ks,v::vs=>opt k fun ke=>opt (constOf ke) fun c=>intC c fun i=>opt (constOf v) fun d=>strC d fun x=>opt (constPairs ks vs) fun r=>some ((i,x)::r)
 | _,_=>none
theorem constPairs_gives {env:Env}{dp:Pos}:∀ {ks:List (Option Expr)} {vs:List Expr} {ps:List (Int×Str)},constPairs ks vs=some ps→
  ∃ pairs,(evalEachOpt ks env).zip ((evalEach vs env).map fun v=>do let x ← v; standAt dp; pure x)=pairs.map (fun (x:Sem Value×Sem Value)=>(some x.1,x.2))∧Paired Gives ps pairs
 | [],[],_,h=>by
  obtain rfl:=Option.some.inj h
  exact⟨[],rfl,.nil⟩
 | k::ks,v::vs,ps,h=>by
  obtain⟨ke,e1,h⟩:=opt_some h
  obtain⟨c,e2,h⟩:=opt_some h
  obtain⟨i,e3,h⟩:=intC_some h
  obtain⟨d,e4,h⟩:=opt_some h
  obtain⟨x,e5,h⟩:=strC_some h
  obtain⟨r,e6,h⟩:=opt_some h
  obtain⟨k1,p1,e7⟩:=constOf_some e2
  obtain⟨k2,p2,e8⟩:=constOf_some e4
  obtain⟨pairs,e,g⟩:=constPairs_gives (env:=env) (dp:=dp) e6
  obtain rfl:=Option.some.inj h
  rw[e1,e7,e3,e8,e5]
  exact⟨(eval (.Constant (.int i) k1 p1) env,do let x ← eval (.Constant (.str x) k2 p2) env; standAt dp; pure x)::pairs,congrArg (_::·) e,
   .cons ⟨fun M A E s Q hQ=>wpAny_Constant_int (env:=env) (k:=k1) (pos:=p1) (hQ _ _),fun M A E s Q hQ=>wpAny_bind (wpAny_Constant_str (env:=env) (k:=k2) (pos:=p2) (wpAny_bind (wpAny_standAt (wpAny_pure (hQ _ _)))))⟩ g⟩
 | [],_::_,_,h=>nos h
 | _::_,[],_,h=>nos h
structure DictStmt where
 x:Str
 px:Pos
 keys:List (Option Expr)
 values:List Expr
 dp:Pos
 ap:Pos
noncomputable def DictStmt.stmt (d:DictStmt):Stmt:= .Assign [.Name d.x d.px] (.Dict d.keys d.values d.dp) d.ap
theorem isNext_eq {f:Flow}(h:isNext f=true):f= .next:=by cases f <;> first | rfl | cases h
theorem top_wpP {p:Program}{w:World}{os:OsState}{P:Shared→Prop}(G1 G2:List Stmt)(d:DictStmt)(tbl:List (Int×Str))(n₀:Nat)
  (hB:behindTheImports p=G1++d.stmt::G2) (hc:constPairs d.keys d.values=some tbl) (hnd:(tbl.map Prod.fst).Nodup) (hz:tbl.length≤100000) (hne:tbl≠[])
  (eA:okB tyA (runA p w)=true)
  (eB:∀ p1,okB isNext (runB p w (behindTheImports p) G1 p1)=true) (eBn:∀ p1,(kB p w (behindTheImports p) G1 p1).n=n₀) (eBk:∀ p1,kget (kB p w (behindTheImports p) G1 p1).kn n₀=none) (hn₀:1 < n₀)
  (eC:∀ p1 q tk,okB isNext (runC p w (behindTheImports p) G1 d.x d.px G2 ((tbl.length+16) / 17) p1 q tk)=true)
  (hP:∀ s' p1 q tk es,s'.gens=#[]→s'.os=os→KOk (kC p w (behindTheImports p) G1 d.x d.px G2 ((tbl.length+16) / 17) p1 q tk) s'→IDict s'.heap n₀ es→Paired isEnt tbl es.toList→P s'):
  Sem.wp (model p w) Γq (topStub p).cur (fun fin _ s'=>fin= .done (.ret .none)∧P s')
   (fun _ _ _=>False) default ⟨boot_heap w.params,#[],boot_drawn,boot_toks,os⟩:=by
 have hA:=bs_run eA
 show Sem.wp (model p w) Γq (moduleCode p.main >>= fun code=>newBodyFrame code mainNs mainNs >>= fun frame=>run (.body (behindTheImports p) { scope:=p.main.scope,locals:=mainNs,globals:=mainNs,cells:=[],code:=code,frame:=some frame }) >>= fun _=>(PySem.ret .none:Sem Fin)) _ _ _ _
 have e1:(moduleCode p.main >>= fun code=>newBodyFrame code mainNs mainNs >>= fun frame=>run (.body (behindTheImports p) { scope:=p.main.scope,locals:=mainNs,globals:=mainNs,cells:=[],code:=code,frame:=some frame }) >>= fun _=>(PySem.ret .none:Sem Fin))=
   treeA p >>= fun cf=>run (.body (behindTheImports p) { scope:=p.main.scope,locals:=mainNs,globals:=mainNs,cells:=[],code:=cf.1,frame:=some cf.2 }) >>= fun _=>(PySem.ret .none:Sem Fin):=by
  unfold treeA
  rw[← PySem.W.Fast.te17154629097778926822,← PySem.W.Fast.te12822647523644345616]
  simp -iota only[bind_assoc,pure_bind]
 rw[e1,Sem.wp_bind']
 refine hA.2 _ _ _ (KS0_ok _ _) fun cf p1 s1 hcf K1 F1=>?_
 obtain⟨cv,fr⟩:=cf
 have hcf':cv= .ref 13∧fr=14:=by
  unfold tyA at hcf
  split at hcf
  rename_i v a hva
  cases hva
  split at hcf
  ·rw[Bool.and_eq_true] at hcf
   exact⟨congrArg Value.ref (Nat.eq_of_beq_eq_true hcf.1),Nat.eq_of_beq_eq_true hcf.2⟩
  ·cases hcf
 obtain⟨rfl,rfl⟩:=hcf'
 rw[Sem.wp_bind',Sem.wp_run,wpCode_iff_wp]
 show Sem.wp (model p w) (Γb p (behindTheImports p) p1) (denote table (.body (behindTheImports p) (envT p))) _ _ p1 s1
 show Sem.wp (model p w) (Γb p (behindTheImports p) p1) (blockStart (behindTheImports p) (envT p) >>= fun _=>((execs (behindTheImports p) (envT p)).onRaise (leaving (envT p))) >>= fun f=>(pure (.done f):Sem Fin)) _ _ p1 s1
 have hBr:=bs_run (eB p1)
 have hCr:=fun q tk=>bs_run (eC p1 q tk)
 suffices H:Sem.wp (model p w) (Γb p (behindTheImports p) p1) (blockStart (behindTheImports p) (envT p) >>= fun _=>execs (behindTheImports p) (envT p))
   (fun f _ s'=>f= .next∧P s') (fun _ _ _=>False) p1 s1 by
  rw[Sem.wp_bind'] at H ⊢
  refine Sem.wp_mono _ _ _ (fun _ q s h=>?_) (fun _ _ _ (x:False)=>x.elim) _ _ H
  rw[Sem.wp_bind',Sem.wp_onRaise]
  refine Sem.wp_mono _ _ _ (fun f q' s' h'=>?_) (fun _ _ _ (x:False)=>x.elim) _ _ h
  obtain⟨rfl,h1⟩:=h'
  exact⟨rfl,h1⟩
 rw[hB]
 rw[← hB]
 suffices H:Sem.wp (model p w) (Γb p (behindTheImports p) p1) (treeB p (behindTheImports p) G1)
   (fun f q s'=>f= .next∧Sem.wp (model p w) (Γb p (behindTheImports p) p1) (execs (d.stmt::G2) (envT p)) (fun f _ s'=>f= .next∧P s') (fun _ _ _=>False) q s') (fun _ _ _=>False) p1 s1 by
  unfold treeB at H
  rw[← PySem.W.Fast.te1066825118222455980,← PySem.W.Fast.te12563942051412417395,Sem.wp_bind'] at H
  rw[Sem.wp_bind']
  refine Sem.wp_mono _ _ _ (fun _ q s h=>?_) (fun _ _ _ (x:False)=>x.elim) _ _ H
  have e:execs (behindTheImports p) (envT p)=execs (G1++d.stmt::G2) (envT p):=by rw[← hB]
  rw[e]
  refine execs_app _ _ _ _ (Sem.wp_mono _ _ _ (fun f q' s' h'=>?_) (fun _ _ _ (x:False)=>x.elim) _ _ h)
  obtain⟨rfl,h1⟩:=h'
  exact h1
 refine hBr.2 s1 _ _ K1 fun f q s2 hf K2 F2=>?_
 have hfn:f= .next:=isNext_eq hf
 refine⟨hfn,?_⟩
 have e3:exec d.stmt (envT p)=(do standAt d.ap; let v ← eval (.Dict d.keys d.values d.dp) (envT p); standAt d.px; bindName (envT p) d.x v; pure .next):=exec_Assign_Name _ _ _ _ _ rfl
 rw[execs_cons,e3]
 simp -iota only[Sem.wp_bind',Sem.wp_cmd_standAt]
 obtain⟨pairs,ep,gp⟩:=constPairs_gives (env:=envT p) (dp:=d.dp) hc
 have ed:eval (.Dict d.keys d.values d.dp) (envT p)=(do standAt d.dp; dictDisplay (pairs.map fun x=>(some x.1,x.2))):=by
  rw[arm_eval_Dict,ep]
 rw[ed,Sem.wp_bind',Sem.wp_cmd_standAt]
 have hΓ:(Γb p (behindTheImports p) p1).In ⟨none,100000,none,none,100000⟩:=by
  refine⟨rfl,?_,(fun l h=>by cases h),(fun l h=>by cases h),?_⟩
  ·show frameCount [(Code.builtin "claim.caller" {},p1)]+(Code.body (behindTheImports p) (envT p)).weight≤100000
   have h1:(Code.body (behindTheImports p) (envT p)).weight≤10:=by
    show (1+0+0+0)≤10
    decide
   have h2:frameCount [(Code.builtin "claim.caller" {},p1)]≤99990:=by
    rw[frameCount_cons]
    show (Code.builtin "claim.caller" {}).weight+0≤99990
    decide+kernel
   lia
  ·show (Code.body (behindTheImports p) (envT p)).cUnits+unitsOf [(Code.builtin "claim.caller" {},p1)]≤100000
   have h1:(Code.body (behindTheImports p) (envT p)).cUnits≤10:=by
    show (3:Nat)≤10
    decide
   have h2:unitsOf [(Code.builtin "claim.caller" {},p1)]≤99990:=by
    show (Code.builtin "claim.caller" {}).cUnits+0≤99990
    decide+kernel
   lia
 have hsz:s2.heap.objs.size=n₀:=K2.size.trans (eBn p1)
 refine Sem.wp_mono _ _ _ (fun v q' s' (h:∀ q',_)=>h q') (fun _ _ _ x=>x) _ _ (display_gives (A:=⟨none,100000,none,none,100000⟩) (E:=fun _ _=>False) (s:=s2) gp hnd hz hne (by rw[hsz]; exact hn₀) (fun dd h' tk es hI hE hs hd hk=>?_) _ _ hΓ)
 intro q'
 have hdd:dd=(kB p w (behindTheImports p) G1 p1).n:=hd.symm.trans K2.size
 subst hdd
 have K3:KOk ⟨(kB p w (behindTheImports p) G1 p1).kn,(kB p w (behindTheImports p) G1 p1).n+(tbl.length+16) / 17,tk⟩ { s2 with heap:=h',toks:=tk }:=
  ⟨by show h'.objs.size=_; rw[hs,hd],rfl,fun a o e=>hk a o (K2.kn a o e)⟩
 have H:=(hCr q' tk).2 { s2 with heap:=h',toks:=tk } (fun f _ s'=>f=Flow.next∧P s') (fun _ _ _=>False) K3 (fun f q'' s'' hf'' K4 F4=>?_)
 ·unfold treeC at H
  rw[← PySem.W.Fast.te12563942051412417395] at H
  simp -iota only[Sem.wp_bind',Sem.wp_cmd_standAt] at H
  simp -iota only[Sem.wp_pure']
  exact H
 ·have hfn'':f= .next:=isNext_eq hf''
  refine⟨hfn'',hP s'' p1 q' tk es (F4.gens.trans (F2.gens.trans F1.gens)) (F4.os.trans (F2.os.trans F1.os)) K4 ?_ hE⟩
  have:n₀=(kB p w (behindTheImports p) G1 p1).n:=(eBn p1).symm
  rw[this]
  refine hI.keep fun o e=>F4.keep _ o ?_ e
  show kget (kB p w (behindTheImports p) G1 p1).kn _=none
  rw[← this]
  exact eBk p1
theorem top_wp {p:Program}{w:World}{os:OsState}(G1 G2:List Stmt)(d:DictStmt)(tbl:List (Int×Str))(n₀:Nat)
  (hB:behindTheImports p=G1++d.stmt::G2) (hc:constPairs d.keys d.values=some tbl) (hnd:(tbl.map Prod.fst).Nodup) (hz:tbl.length≤100000) (hne:tbl≠[])
  (eA:okB tyA (runA p w)=true)
  (eB:∀ p1,okB isNext (runB p w (behindTheImports p) G1 p1)=true) (eBn:∀ p1,(kB p w (behindTheImports p) G1 p1).n=n₀) (eBk:∀ p1,kget (kB p w (behindTheImports p) G1 p1).kn n₀=none) (hn₀:1 < n₀)
  (eC:∀ p1 q tk,okB isNext (runC p w (behindTheImports p) G1 d.x d.px G2 ((tbl.length+16) / 17) p1 q tk)=true):
  Sem.wp (model p w) Γq (topStub p).cur (fun fin _ s'=>fin= .done (.ret .none)∧s'.gens=#[]∧(s'.os=os∧∃ p1 q tk es,KOk (kC p w (behindTheImports p) G1 d.x d.px G2 ((tbl.length+16) / 17) p1 q tk) s'∧IDict s'.heap n₀ es∧Paired isEnt tbl es.toList))
   (fun _ _ _=>False) default ⟨boot_heap w.params,#[],boot_drawn,boot_toks,os⟩:=
 top_wpP G1 G2 d tbl n₀ hB hc hnd hz hne eA eB eBn eBk hn₀ eC fun s' p1 q tk es h1 h2 h3 h4 h5=>⟨h1,h2,p1,q,tk,es,h3,h4,h5⟩
inductive PV where
 | none
 | bool (b:Bool)
 | int (i:Int)
 | str (s:Str)
 | tup (xs:List PV)
 | lst (i:Nat)
inductive CD where
 | lst (xs:List PV)
 | acc (di:Nat) (xs:List PV)
 | dct (kvs:List (Str×PV))
 | ins (kvs:List (Str×PV))
structure Cell where
 ver:Nat
 d:CD
noncomputable abbrev Sto:=List Cell
noncomputable abbrev LE:=List (Str×PV)
noncomputable abbrev Fn:=List PV→Sto→Option (PV×Sto)
structure Gl where
 fn:Str→Option Fn
 con:Str→Option PV
 set:Str→Option (Int→Bool):=fun _=>none
 tab:Str→Option (Int→Option Str):=fun _=>none
 meth:Str→Option Fn
 lenA:Fn
 strA:Fn
noncomputable def setCell (σ:Sto)(i:Nat)(d:CD):Sto:=σ.modify i fun c=>⟨c.ver+1,d⟩
noncomputable def getL (σ:Sto)(i:Nat):Option (List PV):=match σ[i]? with
 | some c=>match c.d with
  | .lst xs=>some xs
  | _=>none
 | none=>none
noncomputable def bigN:Nat:=2 ^ 256
mutual
noncomputable def toD:Nat→Sto→PV→Option PyData
 | 0,_,_=>none
 | n+1,σ,v=>match v with
  | .none=>some .none
  | .bool b=>some (.bool b)
  | .int i=>some (.int i)
  | .str x=>some (.str x)
  | .tup xs=>opt (toDs n σ xs) fun ds=>some (.tuple ds)
  | .lst i=>opt (getL σ i) fun xs=>opt (toDs n σ xs) fun ds=>some (.list ds)
noncomputable def toDs:Nat→Sto→List PV→Option (List PyData)
 | 0,_,_=>none
 | n+1,σ,vs=>match vs with
  | []=>some []
  | v::vs=>opt (toD n σ v) fun d=>opt (toDs n σ vs) fun ds=>some (d::ds)
end
noncomputable def eqD (σ:Sto)(a b:PV):Option Bool:=opt (toD 100000 σ a) fun da=>opt (toD 100000 σ b) fun db=>grd (da.canLay0=true∧db.canLay0=true∧min da.depth db.depth≤8) (some (PyData.eqv da db))
noncomputable def eqV (σ:Sto)(a b:PV):Option Bool:=match a with
 | .int i=>match b with
  | .int j=>some (decide (i=j))
  | b=>eqD σ (.int i) b
 | .str s=>match b with
  | .str t=>some (decide (s=t))
  | b=>eqD σ (.str s) b
 | a=>eqD σ a b
inductive Fl where
 | nxt
 | brk
 | ret (v:PV)
structure Cx where
 names:List (Str×NameKind)
 le:LE
noncomputable def putLE (l:LE)(n:Str)(v:PV):LE:=(n,v)::l.filter fun x=>!decide (x.1=n)
noncomputable def stores (cx:Cx)(n:Str):Bool:=match cx.names.lookup n with
 | some k=>match k with
  | .local=>true
  | .cell=>true
  | _=>false
 | none=>false
noncomputable def bindN (cx:Cx)(n:Str)(v:PV):Option Cx:=if stores cx n then some ⟨cx.names,putLE cx.le n v⟩ else none
noncomputable def onName {β:Type}(e:Expr)(f:Str→Option β):Option β:=match e with
 | .Name g _=>f g
 | _=>none
theorem onName_ind {β:Type}{r:β}{P:Expr→Prop}{e:Expr}{f:Str→Option β}(h:onName e f=some r)(h1:∀ g p,f g=some r→P (.Name g p)):P e:=by
 cases e with
 | Name g p=>exact h1 g p h
 | _=>exact nos h
noncomputable def bindNs (cx:Cx):List Expr→List PV→Option Cx
 | [],[]=>some cx
 | e::es,v::vs=>onName e fun n=>opt (bindN cx n v) fun cx'=>bindNs cx' es vs
 | _,_=>none
noncomputable def onTup {β:Type}(v:PV)(f:List PV→Option β):Option β:=match v with
 | .tup i=>f i
 | _=>none
noncomputable def bindT (cx:Cx)(t:Expr)(v:PV):Option Cx:=match t with
 | .Name n _=>bindN cx n v
 | .Tuple es _ _=>onTup v fun vs=>bindNs cx es vs
 | _=>none
noncomputable def watch (σ:Sto)(w:Option (Nat×Nat)):Bool:=match w with
 | none=>true
 | some (i,v)=>match σ[i]? with
  | some c=>Nat.beq c.ver v
  | none=>false
noncomputable def onFree {β:Type}(k:NameKind)(o:Option β):Option β:=match k with
 | .free=>o
 | _=>none
theorem onFree_some {β:Type}{r:β}{k:NameKind}{o:Option β}(h:onFree k o=some r):k= .free∧o=some r:=by
 cases k with
 | free=>exact⟨rfl,h⟩
 | _=>exact nos h
noncomputable def onCel {β:Type}(k:NameKind)(o:Option β):Option β:=match k with
 | .cell=>o
 | _=>none
theorem onCel_some {β:Type}{r:β}{k:NameKind}{o:Option β}(h:onCel k o=some r):k= .cell∧o=some r:=by
 cases k with
 | cell=>exact⟨rfl,h⟩
 | _=>exact nos h
noncomputable def capt1 (cx:Cx)(x:Str×NameKind):Option (Str×PV):=onFree x.2 (opt (cx.names.lookup x.1) fun k=>onCel k ((cx.le.lookup x.1).map fun v=>(x.1,v)))
noncomputable def capt (cx:Cx)(cnames:List (Str×NameKind)):LE:=cnames.filterMap (capt1 cx)
noncomputable def isV (a b:PV):Option Bool:=match b with
 | .none=>match a with
  | .none=>some true
  | _=>some false
 | .bool y=>match a with
  | .bool x=>some (decide (x=y))
  | .none=>some false
  | .int _=>some false
  | .str _=>some false
  | _=>none
 | _=>none
noncomputable def strsOf:List PV→Option (List Str)
 | []=>some []
 | v::vs=>match v with
  | .str s=>(strsOf vs).map (s::·)
  | _=>none
noncomputable def inV (a b:PV):Option Bool:=match a with
 | .str s=>match b with
  | .str t=>some (Txt.contains t s)
  | .tup ys=>opt (strsOf ys) fun ts=>some (ts.any fun t=>t==s)
  | _=>none
 | _=>none
noncomputable def ordV2 (a b:PV)(f:Int→Int→Bool):Option Bool:=match a with
 | .int i=>match b with
  | .int j=>some (f i j)
  | _=>none
 | _=>none
noncomputable def cmpV (op:CmpOp)(σ:Sto)(a b:PV):Option Bool:=match op with
 | .Eq=>eqV σ a b
 | .NotEq=>(eqV σ a b).map (!·)
 | .Is=>isV a b
 | .IsNot=>(isV a b).map (!·)
 | .In=>inV a b
 | .NotIn=>(inV a b).map (!·)
 | .Lt=>ordV2 a b fun i j=>decide (i < j)
 | .LtE=>ordV2 a b fun i j=>decide (i≤j)
 | .Gt=>ordV2 a b fun i j=>decide (i > j)
 | .GtE=>ordV2 a b fun i j=>decide (i≥j)
noncomputable def slicePick' (xs:List PV)(lo hi st:Option Int):List PV:=
 (sliceRange (sliceBounds lo hi st xs.length).1 (sliceBounds lo hi st xs.length).2.1 (sliceBounds lo hi st xs.length).2.2).filterMap (xs[·]?)
noncomputable def signs (s:Str):List PV:=s.cps.toList.map fun c=> .str ⟨#[c]⟩
noncomputable def ranged (a b c:Int):Option (List PV):=
 if c≠0∧c.natAbs < 1073741824∧Builtin.Range.small a b c=true∧0≤Builtin.Range.rangeSize a b c∧(Builtin.Range.rangeSize a b c).toNat≤1000 then
  some ((List.range (Builtin.Range.rangeSize a b c).toNat).map fun (k:Nat)=> .int (a+c * (k:Int))) else none
noncomputable def itV (v:PV)(σ:Sto):Option (List PV×Option (Nat×Nat)×Sto):=match v with
 | .str s=>some (signs s,none,σ)
 | .tup xs=>some (xs,none,σ)
 | .lst i=>match σ[i]? with
  | some c=>match c.d with
   | .lst xs=>some (xs,some (i,c.ver),σ)
   | _=>none
  | none=>none
 | _=>none
noncomputable def enumed:Nat→List PV→List PV
 | _,[]=>[]
 | k,x::xs=> .tup [.int (k:Int),x]::enumed (k+1) xs
noncomputable def find4 (x y:Str)(lo hi:Int):Int:=match Builtin.Str.occurrences x y (fromIndex x.length lo) (min (fromIndex x.length hi) x.length) 1 with
 | k::_=>(k:Int)
 | []=> -1
noncomputable def sliStr (x:Str)(lo hi st:Option Int):Str:=
 let picked:=Builtin.Str.strSliceIndices lo hi (st.getD 1) x.length
 if (st.getD 1==1&&picked.length==x.length)=true then x else ⟨(picked.filterMap (x.cps[·]?)).toArray⟩
noncomputable def partV (v:PV):Option (Option Int):=match v with
 | .none=>some none
 | .int i=>some (some i)
 | _=>none
noncomputable def constV (c:Const):Option PV:=match c with
 | .none=>some .none
 | .bool b=>some (.bool b)
 | .int i=>some (.int i)
 | .str s=>some (.str s)
 | _=>none
noncomputable def kindN:CD→Nat
 | .lst _=>0
 | .acc _ _=>1
 | .dct _=>2
 | .ins _=>3
noncomputable def kindAt (σ:Sto)(a:PV):Option Nat:=match a with
 | .lst i=>match σ[i]? with
  | some c=>some (kindN c.d)
  | none=>none
 | _=>none
noncomputable def insOk (d:CD):Bool:=match d with
 | .ins kvs=>match kvs with
  | []=>false
  | p::l=>match l with
   | []=>match p.2 with
    | .int _=>decide (p.1="_initial_size")
    | _=>false
   | _::_=>false
 | _=>false
noncomputable def accC (σ:Sto)(d:CD):Bool:=match d with
 | .acc di _=>optB σ[di]? false fun c=>insOk c.d
 | _=>true
noncomputable def accOk (σ:Sto)(a:PV):Bool:=match a with
 | .lst i=>optB σ[i]? true fun c=>accC σ c.d
 | _=>true
noncomputable def baseOk (o:Expr):Bool:=match o with
 | .Call (.Name id _) [] [] _=>id !="super"
 | _=>true
noncomputable def scopeOk (cx:Cx)(scope:Scope):Bool:=
 scope.kind== .function&&scope.names.all fun x=>x.2 != .cell&&(x.2 != .local || scope.names.lookup x.1==some .local)&&
  (x.2 != .free || (scope.names.lookup x.1==some .free&&cx.names.lookup x.1==some .cell))
noncomputable def iterOk (it t:Expr):Bool:=match it with
 | .Call (.Name g _) _ _ _=>if g="enumerate"∨g="zip" then (match t with | .Tuple ..=>true | _=>false) else true
 | _=>true
noncomputable def setName (G:Gl)(cx:Cx)(op:CmpOp)(r:Expr):Option (Int→Bool):=match op with
 | .In=>onName r fun g=>grd (cx.names.lookup g=some .globalImplicit∧g≠"__debug__"∧behindInMarks op r=false) (G.set g)
 | _=>none
noncomputable def tabName (G:Gl)(cx:Cx)(o:Expr)(m:Str):Option (Int→Option Str):=onName o fun g=>grd (cx.names.lookup g=some .globalImplicit∧g≠"__debug__"∧m="get") (G.tab g)
noncomputable def ofText (x:Option Str):PV:=match x with
 | some s=> .str s
 | none=> .none
noncomputable def nameOf (e:Expr):Option Str:=match e with
 | .Name n _=>some n
 | _=>none
noncomputable def storesOk (t v:Expr):Bool:=match t with
 | .Tuple ts _ _=>(ts.map nameOf).Nodup&&(match v with
  | .Tuple vs _ _=> !(vs.all (constantsAlone 8)) || vs.all (foldedForSure 8)
  | _=>true)
 | .Name ..=>true
 | _=>false
section
variable {β:Type}{r:β}
noncomputable def onB (b:Bool)(x y:Option β):Option β:=match b with
 | true=>x
 | false=>y
noncomputable def onInt (v:PV)(f:Int→Option β):Option β:=match v with
 | .int i=>f i
 | _=>none
theorem onInt_ind {P:PV→Prop}{v:PV}{f:Int→Option β}(h:onInt v f=some r)(h1:∀ i,f i=some r→P (.int i)):P v:=by
 cases v with
 | int i=>exact h1 i h
 | _=>exact nos h
theorem onInt_some {v:PV}{f:Int→Option β}(h:onInt v f=some r):∃ i,v= .int i∧f i=some r:=onInt_ind (P:=fun v=>∃ i,v= .int i∧f i=some r) h fun i h=>⟨i,rfl,h⟩
noncomputable def rangeArgs (vs:List PV):Option (Int×Int×Int):=match vs with
 | []=>none
 | u::t=>match t with
  | []=>onInt u fun b=>some (0,b,1)
  | v::t=>match t with
   | []=>onInt u fun a=>onInt v fun b=>some (a,b,1)
   | w::t=>match t with
    | []=>onInt u fun a=>onInt v fun b=>onInt w fun c=>some (a,b,c)
    | _::_=>none
theorem range_ind {P:List PV→Int×Int×Int→Prop}{vs:List PV}{x:Int×Int×Int}(h:rangeArgs vs=some x)(h1:∀ b,P [.int b] (0,b,1))(h2:∀ a b,P [.int a,.int b] (a,b,1))(h3:∀ a b c,P [.int a,.int b,.int c] (a,b,c)):P vs x:=by
 cases vs with
 | nil=>exact nos h
 | cons u t=>cases t with
  | nil=>
   obtain⟨b,e,h⟩:=onInt_some h
   exact e▸Option.some.inj h▸h1 b
  | cons v t=>cases t with
   | nil=>
    obtain⟨a,e,h4⟩:=onInt_some h
    obtain⟨b,e',h5⟩:=onInt_some h4
    exact e▸e'▸Option.some.inj h5▸h2 a b
   | cons w t=>cases t with
    | nil=>
     obtain⟨a,e,h4⟩:=onInt_some h
     obtain⟨b,e',h5⟩:=onInt_some h4
     obtain⟨c,e'',h6⟩:=onInt_some h5
     exact e▸e'▸e''▸Option.some.inj h6▸h3 a b c
    | cons _ _=>exact nos h
noncomputable def onLst (v:PV)(f:Nat→Option β):Option β:=match v with
 | .lst i=>f i
 | _=>none
theorem onLst_ind {P:PV→Prop}{v:PV}{f:Nat→Option β}(h:onLst v f=some r)(h1:∀ i,f i=some r→P (.lst i)):P v:=by
 cases v with
 | lst i=>exact h1 i h
 | _=>exact nos h
theorem onLst_some {v:PV}{f:Nat→Option β}(h:onLst v f=some r):∃ i,v= .lst i∧f i=some r:=onLst_ind (P:=fun v=>∃ i,v= .lst i∧f i=some r) h fun i h=>⟨i,rfl,h⟩
theorem onTup_ind {P:PV→Prop}{v:PV}{f:List PV→Option β}(h:onTup v f=some r)(h1:∀ i,f i=some r→P (.tup i)):P v:=by
 cases v with
 | tup i=>exact h1 i h
 | _=>exact nos h
theorem onTup_some {v:PV}{f:List PV→Option β}(h:onTup v f=some r):∃ i,v= .tup i∧f i=some r:=onTup_ind (P:=fun v=>∃ i,v= .tup i∧f i=some r) h fun i h=>⟨i,rfl,h⟩
noncomputable def accD (d:CD)(f:Nat→List PV→Option β):Option β:=match d with
 | .acc di xs=>f di xs
 | _=>none
theorem accD_some {d:CD}{f:Nat→List PV→Option β}(h:accD d f=some r):∃ di xs,d= .acc di xs∧f di xs=some r:=by
 cases d with
 | acc di xs=>exact⟨di,xs,rfl,h⟩
 | _=>exact nos h
noncomputable def onStr (v:PV)(f:Str→Option β):Option β:=match v with
 | .str i=>f i
 | _=>none
theorem onStr_ind {P:PV→Prop}{v:PV}{f:Str→Option β}(h:onStr v f=some r)(h1:∀ i,f i=some r→P (.str i)):P v:=by
 cases v with
 | str i=>exact h1 i h
 | _=>exact nos h
theorem onStr_some {v:PV}{f:Str→Option β}(h:onStr v f=some r):∃ i,v= .str i∧f i=some r:=onStr_ind (P:=fun v=>∃ i,v= .str i∧f i=some r) h fun i h=>⟨i,rfl,h⟩
noncomputable def one {α:Type}(l:List α)(f:α→Option β):Option β:=match l with
 | [a]=>f a
 | _=>none
theorem one_some {α:Type}{l:List α}{f:α→Option β}(h:one l f=some r):∃ a,l=[a]∧f a=some r:=by
 match l with
 | []=>exact nos h
 | [a]=>exact⟨a,rfl,h⟩
 | _::_::_=>exact nos h
theorem one_ind {α:Type}{P:List α→Prop}{l:List α}{f:α→Option β}(h:one l f=some r)(h1:∀ a,f a=some r→P [a]):P l:=by
 cases l with
 | nil=>exact nos h
 | cons a t=>cases t with
  | nil=>exact h1 a h
  | cons _ _=>exact nos h
noncomputable def two {α:Type}(l:List α)(f:α→α→Option β):Option β:=match l with
 | [a,b]=>f a b
 | _=>none
theorem two_some {α:Type}{l:List α}{f:α→α→Option β}(h:two l f=some r):∃ a b,l=[a,b]∧f a b=some r:=by
 match l with
 | []=>exact nos h
 | [a]=>exact nos h
 | [a,b]=>exact⟨a,b,rfl,h⟩
 | _::_::_::_=>exact nos h
noncomputable def noneL {α:Type}(l:List α)(x:Option β):Option β:=match l with
 | []=>x
 | _::_=>none
theorem noneL_some {α:Type}{l:List α}{x:Option β}(h:noneL l x=some r):l=[]∧x=some r:=by
 cases l with
 | nil=>exact⟨rfl,h⟩
 | cons _ _=>exact nos h
noncomputable def on2 (a b:PV)(ii:Int→Int→Option β)(ss:Str→Str→Option β)(si:Str→Int→Option β)(ll:Nat→Nat→Option β):Option β:=match a with
 | .int i=>onInt b fun j=>ii i j
 | .str s=>match b with
  | .str t=>ss s t
  | .int j=>si s j
  | _=>none
 | .lst i=>onLst b fun j=>ll i j
 | _=>none
theorem on2_ind {P:PV→PV→Prop}{a b:PV}{ii:Int→Int→Option β}{ss:Str→Str→Option β}{si:Str→Int→Option β}{ll:Nat→Nat→Option β}(h:on2 a b ii ss si ll=some r)
  (h1:∀ i j,ii i j=some r→P (.int i) (.int j)) (h2:∀ i j,ss i j=some r→P (.str i) (.str j)) (h3:∀ i j,si i j=some r→P (.str i) (.int j)) (h4:∀ i j,ll i j=some r→P (.lst i) (.lst j)):P a b:=by
 cases a with
 | int i=>cases b with
  | int j=>exact h1 i j h
  | _=>exact nos h
 | str i=>cases b with
  | str j=>exact h2 i j h
  | int j=>exact h3 i j h
  | _=>exact nos h
 | lst i=>cases b with
  | lst j=>exact h4 i j h
  | _=>exact nos h
 | _=>exact nos h
noncomputable def onAdd (op:Operator)(x:Option β):Option β:=match op with
 | .Add=>x
 | _=>none
theorem onAdd_ind {P:Operator→Prop}{op:Operator}{x:Option β}(h:onAdd op x=some r)(h1:x=some r→P .Add):P op:=by
 cases op with
 | Add=>exact h1 h
 | _=>exact nos h
noncomputable def onMult (op:Operator)(x:Option β):Option β:=match op with
 | .Mult=>x
 | _=>none
theorem onMult_ind {P:Operator→Prop}{op:Operator}{x:Option β}(h:onMult op x=some r)(h1:x=some r→P .Mult):P op:=by
 cases op with
 | Mult=>exact h1 h
 | _=>exact nos h
noncomputable def opK (op:Operator)(a s m d f p:Option β):Option β:=match op with
 | .Add=>a
 | .Sub=>s
 | .Mult=>m
 | .Mod=>d
 | .FloorDiv=>f
 | .Pow=>p
 | _=>none
theorem opK_ind {P:Operator→Prop}{op:Operator}{a s m d f p:Option β}(h:opK op a s m d f p=some r)
  (h1:a=some r→P .Add) (h2:s=some r→P .Sub) (h3:m=some r→P .Mult) (h4:d=some r→P .Mod) (h5:f=some r→P .FloorDiv) (h6:p=some r→P .Pow):P op:=by
 cases op with
 | Add=>exact h1 h
 | Sub=>exact h2 h
 | Mult=>exact h3 h
 | Mod=>exact h4 h
 | FloorDiv=>exact h5 h
 | Pow=>exact h6 h
 | _=>exact nos h
noncomputable def binLK (op:Operator)(a b:PV)(σ:Sto)(k:PV→Sto→Option β):Option β:=on2 a b
 (fun i j=>opK op (k (.int (i+j)) σ) (k (.int (i - j)) σ) (grd (i.natAbs < bigN∧j.natAbs < bigN) (k (.int (i * j)) σ)) (if j=0 then none else k (.int (Int.fmod i j)) σ)
  (if j=0 then none else grd (j.natAbs < 1073741824) (k (.int (Int.fdiv i j)) σ)) (grd (0≤j∧j≤20∧i.natAbs≤10) (k (.int (i ^ j.toNat)) σ)))
 (fun s t=>onAdd op (grd ((s++t).length≤100000) (k (.str (s++t)) σ)))
 (fun s j=>onMult op (grd (0≤j∧j≤1000∧s.length≤1000) (k (.str (Txt.mul s j)) σ)))
 (fun i j=>onAdd op (opt (getL σ i) fun xs=>opt (getL σ j) fun ys=>grd (xs.length+ys.length≤10000) (k (.lst σ.length) (σ++[⟨0,.lst (xs++ys)⟩]))))
noncomputable def truthK (v:PV)(k:Bool→Option β):Option β:=match v with
 | .none=>k false
 | .bool b=>k b
 | .int i=>k (i !=0)
 | .str s=>grd (s.length≤1000000) (k ((s.length:Int) !=0))
 | _=>none
noncomputable def lenVK (a:PV)(σ:Sto)(k:PV→Option β):Option β:=match a with
 | .str q=>grd (q.length≤100000) (k (PV.int q.length))
 | .tup xs=>grd (xs.length≤100000) (k (PV.int xs.length))
 | .lst i=>opt (getL σ i) fun xs=>grd (xs.length≤100000) (k (PV.int xs.length))
 | _=>none
noncomputable def liftK (x:Option (PV×Sto))(k:PV→Sto→Option β):Option β:=match x with
 | some (v,σ)=>k v σ
 | none=>none
theorem liftK_el {C:Prop}{x:Option (PV×Sto)}{k:PV→Sto→Option β}(h:liftK x k=some r)(q:∀ v σ,x=some (v,σ)→k v σ=some r→C):C:=by
 cases x with
 | none=>exact nos h
 | some p=>exact q p.1 p.2 rfl h
noncomputable def onAcc (v:PV)(σ:Sto)(x y:Option β):Option β:=match v with
 | .lst i=>match σ[i]? with
  | some c=>match c.d with
   | .acc _ _=>x
   | _=>y
  | none=>none
 | _=>y
theorem onAcc_some {v:PV}{σ:Sto}{x y:Option β}(h:onAcc v σ x y=some r):x=some r∨y=some r:=by
 cases v with
 | lst i=>
  unfold onAcc at h
  dsimp only at h
  cases hc:σ[i]? with
  | none=>rw[hc] at h; cases h
  | some c=>
   rw[hc] at h
   dsimp only at h
   cases hd:c.d <;> rw[hd] at h <;> first | exact .inl h | exact .inr h
 | _=>exact .inr h
noncomputable def bK (β:Type)(G:Gl)(f:Str)(args:List PV)(σ:Sto)(k:PV→Sto→Option β):Option β:=
 if f="len" then one args fun a=>onAcc a σ (liftK (G.lenA [a] σ) k) (lenVK a σ fun v=>k v σ)
 else if f="chr" then one args fun a=>onInt a fun i=>grd (0≤i∧i≤1114111) (k (.str ⟨#[i.toNat]⟩) σ)
 else if f="ord" then one args fun a=>onStr a fun s=>one s.cps.toList fun c=>k (.int (c:Int)) σ
 else if f="str" then one args fun a=>onAcc a σ (liftK (G.strA [a] σ) k) none
 else none
noncomputable def callBK (G:Gl)(f:Str)(args:List PV)(σ:Sto)(k:PV→Sto→Option β):Option β:=bK β G f args σ k
noncomputable def sM (m:Str)(x:Str)(args:List PV)(σ:Sto)(k:PV→Sto→Option β):Option β:=match args with
 | []=>if m="upper" then grd ((Txt.upper x).length≤100000) (k (.str (Txt.upper x)) σ) else if m="lower" then grd ((Txt.lower x).length≤100000) (k (.str (Txt.lower x)) σ) else none
 | [v]=>match v with
  | .str y=>
   if m="startswith" then k (.bool (Txt.startswith x y)) σ else
   if m="endswith" then k (.bool (Txt.endswith x y)) σ else
   if m="count" then k (.int (Txt.count x y)) σ else
   if m="split" then (if y.length=0 then none else
    grd ((Txt.split x y).length≤1000∧x.length≤100000) (k (.lst σ.length) (σ++[⟨0,.lst ((Txt.split x y).map .str)⟩]))) else none
  | .lst i=>if m="join" then opt (getL σ i) fun xs=>opt (strsOf xs) fun ts=>grd (JoinOk x ts=true) (k (.str (Txt.join x ts)) σ) else none
  | _=>none
 | [v,a,b]=>onStr v fun y=>onInt a fun lo=>onInt b fun hi=>if m="find" then grd (0≤lo∧0≤hi∧hi≤x.length) (k (.int (find4 x y lo hi)) σ) else none
 | _=>none
noncomputable def lM (G:Gl)(i:Nat)(m:Str)(args:List PV)(σ:Sto)(k:PV→Sto→Option β):Option β:=opt σ[i]? fun c=>match c.d with
 | .lst xs=>one args fun v=>if m="append" then grd (xs.length≤10000) (k .none (setCell σ i (.lst (xs++[v])))) else none
 | .acc _ _=>opt (G.meth m) fun F=>liftK (F (.lst i::args) σ) k
 | _=>none
noncomputable def callMK (G:Gl)(o:PV)(m:Str)(args:List PV)(σ:Sto)(k:PV→Sto→Option β):Option β:=match o with
 | .str x=>sM m x args σ k
 | .lst i=>lM G i m args σ k
 | _=>none
noncomputable def itemK (j:Int)(xs:List PV)(k:PV→Option β):Option β:=opt (seqIndex? j xs.length) fun p=>opt xs[p]? k
noncomputable def subK (a:PV)(i:PV)(σ:Sto)(k:PV→Option β):Option β:=match a with
 | .str s=>onInt i fun j=>grd (fitsSsize j=true∧(Txt.charAt s j).isSome=true) (k (.str (Txt.item s j)))
 | .tup xs=>onInt i fun j=>grd (-(2 ^ 63)≤j∧j < 2 ^ 63) (itemK j xs k)
 | .lst c=>match i with
  | .int j=>grd (-(2 ^ 63)≤j∧j < 2 ^ 63) (opt (getL σ c) fun xs=>itemK j xs k)
  | .str n=>opt σ[c]? fun cell=>match cell.d with
   | .dct kvs=>opt (kvs.lookup n) k
   | _=>none
  | _=>none
 | _=>none
noncomputable def sliK (a:PV)(lo hi st:Option Int)(σ:Sto)(k:PV→Sto→Option β):Option β:=
 if st=some 0 then none else match a with
 | .str s=>grd (s.length≤100000) (k (.str (sliStr s lo hi st)) σ)
 | .lst c=>opt (getL σ c) fun xs=>grd (xs.length≤100000) (k (.lst σ.length) (σ++[⟨0,.lst (slicePick' xs lo hi st)⟩]))
 | _=>none
noncomputable def cmpK (op:CmpOp)(σ:Sto)(a b:PV)(k:Bool→Option β):Option β:=opt (cmpV op σ a b) k
noncomputable def augK (op:Operator)(a b:PV)(k:PV→Option β):Option β:=on2 a b (fun i j=>opK op (k (.int (i+j))) (k (.int (i - j))) none none none none) (fun s t=>onAdd op (grd ((s++t).length≤100000) (k (.str (s++t))))) (fun _ _=>none) fun _ _=>none
end
section
variable {β:Type}{r:β}
noncomputable def nameK (G:Gl)(cx:Cx)(x:Str)(f:PV→Option β):Option β:=if x="__debug__"∨x="__classdict__" then none else match cx.le.lookup x with
 | some v=>f v
 | none=>opt (cx.names.lookup x) fun kd=>match kd with
  | .globalImplicit=>opt (G.con x) f
  | _=>none
theorem nameK_some {G:Gl}{cx:Cx}{x:Str}{f:PV→Option β}(h:nameK G cx x f=some r):∃ v,f v=some r∧¬ (x="__debug__"∨x="__classdict__")∧(cx.le.lookup x=some v∨(cx.names.lookup x=some .globalImplicit∧G.con x=some v)):=by
 obtain⟨hd,h⟩:=ifn_some h
 cases hl:cx.le.lookup x with
 | some v=>rw[hl] at h; exact⟨v,h,hd,.inl rfl⟩
 | none=>
  rw[hl] at h
  obtain⟨kd,hk,h⟩:=opt_some h
  cases kd with
  | globalImplicit=>obtain⟨v,hv,h⟩:=opt_some h; exact⟨v,h,hd,.inr ⟨hk,hv⟩⟩
  | _=>exact nos h
noncomputable def globK (cx:Cx)(g:Str)(x:Option β):Option β:=if g="__debug__" then none else match cx.le.lookup g with
 | some _=>none
 | none=>opt (cx.names.lookup g) fun kd=>match kd with
  | .globalImplicit=>x
  | _=>none
theorem globK_some {cx:Cx}{g:Str}{x:Option β}(h:globK cx g x=some r):(g==("__debug__":Str))=false∧cx.names.lookup g=some .globalImplicit∧x=some r:=by
 obtain⟨hd,h⟩:=ifn_some h
 have hd':(g==("__debug__":Str))=false:=beq_eq_false_iff_ne.mpr hd
 cases hl:cx.le.lookup g with
 | some v=>rw[hl] at h; cases h
 | none=>
  rw[hl] at h
  obtain⟨kd,hk,h⟩:=opt_some h
  cases kd with
  | globalImplicit=>exact⟨hd',hk,h⟩
  | _=>exact nos h
noncomputable def orElse {α:Type}(o:Option α)(f:α→Option β)(x:Option β):Option β:=match o with
 | some a=>f a
 | none=>x
theorem orElse_el {C:Prop}{α:Type}{o:Option α}{f:α→Option β}{x:Option β}(h:orElse o f x=some r)(h1:∀ a,o=some a→f a=some r→C)(h2:o=none→x=some r→C):C:=by
 cases o with
 | some a=>exact h1 a rfl h
 | none=>exact h2 rfl h
noncomputable def sliceOr (i:Expr)(f:Option Expr→Option Expr→Option Expr→Option β)(g:Option β):Option β:=match i with
 | .Slice lo hi st _=>f lo hi st
 | _=>g
theorem sliceOr_some {i:Expr}{f:Option Expr→Option Expr→Option Expr→Option β}{g:Option β}(h:sliceOr i f g=some r):
  (∃ lo hi st p,i= .Slice lo hi st p∧f lo hi st=some r)∨(∀ lo hi st p,i≠ .Slice lo hi st p)∧g=some r:=by
 by_cases hs:∃ lo hi st p,i= .Slice lo hi st p
 ·obtain⟨lo,hi,st,p,rfl⟩:=hs; exact .inl ⟨lo,hi,st,p,rfl,h⟩
 ·refine .inr ⟨fun lo hi st p e=>hs ⟨lo,hi,st,p,e⟩,?_⟩
  unfold sliceOr at h
  split at h
  ·exact (hs ⟨_,_,_,_,rfl⟩).elim
  ·exact h
noncomputable def callee (f:Expr)(x:Str→Option β)(y:Expr→Str→Pos→Option β):Option β:=match f with
 | .Name g _=>x g
 | .Attribute o m p=>y o m p
 | _=>none
theorem callee_ind {P:Expr→Prop}{f:Expr}{x:Str→Option β}{y:Expr→Str→Pos→Option β}(h:callee f x y=some r)(h1:∀ g p,x g=some r→P (.Name g p))(h2:∀ o m p,y o m p=some r→P (.Attribute o m p)):P f:=by
 cases f with
 | Name g p=>exact h1 g p h
 | Attribute o m p=>exact h2 o m p h
 | _=>exact nos h
noncomputable def isVal (e:Expr):Bool:=match e with
 | .UnaryOp ..=>false
 | .BoolOp ..=>false
 | .IfExp ..=>false
 | .Compare ..=>false
 | _=>true
theorem isVal_spec {e:Expr}(h:isVal e=true)(env:Env):isTrue e env (eval e env)=(do let v ← eval e env; standAt e.pos; holding [v] (truthy v)):=by
 cases e with
 | UnaryOp _ _ _=>cases h
 | BoolOp _ _ _=>cases h
 | IfExp _ _ _ _=>cases h
 | Compare _ _ _ _=>cases h
 | _=>rfl
noncomputable def onTest (e:Expr)(un:UnaryOp→Expr→Option β)(bo:BoolOp→List Expr→Option β)(cm:Expr→List CmpOp→List Expr→Option β):Option β:=match e with
 | .UnaryOp op x _=>un op x
 | .BoolOp op vs _=>bo op vs
 | .Compare l ops rs _=>cm l ops rs
 | _=>none
theorem onTest_ind {P:Expr→Prop}{e:Expr}{un:UnaryOp→Expr→Option β}{bo:BoolOp→List Expr→Option β}{cm:Expr→List CmpOp→List Expr→Option β}(h:onTest e un bo cm=some r)
  (h1:∀ op x p,un op x=some r→P (.UnaryOp op x p)) (h2:∀ op vs p,bo op vs=some r→P (.BoolOp op vs p)) (h3:∀ l ops rs p,cm l ops rs=some r→P (.Compare l ops rs p)):P e:=by
 cases e with
 | UnaryOp op x p=>exact h1 op x p h
 | BoolOp op vs p=>exact h2 op vs p h
 | Compare l ops rs p=>exact h3 l ops rs p h
 | _=>exact nos h
noncomputable def oneTwo (ops:List CmpOp)(rs:List Expr)(f:CmpOp→Expr→Option β)(g:CmpOp→CmpOp→Expr→Expr→Option β):Option β:=match ops with
 | [op]=>one rs fun r=>f op r
 | [op,op2]=>two rs fun r r2=>g op op2 r r2
 | _=>none
theorem oneTwo_ind {P:List CmpOp→List Expr→Prop}{ops:List CmpOp}{rs:List Expr}{f:CmpOp→Expr→Option β}{g:CmpOp→CmpOp→Expr→Expr→Option β}(h:oneTwo ops rs f g=some r)
  (h1:∀ op c,f op c=some r→P [op] [c]) (h2:∀ op op2 c d,g op op2 c d=some r→P [op,op2] [c,d]):P ops rs:=by
 cases ops with
 | nil=>exact nos h
 | cons op ops=>cases ops with
  | nil=>obtain⟨c,e,h⟩:=one_some h; rw[e]; exact h1 op c h
  | cons op2 ops=>cases ops with
   | nil=>obtain⟨c,d,e,h⟩:=two_some h; rw[e]; exact h2 op op2 c d h
   | cons _ _=>exact nos h
noncomputable def unK (op:UnaryOp)(s t:Option β):Option β:=match op with
 | .USub=>s
 | .Not=>t
 | _=>none
noncomputable def boK (op:BoolOp)(a o:Option β):Option β:=match op with
 | .And=>a
 | .Or=>o
noncomputable def isListK (cx:Cx)(t:Expr)(x:Option β):Option β:=callee t (fun t=>grd (t="list"∧(cx.le.lookup t).isNone∧cx.names.lookup t=some .globalImplicit) x) fun _ _ _=>none
theorem isListK_some {cx:Cx}{t:Expr}{x:Option β}(h:isListK cx t x=some r):∃ p,t= .Name "list" p∧cx.names.lookup ("list":Str)=some .globalImplicit∧x=some r:=
 callee_ind (P:=fun t=>∃ p,t= .Name "list" p∧cx.names.lookup ("list":Str)=some .globalImplicit∧x=some r) h (fun g p h=>⟨p,congrArg (Expr.Name · p) (grd_some h).1.1,(grd_some h).1.1▸(grd_some h).1.2.2,(grd_some h).2⟩) fun _ _ _ h=>nos h
noncomputable def onCall (e:Expr)(c:Str→List Expr→List Keyword→Option β)(pl:Option β):Option β:=match e with
 | .Call f args kws _=>match f with
  | .Name g _=>c g args kws
  | _=>pl
 | _=>pl
theorem onCall_ind {P:Expr→Prop}{e:Expr}{c:Str→List Expr→List Keyword→Option β}{pl:Option β}(h:onCall e c pl=some r)(h1:∀ g q args kws p,c g args kws=some r→P (.Call (.Name g q) args kws p))(h2:pl=some r→∀ e,P e):P e:=by
 cases e with
 | Call f args kws p=>cases f with
  | Name g q=>exact h1 g q args kws p h
  | _=>exact h2 h _
 | _=>exact h2 h _
noncomputable def iterK (cx:Cx)(e:Expr)(rg en:List Expr→Option β)(pl:Option β):Option β:=onCall e (fun g args kws=>
 if (g="range"∨g="enumerate"∨g="zip")∧¬ (cx.le.lookup g=none∧cx.names.lookup g=some .globalImplicit∧kws=[]) then none
   else if g="range" then rg args
   else if g="enumerate" then en args
   else if g="zip" then none
   else pl) pl
theorem iterK_some {cx:Cx}{e:Expr}{rg en:List Expr→Option β}{pl:Option β}(h:iterK cx e rg en pl=some r):
  (∃ args p pos,e= .Call (.Name "range" p) args [] pos∧cx.names.lookup ("range":Str)=some .globalImplicit∧rg args=some r)∨
  (∃ args p pos,e= .Call (.Name "enumerate" p) args [] pos∧cx.names.lookup ("enumerate":Str)=some .globalImplicit∧en args=some r)∨pl=some r:=
 onCall_ind (P:=fun e=>(∃ args p pos,e= .Call (.Name "range" p) args [] pos∧cx.names.lookup ("range":Str)=some .globalImplicit∧rg args=some r)∨
  (∃ args p pos,e= .Call (.Name "enumerate" p) args [] pos∧cx.names.lookup ("enumerate":Str)=some .globalImplicit∧en args=some r)∨pl=some r) h (fun g q args kws p h=>by
   obtain⟨hg,h1⟩:=ifn_some h
   rcases ite_some h1 with⟨e,h2⟩ | ⟨_,h2⟩
   ·obtain⟨_,hk,e'⟩:=Classical.not_not.mp fun hn=>hg ⟨.inl e,hn⟩
    rw[e,e']
    exact .inl ⟨_,_,_,rfl,e▸hk,h2⟩
   rcases ite_some h2 with⟨e,h3⟩ | ⟨_,h3⟩
   ·obtain⟨_,hk,e'⟩:=Classical.not_not.mp fun hn=>hg ⟨.inr (.inl e),hn⟩
    rw[e,e']
    exact .inr (.inl ⟨_,_,_,rfl,e▸hk,h3⟩)
   exact .inr (.inr (ifn_some h3).2)) fun h _=> .inr (.inr h)
end
section
variable {β:Type}
mutual
noncomputable def evK (G:Gl):Nat→Cx→Sto→Expr→(PV→Sto→Option β)→Option β
 | 0,_,_,_,_=>none
 | n+1,cx,σ,e,k=>match e with
  | .Constant c _ _=>opt (constV c) fun v=>k v σ
  | .Name x _=>nameK G cx x fun v=>k v σ
  | .BinOp l op r _=>evK G n cx σ l fun a σ₁=>evK G n cx σ₁ r fun b σ₂=>binLK op a b σ₂ k
  | .UnaryOp op x _=>unK op (evK G n cx σ x fun v σ₁=>onInt v fun i=>k (.int (-i)) σ₁) (evK G n cx σ x fun v σ₁=>truthK v fun t=>k (.bool (!t)) σ₁)
  | .IfExp t a b _=>isTK G n cx σ t fun c σ₁=>onB c (evK G n cx σ₁ a k) (evK G n cx σ₁ b k)
  | .BoolOp op vs _=>two vs fun x y=>evK G n cx σ x fun v σ₁=>truthK v fun t=>boK op (onB t (evK G n cx σ₁ y k) (k v σ₁)) (onB t (k v σ₁) (evK G n cx σ₁ y k))
  | .Compare l ops rs _=>one ops fun op=>one rs fun r=>onB (behindInMarks op r) none (orElse (setName G cx op r)
    (fun S=>evK G n cx σ l fun v σ₁=>onInt v fun i=>k (.bool (S i)) σ₁)
    (evK G n cx σ l fun a σ₁=>evK G n cx σ₁ r fun b σ₂=>cmpK op σ₂ a b fun t=>k (.bool t) σ₂))
  | .Tuple es _ _=>grd (es.length≤1000) (evsK G n cx σ es fun vs σ₁=>k (.tup vs) σ₁)
  | .List es _=>grd (es.length≤1000) (evsK G n cx σ es fun vs σ₁=>k (.lst σ₁.length) (σ₁++[⟨0,.lst vs⟩]))
  | .Dict ks vs _=>noneL ks (noneL vs (k (.lst σ.length) (σ++[⟨0,.dct []⟩])))
  | .Subscript v i _=>sliceOr i (fun lo hi st=>evK G n cx σ v fun a σ₁=>evOK G n cx σ₁ lo fun l σ₂=>evOK G n cx σ₂ hi fun h σ₃=>evOK G n cx σ₃ st fun j σ₄=>sliK a l h j σ₄ k)
   (evK G n cx σ v fun a σ₁=>evK G n cx σ₁ i fun j σ₂=>subK a j σ₂ fun v=>k v σ₂)
  | .Call f args kws pos=>noneL kws (callee f
    (fun g=>globK cx g (if g="isinstance" then two args fun a t=>isListK cx t (evK G n cx σ a fun v σ₁=>onLst v fun i=>opt (getL σ₁ i) fun _=>k (.bool true) σ₁)
     else evsK G n cx σ args fun vs σ₁=>orElse (G.fn g) (fun F=>liftK (F vs σ₁) k) (callBK G g vs σ₁ k)))
    fun o m apos=>grd ((apos.endLine==pos.line)=true∧baseOk o=true∧args.length < 10) (orElse (tabName G cx o m)
     (fun T=>evsK G n cx σ args fun vs σ₁=>one vs fun v=>onInt v fun i=>orElse (T i) (fun x=>k (.str x) σ₁) (k .none σ₁))
     (evK G n cx σ o fun a σ₁=>evsK G n cx σ₁ args fun vs σ₂=>grd (kindAt σ₁ a=kindAt σ₂ a∧accOk σ₁ a=true) (callMK G a m vs σ₂ k))))
  | .ListComp elt gens scope _=>one gens fun g=>grd (g.is_async=0∧scopeOk cx scope=true∧iterOk g.iter g.target=true) (evItK G n cx σ g.iter fun items w σ₁=>
     evCompK G n ⟨scope.names,capt cx scope.names⟩ σ₁ elt g.target g.ifs w items fun vs σ₂=>grd (vs.length≤100000) (k (.lst σ₂.length) (σ₂++[⟨0,.lst vs⟩])))
  | _=>none
noncomputable def evOK (G:Gl):Nat→Cx→Sto→Option Expr→(Option Int→Sto→Option β)→Option β
 | 0,_,_,_,_=>none
 | n+1,cx,σ,e,k=>match e with
  | none=>k none σ
  | some x=>evK G n cx σ x fun v σ₁=>match v with
   | .none=>k none σ₁
   | .int i=>k (some i) σ₁
   | _=>none
noncomputable def evsK (G:Gl):Nat→Cx→Sto→List Expr→(List PV→Sto→Option β)→Option β
 | 0,_,_,_,_=>none
 | n+1,cx,σ,es,k=>match es with
  | []=>k [] σ
  | e::es=>evK G n cx σ e fun v σ₁=>evsK G n cx σ₁ es fun vs σ₂=>k (v::vs) σ₂
noncomputable def isTK (G:Gl):Nat→Cx→Sto→Expr→(Bool→Sto→Option β)→Option β
 | 0,_,_,_,_=>none
 | n+1,cx,σ,e,k=>onB (isVal e) (evK G n cx σ e fun v σ₁=>truthK v fun t=>k t σ₁) (onTest e
  (fun op x=>unK op none (isTK G n cx σ x fun b σ₁=>k (!b) σ₁))
  (fun op vs=>isTsK G n cx σ op vs k)
  fun l ops rs=>oneTwo ops rs
   (fun op r=>onB (behindInMarks op r) none (evK G n cx σ l fun a σ₁=>evK G n cx σ₁ r fun b σ₂=>cmpK op σ₂ a b fun t=>k t σ₂))
   fun op op2 r r2=>onB (behindInMarks op2 r2) none (evK G n cx σ l fun a σ₁=>evK G n cx σ₁ r fun b σ₂=>cmpK op σ₂ a b fun t=>onB t (evK G n cx σ₂ r2 fun c σ₃=>cmpK op2 σ₃ b c fun t=>k t σ₃) (k false σ₂)))
noncomputable def isTsK (G:Gl):Nat→Cx→Sto→BoolOp→List Expr→(Bool→Sto→Option β)→Option β
 | 0,_,_,_,_,_=>none
 | n+1,cx,σ,op,es,k=>match es with
  | []=>boK op (k true σ) (k false σ)
  | e::es=>isTK G n cx σ e fun b σ₁=>boK op (onB b (isTsK G n cx σ₁ op es k) (k false σ₁)) (onB b (k true σ₁) (isTsK G n cx σ₁ op es k))
noncomputable def evItK (G:Gl):Nat→Cx→Sto→Expr→(List PV→Option (Nat×Nat)→Sto→Option β)→Option β
 | 0,_,_,_,_=>none
 | n+1,cx,σ,e,k=>iterK cx e
  (fun args=>evsK G n cx σ args fun vs σ₁=>opt (rangeArgs vs) fun a=>opt (ranged a.1 a.2.1 a.2.2) fun l=>k l none σ₁)
  (fun args=>evsK G n cx σ args fun vs σ₁=>one vs fun v=>onTup v fun xs=>k (enumed 0 xs) none σ₁)
  (evK G n cx σ e fun v σ₁=>match itV v σ₁ with
   | some (items,w,σ₂)=>k items w σ₂
   | none=>none)
noncomputable def evCompK (G:Gl):Nat→Cx→Sto→Expr→Expr→List Expr→Option (Nat×Nat)→List PV→(List PV→Sto→Option β)→Option β
 | 0,_,_,_,_,_,_,_,_=>none
 | n+1,cx,σ,elt,tgt,ifs,w,items,k=>onB (watch σ w) (match items with
   | []=>k [] σ
   | v::rest=>opt (bindT cx tgt v) fun cx'=>isTsK G n cx' σ .And ifs fun b σ₁=>onB b
     (evK G n cx' σ₁ elt fun x σ₂=>evCompK G n cx' σ₂ elt tgt ifs w rest fun xs σ₃=>k (x::xs) σ₃)
     (evCompK G n cx' σ₁ elt tgt ifs w rest k)) none
end
noncomputable def onFl (fl:Fl)(x y:Option β)(z:PV→Option β):Option β:=match fl with
 | .nxt=>x
 | .brk=>y
 | .ret v=>z v
noncomputable def delK (ts:List Expr)(f:Expr→Expr→Option β):Option β:=one ts fun t=>match t with
 | .Subscript l j _=>f l j
 | _=>none
mutual
noncomputable def exK (G:Gl):Nat→Cx→Sto→Stmt→(Fl→Cx→Sto→Option β)→Option β
 | 0,_,_,_,_=>none
 | n+1,cx,σ,st,k=>match st with
  | .Assign ts v _=>one ts fun t=>onB (storesOk t v) (evK G n cx σ v fun x σ₁=>opt (bindT cx t x) fun cx'=>k .nxt cx' σ₁) none
  | .AugAssign t op v _=>match t with
   | .Name x _=>opt (cx.le.lookup x) fun a=>evK G n cx σ v fun b σ₁=>augK op a b fun v=>opt (bindN cx x v) fun cx'=>k .nxt cx' σ₁
   | _=>none
  | .If t a b _=>isTK G n cx σ t fun c σ₁=>onB c (exsK G n cx σ₁ a k) (exsK G n cx σ₁ b k)
  | .Return v _=>opt v fun e=>evK G n cx σ e fun r σ₁=>k (.ret r) cx σ₁
  | .Expr e _=>match e with
   | .Call ..=>evK G n cx σ e fun _ σ₁=>k .nxt cx σ₁
   | _=>none
  | .Assert t m _=>match m with
   | none=>isTK G n cx σ t fun c σ₁=>onB c (k .nxt cx σ₁) none
   | some _=>none
  | .Break _=>k .brk cx σ
  | .Delete ts _=>delK ts fun l j=>evK G n cx σ l fun a σ₁=>onLst a fun i=>evK G n cx σ₁ j fun b σ₂=>onInt b fun j=>opt (getL σ₂ i) fun xs=>grd (¬ 10000 < xs.length) (opt (seqIndex? j xs.length) fun p=>k .nxt cx (setCell σ₂ i (.lst (xs.eraseIdx p))))
  | .For t it body els _=>noneL els (onB (iterOk it t) (evItK G n cx σ it fun items w σ₁=>exForK G n cx σ₁ t body w items k) none)
  | .While t body els _=>noneL els (exWhileK G n cx σ t body k)
  | _=>none
noncomputable def exsK (G:Gl):Nat→Cx→Sto→List Stmt→(Fl→Cx→Sto→Option β)→Option β
 | 0,_,_,_,_=>none
 | n+1,cx,σ,sts,k=>match sts with
  | []=>k .nxt cx σ
  | st::rest=>exK G n cx σ st fun fl cx' σ₁=>match fl with
   | .nxt=>exsK G n cx' σ₁ rest k
   | .brk=>k .brk cx' σ₁
   | .ret v=>k (.ret v) cx' σ₁
noncomputable def exForK (G:Gl):Nat→Cx→Sto→Expr→List Stmt→Option (Nat×Nat)→List PV→(Fl→Cx→Sto→Option β)→Option β
 | 0,_,_,_,_,_,_,_=>none
 | n+1,cx,σ,t,body,w,items,k=>onB (watch σ w) (match items with
   | []=>k .nxt cx σ
   | v::rest=>opt (bindT cx t v) fun cx'=>exsK G n cx' σ body fun fl cx'' σ₁=>match fl with
     | .nxt=>exForK G n cx'' σ₁ t body w rest k
     | .brk=>k .nxt cx'' σ₁
     | .ret r=>k (.ret r) cx'' σ₁) none
noncomputable def exWhileK (G:Gl):Nat→Cx→Sto→Expr→List Stmt→(Fl→Cx→Sto→Option β)→Option β
 | 0,_,_,_,_,_=>none
 | n+1,cx,σ,t,body,k=>isTK G n cx σ t fun c σ₁=>onB c
  (exsK G n cx σ₁ body fun fl cx' σ₂=>match fl with
   | .nxt=>exWhileK G n cx' σ₂ t body k
   | .brk=>k .nxt cx' σ₂
   | .ret r=>k (.ret r) cx' σ₂) (k .nxt cx σ₁)
end
noncomputable def endFl (fl:Fl)(_:Cx)(σ':Sto):Option (PV×Sto):=match fl with
 | .ret v=>some (v,σ')
 | .nxt=>some (.none,σ')
 | .brk=>none
noncomputable def runK (G:Gl)(n:Nat)(names:List (Str×NameKind))(params:List Str)(body:List Stmt)(args:List PV)(σ:Sto):Option (PV×Sto):=
 grd (args.length=params.length) (exsK G n ⟨names,params.zip args⟩ σ body fun fl cx σ'=>match fl with
  | .ret v=>some (v,σ')
  | .nxt=>some (.none,σ')
  | .brk=>none)
end
noncomputable def Framy (o:Obj):Prop:=(∃ es ep,o.data= .dict es ep)∨∃ v,o.data= .cell v
structure Bs where
 prog:Program
 w:World
 h₀:Heap
 Tb:List Addr
 os:OsState
 inv:Heap→Prop
 cls:Addr
mutual
noncomputable def VR (B:Bs)(ρ:List Addr)(h:Heap):PV→Value→Prop
 | .none,v=>v= .none
 | .bool b,v=>v= .bool b
 | .int i,v=>∃ t,v= .int i t
 | .str x,v=>∃ t,v= .str x t
 | .tup xs,v=>∃ a vs,v= .ref a∧a∉ρ∧a∉B.Tb∧h.IsTuple a vs∧VRs B ρ h xs vs.toList
 | .lst i,v=>∃ a,v= .ref a∧ρ[i]?=some a
noncomputable def VRs (B:Bs)(ρ:List Addr)(h:Heap):List PV→List Value→Prop
 | [],vs=>vs=[]
 | x::xs,vs=>∃ v r,vs=v::r∧VR B ρ h x v∧VRs B ρ h xs r
end
noncomputable def LR (B:Bs)(ρ:List Addr)(h:Heap)(kvs:List (Str×PV))(f:Str→Option Value):Prop:=
 ∀ x,match kvs.lookup x with
  | some pv=>∃ v,f x=some v∧VR B ρ h pv v
  | none=>f x=none
noncomputable def CR (B:Bs)(ρ:List Addr)(h:Heap)(a:Addr):CD→Prop
 | .lst xs=>∃ vs:List Value,h.PlainList a vs.toArray∧VRs B ρ h xs vs
 | .acc di xs=>∃ (vs:List Value) (n:Nat) (D:Addr),h.get? a=some { cls:= .ref B.cls,data:= .seq vs.toArray n,dict:=some D }∧VRs B ρ h xs vs∧ρ[di]?=some D
 | .dct kvs=>∃ f,h.MapOf (strKind B.prog B.w) a f∧h.DictLe a kvs.length∧LR B ρ h kvs f
 | .ins kvs=>∃ m,h.Ns a m∧LR B ρ h kvs m
structure Kp (B:Bs) (X ρ:List Addr) (h h':Heap):Prop where
 live:∀ a o,h.get? a=some o→∃ o',h'.get? a=some o'
 keep:∀ a o,h.get? a=some o→a∉ρ→a∉B.Tb→(a∈X→¬ Framy o)→h'.get? a=some o
structure St (B:Bs) (ρ:List Addr) (σ:Sto) (s:Shared):Prop where
 os:s.os=B.os
 gens:AllBare s.gens
 base:∀ a o,B.h₀.get? a=some o→a∉B.Tb→s.heap.get? a=some o
 len:ρ.length=σ.length
 nodup:ρ.Nodup
 fresh:∀ a∈ρ,B.h₀.get? a=none
 off:∀ a∈ρ,a∉B.Tb
 cells:∀ (i:Nat) (c:Cell) (a:Addr),σ[i]?=some c→ρ[i]?=some a→CR B ρ s.heap a c.d
 inv:B.inv s.heap
structure Evo (B:Bs) (X ρ:List Addr) (σ:Sto) (h:Heap) (ρ':List Addr) (σ':Sto) (h':Heap):Prop where
 kp:Kp B X ρ h h'
 pre:∃ r,ρ'=ρ++r∧∀ a∈r,h.get? a=none
 ver:∀ (i:Nat) (c:Cell),σ[i]?=some c→∃ c':Cell,σ'[i]?=some c'∧c.ver≤c'.ver∧(c.ver=c'.ver→c'.d=c.d∧∀ a,ρ[i]?=some a→∀ o,h.get? a=some o→h'.get? a=some o)
structure BsOk (B:Bs):Prop where
 tb:∀ h,B.inv h→∀ a∈B.Tb,∃ o,h.get? a=some o
 lim:B.h₀.NoLimit
 stat:cStatics∉B.Tb
 inv:∀ h h',B.inv h→(∀ a∈B.Tb,∀ o,h.get? a=some o→h'.get? a=some o)→(∀ a o vs,h.get? a=some o→o.cls= .type "code"→o.data= .fields vs→h'.get? a=some o)→B.inv h'
theorem Kp.refl (B:Bs)(X ρ:List Addr)(h:Heap):Kp B X ρ h h:=⟨fun _ o e=>⟨o,e⟩,fun _ _ e _ _ _=>e⟩
theorem Evo.refl (B:Bs)(X ρ:List Addr)(σ:Sto)(h:Heap):Evo B X ρ σ h ρ σ h:=
 ⟨.refl ..,⟨[],by simp,by simp⟩,fun _ c hc=>⟨c,hc,Nat.le_refl _,fun _=>⟨rfl,fun _ _ _ e=>e⟩⟩⟩
theorem Evo.notin {B:Bs}{X ρ:List Addr}{σ:Sto}{h:Heap}{ρ':List Addr}{σ':Sto}{h':Heap}(e:Evo B X ρ σ h ρ' σ' h'){a:Addr}{o:Obj}(ha:a∉ρ)(hl:h.get? a=some o):a∉ρ':=by
 obtain⟨r,rfl,hr⟩:=e.pre
 intro hm
 rcases List.mem_append.mp hm with hm | hm
 ·exact ha hm
 ·rw[hr a hm] at hl; cases hl
theorem Evo.at {B:Bs}{X ρ:List Addr}{σ:Sto}{h:Heap}{ρ':List Addr}{σ':Sto}{h':Heap}(e:Evo B X ρ σ h ρ' σ' h'){i:Nat}{a:Addr}(ha:ρ[i]?=some a):ρ'[i]?=some a:=by
 obtain⟨r,rfl,_⟩:=e.pre
 rw[List.getElem?_append_left (List.getElem?_eq_some_iff.mp ha).1]; exact ha
theorem Evo.trans {B:Bs}{X ρ:List Addr}{σ:Sto}{h:Heap}{ρ':List Addr}{σ':Sto}{h':Heap}{ρ'':List Addr}{σ'':Sto}{h'':Heap}
  (e:Evo B X ρ σ h ρ' σ' h') (f:Evo B X ρ' σ' h' ρ'' σ'' h''):Evo B X ρ σ h ρ'' σ'' h'':=by
 refine⟨⟨fun a o ho=>let ⟨o',ho'⟩:=e.kp.live a o ho; f.kp.live a o' ho',fun a o he ha ht hx=>f.kp.keep a o (e.kp.keep a o he ha ht hx) (e.notin ha he) ht hx⟩,?_,fun i c hc=>?_⟩
 ·obtain⟨r,rfl,hr⟩:=e.pre
  obtain⟨r',rfl,hr'⟩:=f.pre
  exact⟨r++r',by simp,fun a ha=>by
   rcases List.mem_append.mp ha with ha | ha
   ·exact hr a ha
   ·cases hg:h.get? a with
    | none=>rfl
    | some o=>obtain⟨o',ho'⟩:=e.kp.live a o hg; rw[hr' a ha] at ho'; cases ho'⟩
 ·obtain⟨c',hc',hle,hsame⟩:=e.ver i c hc
  obtain⟨c'',hc'',hle',hsame'⟩:=f.ver i c' hc'
  refine⟨c'',hc'',Nat.le_trans hle hle',fun hv=>?_⟩
  have h1:c.ver=c'.ver:=Nat.le_antisymm hle (hv▸hle')
  have h2:c'.ver=c''.ver:=h1▸hv
  obtain⟨d1,k1⟩:=hsame h1
  obtain⟨d2,k2⟩:=hsame' h2
  exact⟨d2.trans d1,fun a ha o ho=>k2 a (e.at ha) o (k1 a ha o ho)⟩
theorem Evo.weak {B:Bs}{X ρ:List Addr}{σ:Sto}{h:Heap}{ρ':List Addr}{σ':Sto}{h':Heap}(e:Evo B [] ρ σ h ρ' σ' h'):Evo B X ρ σ h ρ' σ' h':=
 ⟨⟨e.kp.live,fun a o he ha ht _=>e.kp.keep a o he ha ht (by simp)⟩,e.pre,e.ver⟩
theorem Evo.forget {B:Bs}{X ρ:List Addr}{σ:Sto}{h:Heap}{ρ':List Addr}{σ':Sto}{h':Heap}(e:Evo B X ρ σ h ρ' σ' h')(hX:∀ a∈X,h.get? a=none):Evo B [] ρ σ h ρ' σ' h':=
 ⟨⟨e.kp.live,fun a o he ha ht _=>e.kp.keep a o he ha ht fun hx=>by rw[hX a hx] at he; cases he⟩,e.pre,e.ver⟩
theorem not_framy_seq {o:Obj}{vs n}(h:o.data= .seq vs n):¬ Framy o:=by
 rintro (⟨es,ep,e⟩ | ⟨v,e⟩) <;> rw[h] at e <;> cases e
theorem not_framy_fields {o:Obj}{vs}(h:o.data= .fields vs):¬ Framy o:=by
 rintro (⟨es,ep,e⟩ | ⟨v,e⟩) <;> rw[h] at e <;> cases e
structure Vk (B:Bs) (ρ:List Addr) (h:Heap) (ρ':List Addr) (h':Heap):Prop where
 at_:∀ (i:Nat) (a:Addr),ρ[i]?=some a→ρ'[i]?=some a
 tup:∀ a o vs n,h.get? a=some o→o.cls= .type "tuple"→o.data= .seq vs n→a∉ρ→a∉B.Tb→h'.get? a=some o∧a∉ρ'
theorem Evo.vk {B:Bs}{X ρ:List Addr}{σ:Sto}{h:Heap}{ρ':List Addr}{σ':Sto}{h':Heap}(e:Evo B X ρ σ h ρ' σ' h'):Vk B ρ h ρ' h':=
 ⟨fun _ _ ha=>e.at ha,fun a o vs n ho _ hd h1 h2=>⟨e.kp.keep a o ho h1 h2 fun _=>not_framy_seq hd,e.notin h1 ho⟩⟩
mutual
theorem VR.vk {B:Bs}{ρ:List Addr}{h:Heap}{ρ':List Addr}{h':Heap}(e:Vk B ρ h ρ' h'):∀ (x:PV) {v:Value},VR B ρ h x v→VR B ρ' h' x v
 | .none,_,r=>r
 | .bool _,_,r=>r
 | .int _,_,r=>r
 | .str _,_,r=>r
 | .tup xs,v,r=>by
  obtain⟨a,vs,rfl,h1,h2,⟨o,ho,hc,n,hd⟩,hr⟩:=r
  obtain⟨k1,k2⟩:=e.tup a o vs n ho hc hd h1 h2
  exact⟨a,vs,rfl,k2,h2,⟨o,k1,hc,n,hd⟩,VRs.vk e xs hr⟩
 | .lst i,v,r=>by
  obtain⟨a,rfl,ha⟩:=r
  exact⟨a,rfl,e.at_ i a ha⟩
theorem VRs.vk {B:Bs}{ρ:List Addr}{h:Heap}{ρ':List Addr}{h':Heap}(e:Vk B ρ h ρ' h'):∀ (xs:List PV) {vs:List Value},VRs B ρ h xs vs→VRs B ρ' h' xs vs
 | [],_,r=>r
 | x::xs,vs,r=>by
  obtain⟨v,t,rfl,h1,h2⟩:=r
  exact⟨v,t,rfl,VR.vk e x h1,VRs.vk e xs h2⟩
end
theorem VRs.length {B:Bs}{ρ:List Addr}{h:Heap}:∀ {xs:List PV} {vs:List Value},VRs B ρ h xs vs→vs.length=xs.length
 | [],_,r=>by rw[show _=[] from r]; rfl
 | x::xs,vs,r=>by obtain⟨v,t,rfl,_,h2⟩:=r; simp[VRs.length h2]
theorem VRs.get {B:Bs}{ρ:List Addr}{h:Heap}:∀ {xs:List PV} {vs:List Value} {i:Nat} {x:PV},VRs B ρ h xs vs→xs[i]?=some x→∃ v,vs[i]?=some v∧VR B ρ h x v
 | x::xs,vs,0,_,r,e=>by obtain⟨v,t,rfl,h1,_⟩:=r; simp at e; subst e; exact⟨v,rfl,h1⟩
 | x::xs,vs,i+1,y,r,e=>by obtain⟨v,t,rfl,_,h2⟩:=r; simp at e ⊢; exact VRs.get h2 e
theorem VRs.append {B:Bs}{ρ:List Addr}{h:Heap}:∀ {xs ys:List PV} {vs us:List Value},VRs B ρ h xs vs→VRs B ρ h ys us→VRs B ρ h (xs++ys) (vs++us)
 | [],_,_,_,r,q=>by rw[show _=[] from r]; exact q
 | x::xs,ys,vs,us,r,q=>by obtain⟨v,t,rfl,h1,h2⟩:=r; exact⟨v,t++us,rfl,h1,VRs.append h2 q⟩
theorem LR.vk {B:Bs}{ρ:List Addr}{h:Heap}{ρ':List Addr}{h':Heap}(e:Vk B ρ h ρ' h'){kvs:List (Str×PV)}{f:Str→Option Value}(r:LR B ρ h kvs f):LR B ρ' h' kvs f:=fun x=>by
 have:=r x
 cases hx:kvs.lookup x with
 | none=>rw[hx] at this; exact this
 | some pv=>
  rw[hx] at this
  obtain⟨v,h1,h2⟩:=this
  exact⟨v,h1,VR.vk e pv h2⟩
theorem CR.vk {B:Bs}{ρ:List Addr}{h:Heap}{ρ':List Addr}{h':Heap}(e:Vk B ρ h ρ' h'){a:Addr}(d:CD)
  (hk:∀ o,h.get? a=some o→h'.get? a=some o) (r:CR B ρ h a d):CR B ρ' h' a d:=by
 cases d with
 | lst xs=>obtain⟨vs,⟨n,ho⟩,hr⟩:=r; exact⟨vs,⟨n,hk _ ho⟩,VRs.vk e xs hr⟩
 | acc di xs=>
  obtain⟨vs,n,D,ho,hr,h1⟩:=r
  exact⟨vs,n,D,hk _ ho,VRs.vk e xs hr,e.at_ _ _ h1⟩
 | dct kvs=>
  obtain⟨f,⟨o,es,ep,ho,hr⟩,hz,hf⟩:=r
  exact⟨f,⟨o,es,ep,hk _ ho,hr⟩,hz.of_same ho (hk _ ho),hf.vk e⟩
 | ins kvs=>
  obtain⟨m,⟨o,es,ep,ho,hr⟩,hf⟩:=r
  exact⟨m,⟨o,es,ep,hk _ ho,hr⟩,hf.vk e⟩
theorem VR.evo {B:Bs}{X ρ:List Addr}{σ:Sto}{h:Heap}{ρ':List Addr}{σ':Sto}{h':Heap}(e:Evo B X ρ σ h ρ' σ' h')(x:PV){v:Value}(r:VR B ρ h x v):VR B ρ' h' x v:=VR.vk e.vk x r
theorem VRs.evo {B:Bs}{X ρ:List Addr}{σ:Sto}{h:Heap}{ρ':List Addr}{σ':Sto}{h':Heap}(e:Evo B X ρ σ h ρ' σ' h')(x:List PV){v:List Value}(r:VRs B ρ h x v):VRs B ρ' h' x v:=VRs.vk e.vk x r
theorem get?_size (h:Heap):h.get? h.objs.size=none:=by
 cases e:h.get? h.objs.size with
 | none=>rfl
 | some o=>exact absurd (Heap.lt_size e) (Nat.lt_irrefl _)
theorem St.alive {B:Bs}{ρ:List Addr}{σ:Sto}{s:Shared}(x:St B ρ σ s){a:Addr}(ha:a∈ρ):∃ o,s.heap.get? a=some o:=by
 obtain⟨i,hi,rfl⟩:=List.mem_iff_getElem.mp ha
 have hs:i < σ.length:=x.len▸hi
 have:=x.cells i σ[i] ρ[i] (List.getElem?_eq_getElem hs) (List.getElem?_eq_getElem hi)
 cases hd:σ[i].d with
 | lst xs=>rw[hd] at this; obtain⟨vs,⟨n,ho⟩,_⟩:=this; exact⟨_,ho⟩
 | acc k xs=>rw[hd] at this; obtain⟨vs,n,D,ho,_⟩:=this; exact⟨_,ho⟩
 | dct kvs=>rw[hd] at this; obtain⟨f,⟨o,es,ep,ho,_⟩,_⟩:=this; exact⟨_,ho⟩
 | ins kvs=>rw[hd] at this; obtain⟨f,⟨o,es,ep,ho,_⟩,_⟩:=this; exact⟨_,ho⟩
theorem St.notFields {B:Bs}{ρ:List Addr}{σ:Sto}{s:Shared}(x:St B ρ σ s){a:Addr}(ha:a∈ρ){o:Obj}{vs}(ho:s.heap.get? a=some o):o.data≠ .fields vs:=by
 obtain⟨i,hi,rfl⟩:=List.mem_iff_getElem.mp ha
 have hs:i < σ.length:=x.len▸hi
 have:=x.cells i σ[i] ρ[i] (List.getElem?_eq_getElem hs) (List.getElem?_eq_getElem hi)
 intro hf
 cases hd:σ[i].d with
 | lst xs=>rw[hd] at this; obtain⟨vs,⟨n,ho'⟩,_⟩:=this; rw[ho] at ho'; cases ho'; cases hf
 | acc k xs=>rw[hd] at this; obtain⟨vs,n,D,ho',_⟩:=this; rw[ho] at ho'; cases ho'; cases hf
 | dct kvs=>rw[hd] at this; obtain⟨f,⟨o',es,ep,ho',_,hd',_⟩,_⟩:=this; rw[ho] at ho'; cases ho'; rw[hf] at hd'; cases hd'
 | ins kvs=>rw[hd] at this; obtain⟨f,⟨o',es,ep,ho',hd',_⟩,_⟩:=this; rw[ho] at ho'; cases ho'; rw[hf] at hd'; cases hd'
theorem St.step {B:Bs}(ok:BsOk B){X ρ:List Addr}{σ:Sto}{s s':Shared}(x:St B ρ σ s)(hos:s'.os=s.os)(hg:AllBare s'.gens)
  (hX:∀ a∈X,a∉ρ∧a∉B.Tb∧B.h₀.get? a=none) (hfr:∀ a∈X,∀ o,s.heap.get? a=some o→Framy o∧∃ o',s'.heap.get? a=some o')
  (hk:∀ a o,a∉X→s.heap.get? a=some o→s'.heap.get? a=some o):St B ρ σ s'∧Evo B X ρ σ s.heap ρ σ s'.heap:=by
 have kpt:Kp B X ρ s.heap s'.heap:=⟨fun a o ho=>by
   by_cases ha:a∈X
   ·exact (hfr a ha o ho).2
   ·exact⟨o,hk a o ha ho⟩,fun a o ho _ _ hf=>by
   by_cases ha:a∈X
   ·exact absurd (hfr a ha o ho).1 (hf ha)
   ·exact hk a o ha ho⟩
 have ev:Evo B X ρ σ s.heap ρ σ s'.heap:=⟨kpt,⟨[],by simp,by simp⟩,fun i c hc=>⟨c,hc,Nat.le_refl _,fun _=>⟨rfl,fun a ha o ho=>hk a o (fun hx=>(hX a hx).1 (List.mem_of_getElem? ha)) ho⟩⟩⟩
 refine⟨⟨hos.trans x.os,hg,fun a o ho ht=>?_,x.len,x.nodup,x.fresh,x.off,fun i c a hc ha=>?_,?_⟩,ev⟩
 ·exact hk a o (fun hx=>by rw[(hX a hx).2.2] at ho; cases ho) (x.base a o ho ht)
 ·exact CR.vk ev.vk c.d (fun o ho=>hk a o (fun hx=>(hX a hx).1 (List.mem_of_getElem? ha)) ho) (x.cells i c a hc ha)
 ·exact ok.inv _ _ x.inv (fun a ha o ho=>hk a o (fun hx=>(hX a hx).2.1 ha) ho) fun a o vs ho _ hd=>by
   by_cases ha:a∈X
   ·exact absurd (hfr a ha o ho).1 (not_framy_fields hd)
   ·exact hk a o ha ho
theorem St.grow {B:Bs}(ok:BsOk B){ρ:List Addr}{σ:Sto}{s s':Shared}(x:St B ρ σ s)(hos:s'.os=s.os)(hg:AllBare s'.gens)
  (hk:∀ a o,s.heap.get? a=some o→s'.heap.get? a=some o):St B ρ σ s'∧Evo B [] ρ σ s.heap ρ σ s'.heap:=
 x.step ok (X:=[]) hos hg (by simp) (by simp) fun a o _=>hk a o
theorem St.alter {B:Bs}(ok:BsOk B){wr ρ:List Addr}{σ:Sto}{s:Shared}(x:St B ρ σ s){h':Heap}{tk:Nat}(hwr:∀ a∈wr,a∉ρ∧a∉B.Tb∧B.h₀.get? a=none∧∀ o,s.heap.get? a=some o→(o.cls= .type "tuple"→∀ vs n,o.data≠ .seq vs n)∧(o.cls= .type "code"→∀ vs,o.data≠ .fields vs))
  (hk:∀ b o,b∉wr→s.heap.get? b=some o→h'.get? b=some o):St B ρ σ { s with heap:=h',toks:=tk }∧Vk B ρ s.heap ρ h':=by
 have vk:Vk B ρ s.heap ρ h':=⟨fun _ _ e=>e,fun a o vs n ho hc hd h1 _=>⟨hk a o (fun hm=>((hwr a hm).2.2.2 o ho).1 hc vs n hd) ho,h1⟩⟩
 refine⟨⟨x.os,x.gens,fun a o ho ht=>hk a o (fun hm=>?_) (x.base a o ho ht),x.len,x.nodup,x.fresh,x.off,fun i c a hc ha=>?_,?_⟩,vk⟩
 ·rw[(hwr a hm).2.2.1] at ho; cases ho
 ·exact CR.vk vk c.d (fun o ho=>hk a o (fun hm=>(hwr a hm).1 (List.mem_of_getElem? ha)) ho) (x.cells i c a hc ha)
 ·exact ok.inv _ _ x.inv (fun a ha o ho=>hk a o (fun hm=>(hwr a hm).2.1 ha) ho) fun a o vs ho hc hd=>hk a o (fun hm=>((hwr a hm).2.2.2 o ho).2 hc vs hd) ho
theorem Evo.alter {B:Bs}{X wr ρ:List Addr}{σ:Sto}{h:Heap}{ρ':List Addr}{σ':Sto}{h' h'':Heap}(e:Evo B X ρ σ h ρ' σ' h')(hwr:∀ a∈wr,h.get? a=none)
  (hk:∀ b o,b∉wr→h'.get? b=some o→h''.get? b=some o):Evo B X ρ σ h ρ' σ' h'':=by
 have hn:∀ {a o},h.get? a=some o→a∉wr:=fun ho hm=>by rw[hwr _ hm] at ho; cases ho
 refine⟨⟨fun a o ho=>?_,fun a o ho h1 h2 h3=>hk a o (hn ho) (e.kp.keep a o ho h1 h2 h3)⟩,e.pre,fun i c hc=>?_⟩
 ·obtain⟨o',ho'⟩:=e.kp.live a o ho
  exact⟨o',hk a o' (hn ho) ho'⟩
 ·obtain⟨c',h1,h2,h3⟩:=e.ver i c hc
  exact⟨c',h1,h2,fun hv=>⟨(h3 hv).1,fun a ha o ho=>hk a o (hn ho) ((h3 hv).2 a ha o ho)⟩⟩
theorem St.new {B:Bs}(ok:BsOk B){ρ:List Addr}{σ:Sto}{s:Shared}(x:St B ρ σ s){s':Shared}{a:Addr}{d:CD}(hos:s'.os=s.os)(hg:s'.gens=s.gens)
  (ha:s.heap.get? a=none) (hk:∀ b o,s.heap.get? b=some o→s'.heap.get? b=some o)
  (hc:∀ ρ' σ',Evo B [] ρ σ s.heap ρ' σ' s'.heap→ρ'=ρ++[a]→CR B ρ' s'.heap a d):
  St B (ρ++[a]) (σ++[⟨0,d⟩]) s'∧Evo B [] ρ σ s.heap (ρ++[a]) (σ++[⟨0,d⟩]) s'.heap∧(ρ++[a])[σ.length]?=some a:=by
 have ev:Evo B [] ρ σ s.heap (ρ++[a]) (σ++[⟨0,d⟩]) s'.heap:=⟨⟨fun b o ho=>⟨o,hk b o ho⟩,fun b o ho _ _ _=>hk b o ho⟩,⟨[a],rfl,by simpa using ha⟩,
  fun i c hc=>⟨c,by rw[List.getElem?_append_left (List.getElem?_eq_some_iff.mp hc).1]; exact hc,Nat.le_refl _,fun _=>⟨rfl,fun b _ o ho=>hk b o ho⟩⟩⟩
 have hnr:a∉ρ:=fun hm=>by obtain⟨o,ho⟩:=x.alive hm; rw[ha] at ho; cases ho
 refine⟨⟨hos.trans x.os,hg▸x.gens,fun b o ho ht=>hk b o (x.base b o ho ht),by simp[x.len],?_,fun b hb=>?_,fun b hb=>?_,fun i c b hi hb=>?_,?_⟩,ev,by rw[← x.len]; simp⟩
 ·rw[List.nodup_append]; exact⟨x.nodup,by simp,fun b hb c hc=>by simp at hc; subst hc; exact fun e=>hnr (e▸hb)⟩
 ·rcases List.mem_append.mp hb with hb | hb
  ·exact x.fresh b hb
  ·simp at hb; subst hb
   cases e:B.h₀.get? b with
   | none=>rfl
   | some o=>
    by_cases ht:b∈B.Tb
    ·obtain⟨o',ho'⟩:=ok.tb _ x.inv b ht; rw[ha] at ho'; cases ho'
    ·rw[x.base b o e ht] at ha; cases ha
 ·rcases List.mem_append.mp hb with hb | hb
  ·exact x.off b hb
  ·simp at hb; subst hb
   intro ht
   obtain⟨o',ho'⟩:=ok.tb _ x.inv b ht; rw[ha] at ho'; cases ho'
 ·rcases Nat.lt_or_ge i σ.length with hlt | hge
  ·rw[List.getElem?_append_left hlt] at hi
   rw[List.getElem?_append_left (x.len▸hlt)] at hb
   exact CR.vk ev.vk c.d (fun o ho=>hk b o ho) (x.cells i c b hi hb)
  ·have hi':i=σ.length:=by
    have:=(List.getElem?_eq_some_iff.mp hi).1
    simp at this; lia
   subst hi'
   simp at hi; subst hi
   rw[← x.len] at hb; simp at hb; subst hb
   exact hc _ _ ev rfl
 ·exact ok.inv _ _ x.inv (fun b _ o ho=>hk b o ho) fun b o vs ho _ _=>hk b o ho
theorem St.set {B:Bs}(ok:BsOk B){ρ:List Addr}{σ:Sto}{s:Shared}(x:St B ρ σ s){s':Shared}{a:Addr}{i:Nat}{d:CD}(hos:s'.os=s.os)(hg:s'.gens=s.gens)
  (ha:ρ[i]?=some a) (hs:∀ b o,b≠a→s.heap.get? b=some o→s'.heap.get? b=some o)
  (hc:∀ σ',Evo B [] ρ σ s.heap ρ σ' s'.heap→CR B ρ s'.heap a d) (hal:∃ o,s'.heap.get? a=some o∧∀ vs,o.data≠ .fields vs):
  St B ρ (setCell σ i d) s'∧Evo B [] ρ σ s.heap ρ (setCell σ i d) s'.heap:=by
 have ham:a∈ρ:=List.mem_of_getElem? ha
 have hget:∀ j (c:Cell),(setCell σ i d)[j]?=some c→(j=i∧∃ c₀:Cell,σ[j]?=some c₀∧c=⟨c₀.ver+1,d⟩)∨(j≠i∧σ[j]?=some c):=fun j c hj=>by
  rw[setCell,List.getElem?_modify] at hj
  by_cases hji:i=j
  ·subst hji
   simp only[if_true] at hj
   cases h0:σ[i]? with
   | none=>rw[h0] at hj; cases hj
   | some c₀=>rw[h0] at hj; cases hj; exact .inl ⟨rfl,c₀,rfl,rfl⟩
  ·simp only[hji,if_false] at hj
   exact .inr ⟨fun e=>hji e.symm,by simpa using hj⟩
 have ev:Evo B [] ρ σ s.heap ρ (setCell σ i d) s'.heap:=by
  refine⟨⟨fun b o ho=>?_,fun b o ho hb _ _=>hs b o (fun e=>hb (e▸ham)) ho⟩,⟨[],by simp,by simp⟩,fun j c hj=>?_⟩
  ·by_cases hb:b=a
   ·obtain⟨o',ho',_⟩:=hal; exact⟨o',hb▸ho'⟩
   ·exact⟨o,hs b o hb ho⟩
  ·by_cases hji:i=j
   ·subst hji
    exact⟨⟨c.ver+1,d⟩,by simp[setCell,hj],Nat.le_succ _,fun e=>absurd e (Nat.ne_of_lt (Nat.lt_succ_self _))⟩
   ·refine⟨c,by simp[setCell,hj,hji],Nat.le_refl _,fun _=>⟨rfl,fun b hb o ho=>hs b o (fun e=>?_) ho⟩⟩
    subst e
    exact hji ((List.getElem?_inj (List.getElem?_eq_some_iff.mp ha).1 x.nodup).mp (ha.trans hb.symm))
 refine⟨⟨hos.trans x.os,hg▸x.gens,fun b o ho ht=>hs b o (fun e=>?_) (x.base b o ho ht),by simp[setCell,x.len],x.nodup,x.fresh,x.off,fun j c b hj hb=>?_,?_⟩,ev⟩
 ·rw[e,x.fresh a ham] at ho; cases ho
 ·rcases hget j c hj with⟨rfl,c₀,h0,rfl⟩ | ⟨hne,h0⟩
  ·rw[ha] at hb; cases hb; exact hc _ ev
  ·refine CR.vk ev.vk c.d (fun o ho=>hs b o (fun e=>?_) ho) (x.cells j c b h0 hb)
   subst e
   exact hne ((List.getElem?_inj (List.getElem?_eq_some_iff.mp ha).1 x.nodup).mp (ha.trans hb.symm)).symm
 ·refine ok.inv _ _ x.inv (fun b hb o ho=>hs b o (fun e=>?_) ho) fun b o vs ho _ hd=>hs b o (fun e=>?_) ho
  ·exact x.off a ham (e▸hb)
  ·subst e; exact x.notFields ham ho hd
theorem St.adopt {B:Bs}(ok:BsOk B){X ρ₀ ρ:List Addr}{σ₀ σ:Sto}{h₀:Heap}{s:Shared}(x:St B ρ σ s)(e:Evo B X ρ₀ σ₀ h₀ ρ σ s.heap){D:Addr}{d:CD}(h0:h₀.get? D=none)(hρ:D∉ρ)(ht:D∉B.Tb)(hb:B.h₀.get? D=none)
  {o:Obj} (ho:s.heap.get? D=some o) (hc:o.cls≠ .type "tuple") (hr:∀ ρ',Vk B ρ s.heap ρ' s.heap→CR B ρ' s.heap D d):
  St B (ρ++[D]) (σ++[⟨0,d⟩]) s∧Evo B X ρ₀ σ₀ h₀ (ρ++[D]) (σ++[⟨0,d⟩]) s.heap∧(ρ++[D])[σ.length]?=some D∧Vk B ρ s.heap (ρ++[D]) s.heap:=by
 have vk:Vk B ρ s.heap (ρ++[D]) s.heap:=⟨fun i a ha=>by rw[List.getElem?_append_left (List.getElem?_eq_some_iff.mp ha).1]; exact ha,
  fun a o' vs n ho' hc' hd' h1 _=>⟨ho',fun hm=>by
   rcases List.mem_append.mp hm with hm | hm
   ·exact h1 hm
   ·simp at hm; subst hm; rw[ho] at ho'; cases ho'; exact hc hc'⟩⟩
 refine⟨⟨x.os,x.gens,x.base,by simp[x.len],?_,fun b hb'=>?_,fun b hb'=>?_,fun i c b hi hb'=>?_,x.inv⟩,⟨⟨e.kp.live,e.kp.keep⟩,?_,fun i c hi=>?_⟩,by rw[← x.len]; simp,vk⟩
 ·rw[List.nodup_append]; exact⟨x.nodup,by simp,fun b hbm c hc=>by simp at hc; subst hc; exact fun e=>hρ (e▸hbm)⟩
 ·rcases List.mem_append.mp hb' with h | h
  ·exact x.fresh b h
  ·simp at h; subst h; exact hb
 ·rcases List.mem_append.mp hb' with h | h
  ·exact x.off b h
  ·simp at h; subst h; exact ht
 ·rcases Nat.lt_or_ge i σ.length with hlt | hge
  ·rw[List.getElem?_append_left hlt] at hi
   rw[List.getElem?_append_left (x.len▸hlt)] at hb'
   exact CR.vk vk c.d (fun o ho=>ho) (x.cells i c b hi hb')
  ·have hi':i=σ.length:=by
    have:=(List.getElem?_eq_some_iff.mp hi).1
    simp at this; lia
   subst hi'
   simp at hi; subst hi
   rw[← x.len] at hb'; simp at hb'; subst hb'
   exact hr _ vk
 ·obtain⟨r,rfl,hf⟩:=e.pre
  exact⟨r++[D],by simp,fun a ha=>by
   rcases List.mem_append.mp ha with ha | ha
   ·exact hf a ha
   ·simp at ha; subst ha; exact h0⟩
 ·obtain⟨c',h1,h2,h3⟩:=e.ver i c hi
  exact⟨c',by rw[List.getElem?_append_left (List.getElem?_eq_some_iff.mp h1).1]; exact h1,h2,h3⟩
structure Room (k:Nat) (A:Around):Prop where
 handled:A.handled=none
 depth:A.depth+8 * k < 1000
 units:A.units+64 * k+400 < 9900
theorem Room.lim {k:Nat}{A:Around}(r:Room k A):A.depth < recursionLimit:=Nat.lt_of_le_of_lt (Nat.le_add_right ..) r.depth
theorem Room.unit {k:Nat}{A:Around}(r:Room k A):A.units+300 < cLine:=Nat.lt_of_le_of_lt (Nat.add_le_add (Nat.le_add_right ..) (by decide)) r.units
theorem room_le {a b c d m e:Nat}(h:a+b * (c+1)+e < m)(hd:d≤b):a+d+b * c+e < m:=
 Nat.lt_of_le_of_lt (by rw[Nat.mul_succ]; exact Nat.add_le_add_right (by rw[Nat.add_right_comm,← Nat.add_assoc]; exact Nat.add_le_add_left hd _) e) h
theorem Room.deeper {k:Nat}{A:Around}(r:Room (k+1) A)(env:Env):Room k (A.deeper env):=
 ⟨r.handled,room_le (e:=0) r.depth (d:=1) (by decide),room_le r.units (d:=3) (by decide)⟩
structure Fr (B:Bs) (X:List Addr) (cx:Cx) (env:Env) (ρ:List Addr) (h:Heap):Prop where
 kind:env.scope.kind= .function
 glob:env.globals=mainNs
 bt:env.builtins=builtinsNs
 loc:∃ m,h.Ns env.locals m∧∀ x,cx.names.lookup x=some .local→env.kindOf x=some .local∧∀ v,cx.le.lookup x=some v→∃ val,m x=some val∧VR B ρ h v val
 cel:∀ x,cx.names.lookup x=some .cell→env.kindOf x=some .cell∧∃ c w,env.cells.lookup x=some c∧c∈X∧h.IsCell c w∧∀ v,cx.le.lookup x=some v→∃ val,w=some val∧VR B ρ h v val
 fre:∀ x,cx.names.lookup x=some .free→∀ v,cx.le.lookup x=some v→(env.kindOf x=some .cell∨env.kindOf x=some .free)∧∃ c val,env.cells.lookup x=some c∧h.IsCell c (some val)∧VR B ρ h v val
 glb:∀ x,cx.names.lookup x=some .globalImplicit→env.kindOf x=some .globalImplicit
 dom:∀ x v,cx.le.lookup x=some v→cx.names.lookup x=some .local∨cx.names.lookup x=some .cell∨cx.names.lookup x=some .free
 own:env.locals∈X
 ofX:∀ a∈X,a∉ρ∧a∉B.Tb∧B.h₀.get? a=none∧∃ o,h.get? a=some o∧Framy o
 ofc:∀ x c,env.cells.lookup x=some c→c∉ρ∧c∉B.Tb∧∃ o,h.get? c=some o∧Framy o
 apart:∀ x y c,env.cells.lookup x=some c→env.cells.lookup y=some c→x=y
theorem Kp.nil {B:Bs}{ρ:List Addr}{h h':Heap}(k:Kp B [] ρ h h'){a:Addr}{o:Obj}(ho:h.get? a=some o)(h1:a∉ρ)(h2:a∉B.Tb):h'.get? a=some o:=k.keep a o ho h1 h2 (by simp)
theorem IsCell.at {h h':Heap}{c:Addr}{v:Option Value}(x:h.IsCell c v)(e:∀ o,h.get? c=some o→h'.get? c=some o):h'.IsCell c v:=let ⟨o,ho,hd⟩:=x; ⟨o,e _ ho,hd⟩
theorem Fr.move {B:Bs}{X:List Addr}{cx:Cx}{env:Env}{ρ ρ':List Addr}{h h':Heap}(f:Fr B X cx env ρ h)(vk:Vk B ρ h ρ' h')
  (hk:∀ a o,(a∈X∨∃ x,env.cells.lookup x=some a)→a∉ρ→a∉B.Tb→h.get? a=some o→Framy o→h'.get? a=some o∧a∉ρ'):Fr B X cx env ρ' h':=by
 have kX:∀ a∈X,∃ o,h.get? a=some o∧Framy o∧h'.get? a=some o∧a∉ρ':=fun a ha=>by
  obtain⟨h1,h2,_,o,ho,hf⟩:=f.ofX a ha
  exact⟨o,ho,hf,hk a o (.inl ha) h1 h2 ho hf⟩
 have kc:∀ x c,env.cells.lookup x=some c→∃ o,h.get? c=some o∧Framy o∧h'.get? c=some o∧c∉ρ':=fun x c hc=>by
  obtain⟨h1,h2,o,ho,hf⟩:=f.ofc x c hc
  exact⟨o,ho,hf,hk c o (.inr ⟨x,hc⟩) h1 h2 ho hf⟩
 have same:∀ {a},(∃ o,h.get? a=some o∧Framy o∧h'.get? a=some o∧a∉ρ')→∀ o,h.get? a=some o→h'.get? a=some o:=fun hh o ho'=>by
  obtain⟨_,ho,_,h2,_⟩:=hh
  exact Option.some.inj (ho.symm.trans ho')▸h2
 have vr:∀ {v val},VR B ρ h v val→VR B ρ' h' v val:=fun r=>VR.vk vk _ r
 refine⟨f.kind,f.glob,f.bt,?_,fun x hx=>?_,fun x hx v hv=>?_,f.glb,f.dom,f.own,fun a ha=>?_,fun y c hc=>?_,f.apart⟩
 ·obtain⟨m,hn,hm⟩:=f.loc
  exact⟨m,hn.at' (same (kX _ f.own)),fun x hx=>⟨(hm x hx).1,fun v hv=>((hm x hx).2 v hv).imp fun _ q=>q.imp_right vr⟩⟩
 ·obtain⟨h0,c,w,hc,hX,hw,hv⟩:=f.cel x hx
  exact⟨h0,c,w,hc,hX,IsCell.at hw (same (kc x c hc)),fun v hle=>(hv v hle).imp fun _ q=>q.imp_right vr⟩
 ·obtain⟨h0,c,val,hc,hw,hr⟩:=f.fre x hx v hv
  exact⟨h0,c,val,hc,IsCell.at hw (same (kc x c hc)),vr hr⟩
 ·obtain⟨_,h2,h3,_⟩:=f.ofX a ha
  obtain⟨o,_,hf,ho,h1⟩:=kX a ha
  exact⟨h1,h2,h3,o,ho,hf⟩
 ·obtain⟨_,h2,_⟩:=f.ofc y c hc
  obtain⟨o,_,hf,ho,h1⟩:=kc y c hc
  exact⟨h1,h2,o,ho,hf⟩
theorem Fr.evo {B:Bs}{X:List Addr}{cx:Cx}{env:Env}{ρ ρ':List Addr}{σ σ':Sto}{h h':Heap}(f:Fr B X cx env ρ h)(e:Evo B [] ρ σ h ρ' σ' h'):Fr B X cx env ρ' h':=
 f.move e.vk fun _ _ _ h1 h2 ho _=>⟨e.kp.nil ho h1 h2,e.notin h1 ho⟩
noncomputable def Ok {α:Type}(B:Bs)(A:Around)(ρ:List Addr)(σ:Sto)(s:Shared)(t:Sem α)(σ':Sto)(P:List Addr→Heap→α→Prop):Prop:=
 wpAny (model B.prog B.w) A t (fun a s'=>∃ ρ',St B ρ' σ' s'∧Evo B [] ρ σ s.heap ρ' σ' s'.heap∧P ρ' s'.heap a) (fun _ _=>False) s
theorem St.tok {B:Bs}{ρ:List Addr}{σ:Sto}{s:Shared}(x:St B ρ σ s)(t:Nat):St B ρ σ { s with toks:=t }:=
 ⟨x.os,x.gens,x.base,x.len,x.nodup,x.fresh,x.off,x.cells,x.inv⟩
section
variable {α β:Type}{B:Bs}{A:Around}{ρ:List Addr}{σ:Sto}{s:Shared}
theorem Ok.use {σ₁:Sto}{P:List Addr→Heap→α→Prop}{m:Sem α}{Q:α→Shared→Prop}{E:Value→Shared→Prop}(h:Ok B A ρ σ s m σ₁ P)
  (k:∀ a ρ₁ s₁,St B ρ₁ σ₁ s₁→Evo B [] ρ σ s.heap ρ₁ σ₁ s₁.heap→P ρ₁ s₁.heap a→Q a s₁):wpAny (model B.prog B.w) A m Q E s:=
 wpAny_mono h (fun a s₁ h=>h.elim fun ρ₁ h=>k a ρ₁ s₁ h.1 h.2.1 h.2.2) fun _ _ f=>f.elim
theorem Ok.intro {σ₁:Sto}{P:List Addr→Heap→α→Prop}{m:Sem α}(h:∀ Q:α→Shared→Prop,(∀ v s' ρ',St B ρ' σ₁ s'→Evo B [] ρ σ s.heap ρ' σ₁ s'.heap→P ρ' s'.heap v→Q v s')→wpAny (model B.prog B.w) A m Q (fun _ _=>False) s):Ok B A ρ σ s m σ₁ P:=
 h _ fun _ _ ρ' x e p=>⟨ρ',x,e,p⟩
theorem Ok.after {σ₁ σ₂:Sto}{ρ₁:List Addr}{s₁:Shared}{P:List Addr→Heap→α→Prop}{m:Sem α}(e:Evo B [] ρ σ s.heap ρ₁ σ₁ s₁.heap)(h:Ok B A ρ₁ σ₁ s₁ m σ₂ P):
  wpAny (model B.prog B.w) A m (fun a s'=>∃ ρ',St B ρ' σ₂ s'∧Evo B [] ρ σ s.heap ρ' σ₂ s'.heap∧P ρ' s'.heap a) (fun _ _=>False) s₁:=
 wpAny_mono h (fun _ _ h=>h.imp fun _ h=>h.imp_right fun h=>h.imp_left e.trans) fun _ _ f=>f
theorem done_tok {P:List Addr→Heap→α→Prop}{a:α}(x:St B ρ σ s)(t:Nat)(h:P ρ s.heap a):
  ∃ ρ',St B ρ' σ { s with toks:=t }∧Evo B [] ρ σ s.heap ρ' σ ({ s with toks:=t }:Shared).heap∧P ρ' ({ s with toks:=t }:Shared).heap a:=⟨ρ,x.tok t,.refl ..,h⟩
theorem done_ {P:List Addr→Heap→α→Prop}{a:α}(x:St B ρ σ s)(h:P ρ s.heap a):∃ ρ',St B ρ' σ s∧Evo B [] ρ σ s.heap ρ' σ s.heap∧P ρ' s.heap a:=⟨ρ,x,.refl ..,h⟩
theorem Ok.mono {σ₁:Sto}{P P':List Addr→Heap→α→Prop}{m:Sem α}(h:Ok B A ρ σ s m σ₁ P)(k:∀ ρ' h' a,P ρ' h' a→P' ρ' h' a):Ok B A ρ σ s m σ₁ P':=
 wpAny_mono h (fun _ _ h=>h.imp fun _ h=>h.imp_right fun h=>h.imp_right (k _ _ _)) fun _ _ f=>f
end
noncomputable abbrev Is (B:Bs)(v:PV):List Addr→Heap→Value→Prop:=fun ρ' h' val=>VR B ρ' h' v val
section
variable {B:Bs}{A:Around}{ρ:List Addr}{σ:Sto}{s:Shared}{k:Nat}
theorem intBits_lt {i:Int}{m:Nat}(h:i.natAbs < 2 ^ m):Builtin.Int.intBits i≤m:=by
 unfold Builtin.Int.intBits
 by_cases hi:(i==0)=true
 ·rw[if_pos hi]; exact Nat.zero_le _
 ·rw[if_neg hi]
  exact (Nat.log2_lt fun h0=>hi (by rw[Int.natAbs_eq_zero.mp h0]; rfl)).mpr h
theorem mulOk_small {i j:Int}(h1:i.natAbs < bigN)(h2:j.natAbs < bigN):IntMulOk i j:=by
 have h3:Builtin.Int.intBits i≤256:=intBits_lt h1
 have h4:Builtin.Int.intBits j≤256:=intBits_lt h2
 unfold IntMulOk
 have:Builtin.Int.intTooBig (Builtin.Int.intBits i+Builtin.Int.intBits j)=false:=by
  unfold Builtin.Int.intTooBig; simp[bitsLine]; lia
 rw[this]; simp
end
section
variable {B:Bs}{A:Around}{ρ:List Addr}{σ:Sto}{s:Shared}{k:Nat}
theorem getL_some {σ:Sto}{i:Nat}{xs:List PV}(h:getL σ i=some xs):∃ c:Cell,σ[i]?=some c∧c.d= .lst xs:=by
 unfold getL at h
 cases hc:σ[i]? with
 | none=>rw[hc] at h; cases h
 | some c=>
  rw[hc] at h
  refine⟨c,rfl,?_⟩
  dsimp only at h
  cases hd:c.d <;> rw[hd] at h <;> cases h
  rfl
theorem St.list {i:Nat}{xs:List PV}(x:St B ρ σ s)(h:getL σ i=some xs){a:Addr}(ha:ρ[i]?=some a):∃ vs:List Value,s.heap.PlainList a vs.toArray∧VRs B ρ s.heap xs vs:=by
 obtain⟨c,hc,hd⟩:=getL_some h
 have:=x.cells i c a hc ha
 rw[hd] at this
 exact this
mutual
theorem toD_reads (x:St B ρ σ s):∀ (n:Nat) (v:PV) {d:PyData} {val:Value},toD n σ v=some d→VR B ρ s.heap v val→∃ as,Reads s.heap val d as
 | 0,_,_,_,h,_=>nos h
 | n+1,.none,d,val,h,r=>by cases h; obtain rfl:val= .none:=r; exact⟨_,.none⟩
 | n+1,.bool b,d,val,h,r=>by cases h; obtain rfl:val= .bool b:=r; exact⟨_,.bool _⟩
 | n+1,.int i,d,val,h,r=>by cases h; obtain⟨t,rfl⟩:=r; exact⟨_,.int _ _⟩
 | n+1,.str i,d,val,h,r=>by cases h; obtain⟨t,rfl⟩:=r; exact⟨_,.str _ _⟩
 | n+1,.tup xs,d,val,h,r=>by
  obtain⟨ds,hds,h⟩:=opt_some h
  cases h
  obtain⟨a,vs,rfl,_,_,⟨o,ho,hc,m,hd⟩,hr⟩:=r
  obtain⟨as,ha⟩:=toDs_reads x n xs hds hr
  exact⟨_,.tuple ho hc hd ha⟩
 | n+1,.lst i,d,val,h,r=>by
  obtain⟨xs,hxs,h⟩:=opt_some h
  obtain⟨ds,hds,h⟩:=opt_some h
  cases h
  obtain⟨a,rfl,ha⟩:=r
  obtain⟨vs,⟨m,ho⟩,hr⟩:=x.list hxs ha
  obtain⟨as,ha⟩:=toDs_reads x n xs hds hr
  exact⟨_,.list ho rfl rfl ha⟩
theorem toDs_reads (x:St B ρ σ s):∀ (n:Nat) (vs:List PV) {ds:List PyData} {vals:List Value},toDs n σ vs=some ds→VRs B ρ s.heap vs vals→∃ as,ReadsAll s.heap vals ds as
 | 0,_,_,_,h,_=>nos h
 | n+1,[],ds,vals,h,r=>by cases h; obtain rfl:vals=[]:=r; exact⟨_,.nil⟩
 | n+1,v::vs,ds,vals,h,r=>by
  obtain⟨d,hd,h⟩:=opt_some h
  obtain⟨ds,hds,h⟩:=opt_some h
  cases h
  obtain⟨w,ws,rfl,h1,h2⟩:=r
  obtain⟨as,ha⟩:=toD_reads x n v hd h1
  obtain⟨bs,hb⟩:=toDs_reads x n vs hds h2
  exact⟨_,.cons ha hb⟩
end
theorem eqV_some {a b:PV}{t:Bool}(h:eqV σ a b=some t):(∃ i j,a= .int i∧b= .int j∧decide (i=j)=t)∨(∃ i j,a= .str i∧b= .str j∧decide (i=j)=t)∨eqD σ a b=some t:=by
 cases a with
 | int i=>cases b with
  | int j=>exact .inl ⟨i,j,rfl,rfl,Option.some.inj h⟩
  | _=>exact .inr (.inr h)
 | str i=>cases b with
  | str j=>exact .inr (.inl ⟨i,j,rfl,rfl,Option.some.inj h⟩)
  | _=>exact .inr (.inr h)
 | _=>exact .inr (.inr h)
theorem eqD_some {a b:PV}{t:Bool}(h:eqD σ a b=some t):∃ da db,toD 100000 σ a=some da∧toD 100000 σ b=some db∧(da.canLay0=true∧db.canLay0=true∧min da.depth db.depth≤8)∧PyData.eqv da db=t:=by
 obtain⟨da,ha,h⟩:=opt_some h
 obtain⟨db,hb,h⟩:=opt_some h
 obtain⟨hc,h⟩:=grd_some h
 exact⟨da,db,ha,hb,hc,Option.some.inj h⟩
theorem eq_ok {a b:PV}{t:Bool}{va vb:Value}(r:Room k A)(x:St B ρ σ s)(h:eqV σ a b=some t)(ha:VR B ρ s.heap a va)(hb:VR B ρ s.heap b vb):
  Ok B A ρ σ s (compareOp .Eq va vb) σ (Is B (.bool t))∧Ok B A ρ σ s (compareOp .NotEq va vb) σ (Is B (.bool !t)):=by
 rcases eqV_some h with⟨i,j,rfl,rfl,rfl⟩ | ⟨i,j,rfl,rfl,rfl⟩ | h
 ·obtain⟨t,rfl⟩:=ha
  obtain⟨u,rfl⟩:=hb
  exact⟨eq_int (done_ x rfl),PyProof.Rows.ne_int (done_ x rfl)⟩
 ·obtain⟨t,rfl⟩:=ha
  obtain⟨u,rfl⟩:=hb
  exact⟨PyProof.Rows.eq_str (done_ x rfl),PyProof.Rows.ne_str (done_ x rfl)⟩
 ·obtain⟨da,db,hda,hdb,hc,rfl⟩:=eqD_some h
  obtain⟨as,h1⟩:=toD_reads x _ _ hda ha
  obtain⟨bs,h2⟩:=toD_reads x _ _ hdb hb
  have hu:A.units+min da.depth db.depth < cLine:=Nat.lt_of_le_of_lt (Nat.add_le_add_left (Nat.le_trans hc.2.2 (by decide)) _) r.unit
  exact⟨SeqAt.compareEq_reads h1 h2 hc.1 hc.2.1 hu (done_ x rfl),SeqAt.compareNe_reads h1 h2 hc.1 hc.2.1 hu (done_ x rfl)⟩
theorem is_val {a b:PV}{t:Bool}{va vb:Value}{hp:Heap}(h:isV a b=some t)(ha:VR B ρ hp a va)(hb:VR B ρ hp b vb):plainIs va vb=true∧(va==vb)=t:=by
 cases b with
 | none=>
  obtain rfl:vb= .none:=hb
  cases a with
  | none=>obtain rfl:va= .none:=ha; exact⟨rfl,Option.some.inj h⟩
  | bool p=>obtain rfl:va= .bool p:=ha; exact⟨rfl,Option.some.inj h⟩
  | int i=>obtain⟨t,rfl⟩:=ha; exact⟨rfl,Option.some.inj h⟩
  | str i=>obtain⟨t,rfl⟩:=ha; exact⟨rfl,Option.some.inj h⟩
  | tup xs=>obtain⟨l,vs,rfl,_⟩:=ha; exact⟨rfl,Option.some.inj h⟩
  | lst i=>obtain⟨l,rfl,_⟩:=ha; exact⟨rfl,Option.some.inj h⟩
 | bool q=>
  obtain rfl:vb= .bool q:=hb
  cases a with
  | none=>obtain rfl:va= .none:=ha; exact⟨rfl,Option.some.inj h⟩
  | bool p=>obtain rfl:va= .bool p:=ha; exact⟨rfl,by obtain rfl:=Option.some.inj h; cases p <;> cases q <;> rfl⟩
  | int i=>obtain⟨t,rfl⟩:=ha; exact⟨rfl,Option.some.inj h⟩
  | str i=>obtain⟨t,rfl⟩:=ha; exact⟨rfl,Option.some.inj h⟩
  | _=>exact nos h
 | _=>exact nos h
theorem is_ok {a b:PV}{t:Bool}{va vb:Value}(x:St B ρ σ s)(h:isV a b=some t)(ha:VR B ρ s.heap a va)(hb:VR B ρ s.heap b vb):
  Ok B A ρ σ s (compareOp .Is va vb) σ (Is B (.bool t))∧Ok B A ρ σ s (compareOp .IsNot va vb) σ (Is B (.bool !t)):=by
 obtain⟨hp,rfl⟩:=is_val h ha hb
 exact⟨wpAny_is_plain hp (done_ x rfl),wpAny_isNot_plain hp (done_ x rfl)⟩
theorem strsOf_vrs:∀ {ys:List PV} {ts:List Str} {vs:List Value} {h:Heap},strsOf ys=some ts→VRs B ρ h ys vs→∃ us:List Tok,us.length=ts.length∧vs=(ts.zip us).map fun p=> .str p.1 p.2
 | [],ts,vs,_,e,r=>by cases e; obtain rfl:vs=[]:=r; exact⟨[],rfl,rfl⟩
 | y::ys,ts,vs,h,e,r=>by
  cases y with
  | str t=>
   obtain⟨ts',hs,rfl⟩:=Option.map_eq_some_iff.mp (show (strsOf ys).map (t::·)=some ts from e)
   obtain⟨w,ws,rfl,⟨u,rfl⟩,h2⟩:=r
   obtain⟨us,hl,rfl⟩:=strsOf_vrs hs h2
   exact⟨u::us,congrArg (· +1) hl,rfl⟩
  | _=>cases e
theorem any_zip (p:Str):∀ (ts:List Str) (us:List Tok),us.length=ts.length→(((ts.zip us).map fun q=>Value.str q.1 q.2).any fun v=>match v with | .str q _=>q==p | _=>false)=ts.any fun t=>t==p
 | [],_,_=>by rfl
 | a::ts,u::us,h=>by
  show (_ || _)=(_ || _)
  exact congrArg _ (any_zip p ts us (Nat.succ.inj h))
theorem in_ok {a b:PV}{t:Bool}{va vb:Value}(x:St B ρ σ s)(h:inV a b=some t)(ha:VR B ρ s.heap a va)(hb:VR B ρ s.heap b vb):
  Ok B A ρ σ s (compareOp .In va vb) σ (Is B (.bool t))∧Ok B A ρ σ s (compareOp .NotIn va vb) σ (Is B (.bool !t)):=by
 cases a with
 | str p=>
  obtain⟨t,rfl⟩:=ha
  cases b with
  | str q=>
   obtain⟨u,rfl⟩:=hb
   cases h
   exact⟨SB.contains (done_ x rfl),SB.notContains (done_ x rfl)⟩
  | tup ys=>
   obtain⟨ts,hts,h⟩:=opt_some h
   cases h
   obtain⟨l,vs,rfl,_,_,ht,hr⟩:=hb
   obtain⟨us,hl,hvs⟩:=strsOf_vrs hts hr
   have he:∀ y,y∈vs→SeqAt.EqAt A.in1 s y (.str p t) ((fun v=>match v with | .str q _=>q==p | _=>false) y):=fun y hy=>by
    have:y∈vs.toList:=Array.mem_toList_iff.mpr hy
    rw[hvs] at this
    obtain⟨⟨q,u⟩,_,rfl⟩:=List.mem_map.mp this
    exact SeqAt.EqAt.str_str q u p t
   have e:(vs.any fun v=>match v with | .str q _=>q==p | _=>false)=ts.any fun t=>t==p:=by
    rw[← Array.any_toList,hvs]
    exact any_zip p ts us hl
   exact⟨SeqAt.in_tupleAt _ ht he (by rw[e]; exact done_ x rfl),SeqAt.notIn_tupleAt _ ht he (by rw[e]; exact done_ x rfl)⟩
  | _=>exact nos h
 | _=>exact nos h
theorem not_map {o:Option Bool}{t:Bool}(e:o.map (!·)=some t):∃ u,o=some u∧t=!u:=by
 cases o with
 | none=>cases e
 | some u=>cases e; exact⟨u,rfl,rfl⟩
theorem ordV2_some {a b:PV}{f:Int→Int→Bool}{t:Bool}(h:ordV2 a b f=some t):∃ i j,a= .int i∧b= .int j∧f i j=t:=by
 cases a with
 | int i=>cases b with
  | int j=>exact⟨i,j,rfl,rfl,Option.some.inj h⟩
  | _=>exact nos h
 | _=>exact nos h
theorem cmp_ok {op:CmpOp}{a b:PV}{t:Bool}{va vb:Value}(r:Room k A)(x:St B ρ σ s)(h:cmpV op σ a b=some t)(ha:VR B ρ s.heap a va)(hb:VR B ρ s.heap b vb):
  Ok B A ρ σ s (compareOp op va vb) σ (Is B (.bool t)):=by
 cases op with
 | Eq=>exact (eq_ok r x h ha hb).1
 | NotEq=>obtain⟨u,h2,rfl⟩:=not_map h; exact (eq_ok r x h2 ha hb).2
 | Is=>exact (is_ok x h ha hb).1
 | IsNot=>obtain⟨u,h2,rfl⟩:=not_map h; exact (is_ok x h2 ha hb).2
 | In=>exact (in_ok x h ha hb).1
 | NotIn=>obtain⟨u,h2,rfl⟩:=not_map h; exact (in_ok x h2 ha hb).2
 | Lt=>obtain⟨i,j,rfl,rfl,rfl⟩:=ordV2_some h; obtain⟨t,rfl⟩:=ha; obtain⟨u,rfl⟩:=hb; exact PyProof.Rows.lt_int (done_ x rfl)
 | LtE=>obtain⟨i,j,rfl,rfl,rfl⟩:=ordV2_some h; obtain⟨t,rfl⟩:=ha; obtain⟨u,rfl⟩:=hb; exact PyProof.Rows.le_int (done_ x rfl)
 | Gt=>obtain⟨i,j,rfl,rfl,rfl⟩:=ordV2_some h; obtain⟨t,rfl⟩:=ha; obtain⟨u,rfl⟩:=hb; exact PyProof.Rows.gt_int (done_ x rfl)
 | GtE=>obtain⟨i,j,rfl,rfl,rfl⟩:=ordV2_some h; obtain⟨t,rfl⟩:=ha; obtain⟨u,rfl⟩:=hb; exact PyProof.Rows.ge_int (done_ x rfl)
end
section
variable {B:Bs}{A:Around}{ρ:List Addr}{σ σ':Sto}{s:Shared}{k:Nat}{β:Type}{r:β}
theorem len63 {n:Nat}(h:n≤1000000):(n:Int) < 2 ^ 63:=Int.lt_of_le_of_lt (Int.ofNat_le.mpr h) (by decide)
noncomputable def BinS (B:Bs)(op:Operator)(a b:PV)(σ:Sto)(v:PV)(σ':Sto):Prop:=∀ (A:Around) (ρ:List Addr) (s:Shared) (va vb:Value),St B ρ σ s→VR B ρ s.heap a va→VR B ρ s.heap b vb→Ok B A ρ σ s (binaryOp op va vb) σ' (Is B v)
theorem BinS.ii {op:Operator}{i j:Int}{v:PV}(H:∀ A ρ s t u,St B ρ σ s→Ok B A ρ σ s (binaryOp op (.int i t) (.int j u)) σ' (Is B v)):BinS B op (.int i) (.int j) σ v σ':=fun A ρ s va vb x ha hb=>by
 obtain⟨t,rfl⟩:=ha
 obtain⟨u,rfl⟩:=hb
 exact H A ρ s t u x
theorem add_ii {i j:Int}:BinS B .Add (.int i) (.int j) σ (.int (i+j)) σ:= .ii fun A ρ s t u x=>add_int (done_tok x _ ⟨_,rfl⟩)
theorem sub_ii {i j:Int}:BinS B .Sub (.int i) (.int j) σ (.int (i - j)) σ:= .ii fun A ρ s t u x=>PyProof.Rows.sub_int (done_tok x _ ⟨_,rfl⟩)
theorem mod_ii {i j:Int}(h:¬ j=0):BinS B .Mod (.int i) (.int j) σ (.int (Int.fmod i j)) σ:= .ii fun A ρ s t u x=>mod_int h (done_tok x _ ⟨_,rfl⟩)
theorem mul_ii {i j:Int}(h:i.natAbs < bigN∧j.natAbs < bigN):BinS B .Mult (.int i) (.int j) σ (.int (i * j)) σ:= .ii fun A ρ s t u x=>mul_int (done_tok x _ ⟨_,rfl⟩) (mulOk_small h.1 h.2)
theorem fdiv_ii {i j:Int}(h0:¬ j=0)(h:j.natAbs < 1073741824):BinS B .FloorDiv (.int i) (.int j) σ (.int (Int.fdiv i j)) σ:= .ii fun A ρ s t u x=>floordiv_int h0 (done_tok x _ ⟨_,rfl⟩) (.inl (PyProof.noPylong_small h))
theorem pow_ii {i j:Int}(h:0≤j∧j≤20∧i.natAbs≤10):BinS B .Pow (.int i) (.int j) σ (.int (i ^ j.toNat)) σ:= .ii fun A ρ s t u x=>by
 refine pow_int h.1 ?_ (done_tok x _ ⟨_,rfl⟩)
 have hb:Builtin.Int.intBits i≤4:=intBits_lt (Nat.lt_of_le_of_lt h.2.2 (by decide))
 exact Int.le_trans (Int.mul_le_mul (Int.ofNat_le.mpr hb) h.2.1 h.1 (by decide)) (by decide)
theorem add_ss' {x y:Str}(h:(x++y).length≤100000):BinS B .Add (.str x) (.str y) σ (.str (x++y)) σ:=fun A ρ s va vb x ha hb=>by
 obtain⟨t,rfl⟩:=ha
 obtain⟨u,rfl⟩:=hb
 exact PyProof.Rows.add_str (fun t' tk=>done_tok x _ ⟨_,rfl⟩) (by rw[← strLen_append]; exact Nat.le_trans h (by decide))
theorem mul_si {x:Str}{j:Int}(h:0≤j∧j≤1000∧x.length≤1000):BinS B .Mult (.str x) (.int j) σ (.str (Txt.mul x j)) σ:=fun A ρ s va vb st ha hb=>by
 obtain⟨t,rfl⟩:=ha
 obtain⟨u,rfl⟩:=hb
 refine SB.mul ⟨?_,fun _ h1=>?_,fun _ _=>?_⟩ fun t' k=>done_tok st _ ⟨_,rfl⟩
 ·rw[decide_eq_false (show ¬ j < -(2 ^ 63:Int) by lia),decide_eq_false (show ¬ j≥(2 ^ 63:Int) by lia)]; rfl
 ·have:(1000:Int)≤(2 ^ 63 - 1) / j:=(Int.le_ediv_iff_mul_le (by lia)).mpr (by lia)
  lia
 ·have hle:x.length * j.toNat≤1000 * 1000:=Nat.mul_le_mul h.2.2 (by lia)
  exact decide_eq_false (Nat.not_lt.mpr (Nat.le_trans hle (by decide)))
theorem lst_new (ok:BsOk B){ρ:List Addr}{σ:Sto}{s:Shared}(x:St B ρ σ s){xs:List PV}{vs:List Value}(tk:Nat)(r:VRs B ρ s.heap xs vs):
  ∃ ρ',St B ρ' (σ++[⟨0,.lst xs⟩]) { s with heap:=s.heap.push { cls:= .type "list",data:= .seq vs.toArray },toks:=tk }∧
   Evo B [] ρ σ s.heap ρ' (σ++[⟨0,.lst xs⟩]) (s.heap.push { cls:= .type "list",data:= .seq vs.toArray })∧
   VR B ρ' (s.heap.push { cls:= .type "list",data:= .seq vs.toArray }) (.lst σ.length) (.ref s.heap.objs.size):=by
 obtain⟨x',e',hat⟩:=x.new ok (s':={ s with heap:=s.heap.push { cls:= .type "list",data:= .seq vs.toArray },toks:=tk }) (a:=s.heap.objs.size) (d:= .lst xs) rfl rfl (get?_size _)
  (fun b o ho=>Heap.get?_push_of_some _ ho) fun ρ' σ' e hρ=>⟨vs,⟨0,Heap.get?_push_size _ rfl⟩,VRs.evo e _ r⟩
 exact⟨_,x',e',_,rfl,hat⟩
theorem add_lists' {prog:Program}{w:World}{A:Around}{E:Value→Shared→Prop}{s:Shared}{l b:Addr}{vs ws:List Value}{Q:Value→Shared→Prop}(hl:s.heap.PlainList l vs.toArray)(hb:s.heap.PlainList b ws.toArray)
  (h:Q (.ref s.heap.objs.size) { s with heap:=s.heap.push { cls:= .type "list",data:= .seq (vs++ws).toArray } })
  (hsz:vs.length+ws.length≤sizeLine):
  wpAny (model prog w) A (binaryOp .Add (.ref l) (.ref b)) Q E s:=by
 obtain⟨n,ho⟩:=hl
 obtain⟨n2,ho2⟩:=hb
 exact concat_meets ⟨_,ho,rfl⟩ ⟨_,ho2,rfl⟩ noFill_list_add seq_list_add PySem.F.slot_list_add PySem.F.entry_list_add (PySem.F.args_list_add_2 _ _) (list_addW l b vs.toArray ws.toArray n n2 none none #[] #[] (by simpa using hsz)) ⟨ho,ho2,by rw[List.append_toArray]; exact h⟩
theorem add_ll (ok:BsOk B){i j:Nat}{xs ys:List PV}(hx:getL σ i=some xs)(hy:getL σ j=some ys)(h:xs.length+ys.length≤10000):BinS B .Add (.lst i) (.lst j) σ (.lst σ.length) (σ++[⟨0,.lst (xs++ys)⟩]):=fun A ρ s va vb x ha hb=>by
 obtain⟨la,rfl,hla⟩:=ha
 obtain⟨lb,rfl,hlb⟩:=hb
 obtain⟨vs,hp,hvs⟩:=x.list hx hla
 obtain⟨ws,hq,hws⟩:=x.list hy hlb
 exact add_lists' hp hq (lst_new ok x _ (hvs.append hws)) (by rw[hvs.length,hws.length]; exact Nat.le_trans h (by decide))
theorem binLK_some (ok:BsOk B){op:Operator}{a b:PV}{K:PV→Sto→Option β}(h:binLK op a b σ K=some r):∃ v σ',K v σ'=some r∧BinS B op a b σ v σ':=by
 refine on2_ind (P:=fun a b=>∃ v σ',K v σ'=some r∧BinS B op a b σ v σ') h (fun i j h=>?_) (fun i j h=>?_) (fun i j h=>?_) fun i j h=>?_
 ·exact opK_ind (P:=fun op=>∃ v σ',K v σ'=some r∧BinS B op (.int i) (.int j) σ v σ') h (fun h=>⟨_,_,h,add_ii⟩) (fun h=>⟨_,_,h,sub_ii⟩) (fun h=>⟨_,_,(grd_some h).2,mul_ii (grd_some h).1⟩)
   (fun h=>⟨_,_,(ifn_some h).2,mod_ii (ifn_some h).1⟩) (fun h=>⟨_,_,(grd_some (ifn_some h).2).2,fdiv_ii (ifn_some h).1 (grd_some (ifn_some h).2).1⟩) fun h=>⟨_,_,(grd_some h).2,pow_ii (grd_some h).1⟩
 ·exact onAdd_ind (P:=fun op=>∃ v σ',K v σ'=some r∧BinS B op (.str i) (.str j) σ v σ') h fun h=>⟨_,_,(grd_some h).2,add_ss' (grd_some h).1⟩
 ·exact onMult_ind (P:=fun op=>∃ v σ',K v σ'=some r∧BinS B op (.str i) (.int j) σ v σ') h fun h=>⟨_,_,(grd_some h).2,mul_si (grd_some h).1⟩
 ·refine onAdd_ind (P:=fun op=>∃ v σ',K v σ'=some r∧BinS B op (.lst i) (.lst j) σ v σ') h fun h=>?_
  obtain⟨xs,hx,h3⟩:=opt_some h
  obtain⟨ys,hy,h4⟩:=opt_some h3
  exact⟨_,_,(grd_some h4).2,add_ll ok hx hy (grd_some h4).1⟩
noncomputable def AugS (B:Bs)(op:Operator)(a b:PV)(v:PV):Prop:=∀ (A:Around) (ρ:List Addr) (σ:Sto) (s:Shared) (va vb:Value),St B ρ σ s→VR B ρ s.heap a va→VR B ρ s.heap b vb→Ok B A ρ σ s (inplaceOp op va vb) σ (Is B v)
theorem AugS.ii {op:Operator}{i j:Int}{v:PV}(H:∀ A ρ σ s t u,St B ρ σ s→Ok B A ρ σ s (inplaceOp op (.int i t) (.int j u)) σ (Is B v)):AugS B op (.int i) (.int j) v:=fun A ρ σ s va vb x ha hb=>by
 obtain⟨t,rfl⟩:=ha
 obtain⟨u,rfl⟩:=hb
 exact H A ρ σ s t u x
theorem aug_ss {i j:Str}(h:(i++j).length≤100000):AugS B .Add (.str i) (.str j) (.str (i++j)):=fun A ρ σ s va vb x ha hb=>by
 obtain⟨t,rfl⟩:=ha
 obtain⟨u,rfl⟩:=hb
 exact PyProof.Rows.iadd_str (fun t' tk=>done_tok x _ ⟨_,rfl⟩) (by rw[← strLen_append]; exact Nat.le_trans h (by decide))
theorem augK_some {op:Operator}{a b:PV}{K:PV→Option β}(h:augK op a b K=some r):∃ v,K v=some r∧AugS B op a b v:=
 on2_ind (P:=fun a b=>∃ v,K v=some r∧AugS B op a b v) h
  (fun i j h=>opK_ind (P:=fun op=>∃ v,K v=some r∧AugS B op (.int i) (.int j) v) h (fun h=>⟨_,h,.ii fun A ρ σ s t u x=>iadd_int (done_tok x _ ⟨_,rfl⟩)⟩) (fun h=>⟨_,h,.ii fun A ρ σ s t u x=>isub_int (done_tok x _ ⟨_,rfl⟩)⟩) nos nos nos nos)
  (fun i j h=>onAdd_ind (P:=fun op=>∃ v,K v=some r∧AugS B op (.str i) (.str j) v) h fun h=>⟨_,(grd_some h).2,aug_ss (grd_some h).1⟩) (fun i j h=>nos h) fun i j h=>nos h
noncomputable def TruthS (B:Bs)(a:PV)(t:Bool):Prop:=∀ (A:Around) (ρ:List Addr) (σ:Sto) (s:Shared) (va:Value),St B ρ σ s→VR B ρ s.heap a va→Ok B A ρ σ s (truthy va) σ (fun _ _ b=>b=t)
theorem truthK_some {a:PV}{K:Bool→Option β}(h:truthK a K=some r):∃ t,K t=some r∧TruthS B a t:=by
 cases a with
 | none=>exact⟨_,h,fun A ρ σ s va x ha=>by obtain rfl:va= .none:=ha; exact truthy_none ⟨ρ,x,.refl ..,rfl⟩⟩
 | bool b=>exact⟨_,h,fun A ρ σ s va x ha=>by obtain rfl:va= .bool b:=ha; exact wpAny_truthy_bool ⟨ρ,x,.refl ..,rfl⟩⟩
 | int i=>exact⟨_,h,fun A ρ σ s va x ha=>by obtain⟨u,rfl⟩:=ha; exact PyProof.Rows.truthy_int ⟨ρ,x,.refl ..,rfl⟩⟩
 | str y=>exact⟨_,(grd_some h).2,fun A ρ σ s va x ha=>by obtain⟨u,rfl⟩:=ha; exact P.truthy_str (Int.not_le.mpr (len63 (grd_some h).1)) ⟨ρ,x.tok _,.refl ..,rfl⟩⟩
 | _=>exact nos h
theorem truthK_el {C:Prop}{a:PV}{K:Bool→Option β}(h:truthK a K=some r)(c:∀ t,K t=some r→TruthS B a t→C):C:=let ⟨t,h1,h2⟩:=truthK_some (B:=B) h; c t h1 h2
theorem sub_notSlice {slice:Expr}{o i:Value}(hs:∀ l u st p,slice≠ .Slice l u st p):subscripted slice false o i=operate [o,i] (getItem o i):=by
 cases slice with
 | Slice l u st p=>exact (hs l u st p rfl).elim
 | _=>rfl
theorem seqIndex_cases {k:Int}{n j:Nat}(h:seqIndex? k n=some j):(k < 0∧0≤k+n∧j=(k+n).toNat)∨(0≤k∧k < n∧j=k.toNat):=by
 unfold seqIndex? at h
 dsimp only at h
 by_cases h0:k < 0
 ·rw[if_pos h0] at h
  obtain⟨hb,h1⟩:=grd_some (β:=Nat) h
  rw[Bool.and_eq_true,decide_eq_true_eq,decide_eq_true_eq] at hb
  exact .inl ⟨h0,hb.1,(Option.some.inj h1).symm⟩
 ·rw[if_neg h0] at h
  obtain⟨hb,h1⟩:=grd_some (β:=Nat) h
  rw[Bool.and_eq_true,decide_eq_true_eq,decide_eq_true_eq] at hb
  exact .inr ⟨hb.1,hb.2,(Option.some.inj h1).symm⟩
noncomputable def SubS (B:Bs)(a i:PV)(σ:Sto)(v:PV):Prop:=∀ (A:Around) (ρ:List Addr) (s:Shared) (va vi:Value) (value slice:Expr),(∀ l u st p,slice≠ .Slice l u st p)→St B ρ σ s→VR B ρ s.heap a va→VR B ρ s.heap i vi→Ok B A ρ σ s (subscriptTail value slice va vi) σ (Is B v)
theorem itemK_some {j:Int}{xs:List PV}{K:PV→Option β}(h:itemK j xs K=some r):∃ p v,seqIndex? j xs.length=some p∧xs[p]?=some v∧K v=some r:=by
 obtain⟨p,hp,h⟩:=opt_some h
 obtain⟨v,hv,h⟩:=opt_some h
 exact⟨p,v,hp,hv,h⟩
theorem sub_str {y:Str}{j:Int}(h:fitsSsize j=true∧(Txt.charAt y j).isSome=true):SubS B (.str y) (.int j) σ (.str (Txt.item y j)):=fun A ρ s va vi value slice hs x ha hi=>by
 obtain⟨t,rfl⟩:=ha
 obtain⟨u,rfl⟩:=hi
 exact tail_any (typeIs_str _ _ _) F.slot_str_getitem.lookup (SB.getItem h.1 h.2 (done_tok x _ ⟨_,rfl⟩)) (sub_notSlice hs)
theorem sub_tup {xs:List PV}{j:Int}{p:Nat}{v:PV}(h: -(2 ^ 63)≤j∧j < 2 ^ 63)(hp:seqIndex? j xs.length=some p)(hv:xs[p]?=some v):SubS B (.tup xs) (.int j) σ v:=fun A ρ s va vi value slice hs x ha hi=>by
 obtain⟨l,vs,rfl,_,_,ht,hr⟩:=ha
 obtain⟨u,rfl⟩:=hi
 obtain⟨w,hw,hvw⟩:=hr.get hv
 exact tail_any ht.typeIs slot_tuple_getitem.lookup (PyProof.Rows.getItem_tuple ht h.1 h.2 (by rw[show vs.size=xs.length from hr.length]; exact hp) (by rw[← Array.getElem?_toList]; exact hw) (done_ x hvw)) (sub_notSlice hs)
theorem sub_lst {c:Nat}{xs:List PV}{j:Int}{p:Nat}{v:PV}(h: -(2 ^ 63)≤j∧j < 2 ^ 63)(hx:getL σ c=some xs)(hp:seqIndex? j xs.length=some p)(hv:xs[p]?=some v):SubS B (.lst c) (.int j) σ v:=fun A ρ s va vi value slice hs x ha hi=>by
 obtain⟨l,rfl,hl⟩:=ha
 obtain⟨u,rfl⟩:=hi
 obtain⟨vs,hpl,hr⟩:=x.list hx hl
 obtain⟨w,hw,hvw⟩:=hr.get hv
 have hsz:vs.toArray.size=xs.length:=hr.length
 have hw':vs.toArray[p]?=some w:=by rw[List.getElem?_toArray]; exact hw
 refine tail_any hpl.isList.typeIs slot_list_getitem.lookup ?_ (sub_notSlice hs)
 rcases seqIndex_cases hp with⟨h0,h1,rfl⟩ | ⟨h0,h1,rfl⟩
 ·exact wpAny_getItem_list_neg hpl.isList h0 (by rw[hsz]; exact by lia) h.1 (by rw[hsz]; exact hw') (done_ x hvw)
 ·exact wpAny_getItem_list hpl.isList h0 h.2 hw' (done_ x hvw)
theorem sub_dct {c:Nat}{n:Str}{cell:Cell}{kvs:List (Str×PV)}{v:PV}(hc:σ[c]?=some cell)(hd:cell.d= .dct kvs)(hv:kvs.lookup n=some v):SubS B (.lst c) (.str n) σ v:=fun A ρ s va vi value slice hs x ha hi=>by
 obtain⟨l,rfl,hl⟩:=ha
 obtain⟨u,rfl⟩:=hi
 have:=x.cells c cell l hc hl
 rw[hd] at this
 obtain⟨f,hm,_,hf⟩:=this
 have hx:=hf n
 rw[hv] at hx
 obtain⟨w,hw,hvw⟩:=hx
 exact tail_any hm.typeIs slot_dict_getitem.lookup (wpAny_getItem_of (strKind_is _ _ n u) hm hw (done_tok x _ hvw)) (sub_notSlice hs)
theorem subK_some {a i:PV}{K:PV→Option β}(h:subK a i σ K=some r):∃ v,K v=some r∧SubS B a i σ v:=by
 cases a with
 | str y=>obtain⟨j,rfl,h1⟩:=onInt_some h; exact⟨_,(grd_some h1).2,sub_str (grd_some h1).1⟩
 | tup xs=>
  obtain⟨j,rfl,h1⟩:=onInt_some h
  obtain⟨p,v,hp,hv,h2⟩:=itemK_some (grd_some h1).2
  exact⟨_,h2,sub_tup (grd_some h1).1 hp hv⟩
 | lst c=>cases i with
  | int j=>
   obtain⟨hj,h1⟩:=grd_some h
   obtain⟨xs,hx,h2⟩:=opt_some h1
   obtain⟨p,v,hp,hv,h3⟩:=itemK_some h2
   exact⟨_,h3,sub_lst hj hx hp hv⟩
  | str n=>
   obtain⟨cell,hc,h1⟩:=opt_some h
   cases hd:cell.d with
   | dct kvs=>rw[hd] at h1; obtain⟨v,hv,h2⟩:=opt_some h1; exact⟨_,h2,sub_dct hc hd hv⟩
   | _=>rw[hd] at h1; exact nos h1
  | _=>exact nos h
 | _=>exact nos h
theorem part_ok {v:PV}{p:Option Int}{val:Value}{h:Heap}(e:partV v=some p)(r:VR B ρ h v val):∃ q:Option (Int×Tok),val=partValue q∧q.map (·.1)=p∧IsPart val p:=by
 cases v with
 | none=>obtain rfl:val= .none:=r; obtain rfl:=Option.some.inj e; exact⟨none,rfl,rfl,.none⟩
 | int i=>obtain⟨t,rfl⟩:=r; obtain rfl:=Option.some.inj e; exact⟨some (_,t),rfl,rfl,.int ..⟩
 | _=>exact nos e
theorem sub_slice {lo hi st:Option Expr}{p:Pos}{o i:Value}:∃ ops,subscripted (.Slice lo hi st p) false o i=operate ops (getItem o i):=by
 cases st with
 | none=>exact⟨_,rfl⟩
 | some e=>exact⟨_,rfl⟩
theorem vrs_pick {xs:List PV}{vs:List Value}{h:Heap}(r:VRs B ρ h xs vs):∀ l:List Nat,VRs B ρ h (l.filterMap (xs[·]?)) (l.filterMap (vs[·]?))
 | []=>rfl
 | j::l=>by
  cases hx:xs[j]? with
  | none=>
   have:vs[j]?=none:=by rw[List.getElem?_eq_none_iff] at hx ⊢; rw[r.length]; exact hx
   rw[List.filterMap_cons,List.filterMap_cons,hx,this]
   exact vrs_pick r l
  | some y=>
   obtain⟨w,hw,hr⟩:=r.get hx
   rw[List.filterMap_cons,List.filterMap_cons,hx,hw]
   exact⟨w,_,rfl,hr,vrs_pick r l⟩
theorem slice_len (q:Str)(lo hi st:Option Int):(Str.mk ((Builtin.Str.strSliceIndices lo hi (st.getD 1) q.length).filterMap (q.cps[·]?)).toArray).length≤q.length:=by
 have h:=slicePick_size_le (q.cps.map fun (c:Nat)=>Value.int (c:Int) 0) lo hi st
 unfold slicePick at h
 rw[List.size_toArray,Array.size_map] at h
 refine Nat.le_trans (Nat.le_of_eq ?_) h
 show (List.filterMap _ _).length=_
 have:∀ l:List Nat,(l.filterMap (q.cps[·]?)).length=(l.filterMap ((q.cps.map fun (c:Nat)=>Value.int (c:Int) 0)[·]?)).length:=fun l=>by
  induction l with
  | nil=>rfl
  | cons j l ih=>cases hj:q.cps[j]? <;> simp[List.filterMap_cons,hj,ih]
 exact this _
noncomputable def SliS (B:Bs)(a:PV)(lo hi st:Option Int)(σ:Sto)(v:PV)(σ':Sto):Prop:=∀ (A:Around) (ρ:List Addr) (s:Shared) (value:Expr) (los his sts:Option Expr) (p:Pos) (va vl vh vs:Value) (l h c:PV) (I:Addr),St B ρ σ s→VR B ρ s.heap a va→
 partV l=some lo→partV h=some hi→partV c=some st→VR B ρ s.heap l vl→VR B ρ s.heap h vh→VR B ρ s.heap c vs→s.heap.IsSliceOf I vl vh vs→Ok B A ρ σ s (subscriptTail value (.Slice los his sts p) va (.ref I)) σ' (Is B v)
theorem sli_str {q:Str}{pl ph ps:Option Int}(hz:¬ ps=some 0)(hl:q.length≤100000):SliS B (.str q) pl ph ps σ (.str (sliStr q pl ph ps)) σ:=by
 intro A ρ s value los his sts p va vl vh vs l h c I x ha el eh es rl rh rs hI
 obtain⟨ops,hops⟩:=@sub_slice los his sts p va (.ref I)
 obtain⟨t,rfl⟩:=ha
 obtain⟨ql,rfl,e1,_⟩:=part_ok el rl
 obtain⟨qh,rfl,e2,_⟩:=part_ok eh rh
 obtain⟨qs,rfl,e3,_⟩:=part_ok es rs
 have h0:((qs.map (·.1)).getD 1==0)=false:=by
  rw[e3]
  cases ps with
  | none=>rfl
  | some c=>exact beq_eq_false_iff_ne.mpr fun e:c=0=>hz (congrArg some e)
 refine tail_any (typeIs_str _ _ _) F.slot_str_getitem.lookup (wpAny_getItem_str_slice (l:=ql) (u:=qh) (st:=qs) hI h0 ?_) hops
 unfold sliceMade slicePicked
 rw[e1,e2,e3]
 by_cases hc:(ps.getD 1==1&&(Builtin.Str.strSliceIndices pl ph (ps.getD 1) q.length).length==q.length)=true
 ·rw[if_pos hc]
  exact done_ x ⟨_,by rw[show sliStr q pl ph ps=q from if_pos hc]⟩
 ·rw[if_neg hc]
  exact⟨Nat.le_trans (slice_len q pl ph ps) (Nat.le_trans hl (by decide)),done_tok x _ ⟨s.toks,by rw[show sliStr q pl ph ps=_ from if_neg hc]⟩⟩
theorem sli_lst (ok:BsOk B){i:Nat}{xs:List PV}{pl ph ps:Option Int}(hz:¬ ps=some 0)(hx:getL σ i=some xs)(hl:xs.length≤100000):SliS B (.lst i) pl ph ps σ (.lst σ.length) (σ++[⟨0,.lst (slicePick' xs pl ph ps)⟩]):=by
 intro A ρ s value los his sts p va vl vh vs l h c I x ha el eh es rl rh rs hI
 obtain⟨ops,hops⟩:=@sub_slice los his sts p va (.ref I)
 obtain⟨b,rfl,hb⟩:=ha
 obtain⟨us,hp,hr⟩:=x.list hx hb
 obtain⟨_,_,_,p1⟩:=part_ok el rl
 obtain⟨_,_,_,p2⟩:=part_ok eh rh
 obtain⟨_,_,_,p3⟩:=part_ok es rs
 have hsz:us.toArray.size=xs.length:=hr.length
 refine tail_any hp.isList.typeIs slot_list_getitem.lookup (wpAny_getItem_list_slice hp.isList hI p1 p2 p3 hz ?_ (by rw[hsz]; exact Nat.le_trans hl (by decide))) hops
 have hv:slicePick us.toArray pl ph ps=(us.toArray.toList |> fun us=>((sliceRange (sliceBounds pl ph ps xs.length).1 (sliceBounds pl ph ps xs.length).2.1 (sliceBounds pl ph ps xs.length).2.2).filterMap (us[·]?))).toArray:=by
  unfold slicePick
  rw[hsz]
  simp
 rw[hv]
 exact lst_new ok x _ (vrs_pick hr _)
theorem sliK_some (ok:BsOk B){a:PV}{lo hi st:Option Int}{K:PV→Sto→Option β}(h:sliK a lo hi st σ K=some r):∃ v σ',K v σ'=some r∧SliS B a lo hi st σ v σ':=by
 obtain⟨hz,h⟩:=ifn_some h
 cases a with
 | str y=>exact⟨_,_,(grd_some h).2,sli_str hz (grd_some h).1⟩
 | lst i=>obtain⟨xs,hx,h1⟩:=opt_some h; exact⟨_,_,(grd_some h1).2,sli_lst ok hz hx (grd_some h1).1⟩
 | _=>exact nos h
end
set_option maxRecDepth 10000
section
open PySem.Builtin PySem.Builtin.Str
theorem gives_find4 (x y:Str)(i j:Int)(t u v w:Tok):PySem.Gives («str.find» ⟨[.str x t,.str y u,.int i v,.int j w],[]⟩) (.int (find4 x y i j)):=by
 show PySem.Gives (match occurrences x y (fromIndex x.length i) (min (fromIndex x.length j) x.length) 1 with | k::_=>retInt k | []=>(do rule "str.find.not-found"; retInt (-1))) _
 unfold find4
 cases occurrences x y (fromIndex x.length i) (min (fromIndex x.length j) x.length) 1 with
 | nil=>exact .rule (.of_eq rfl)
 | cons k _=>exact .of_eq rfl
end
section
variable {prog:Program}{w:World}{A:Around}{E:Value→Shared→Prop}{s:Shared}{x:Str}{t:Tok}{Q:Value→Shared→Prop}
open PySem.Builtin PySem.Builtin.Str
theorem call_find4 {y:Str}{i j:Int}{u v z:Tok}(hq:Q (.int (find4 x y i j) s.toks) { s with toks:=s.toks+1 }):wpAny (model prog w) A (call (.builtin "str.find") [.str x t,.str y u,.int i v,.int j z]) Q E s:=
 call_gives F.slot_str_find (typeIs_str _ _ _) F.entry_str_find (F.args_str_find_4 _ _ _ _) (gives_find4 x y i j t u v z) hq
theorem call_split {y:Str}{u:Tok}(hy:(y.length==0)=false)
  (hq:∀ (l:List (Str×Tok)) tk,l.map (·.1)=Txt.split x y→Q (.ref s.heap.objs.size) { s with heap:=s.heap.push { cls:= .type "list",data:= .seq (strValues l).toArray },toks:=tk })
  (hsz:x.length≤sizeLine:=by size_fits) (hsz2:(Txt.split x y).length≤sizeLine):
  wpAny (model prog w) A (call (.builtin "str.split") [.str x t,.str y u]) Q E s:=by
 cases h1:(decide (x.length < y.length) || decide (strKind x < strKind y))
 ·cases hf:(occurrences x y 0 x.length (x.length+1)).isEmpty
  ·have hsp:Txt.split x y=partsBetween x (occurrences x y 0 x.length (x.length+1)) y.length:=(if_neg (ne_true_of_eq_false h1)).trans (if_neg (ne_true_of_eq_false hf))
   refine call_meets F.slot_str_split (typeIs_str _ _ _) F.entry_str_split (F.args_str_split_2 _ _) (meets_str_split_sep x y t u h1 hy hf hsz (hsp▸hsz2)) ?_
   show wants Q E _ { s with toks:=_,heap:=s.heap.push { cls:= .type "list",data:= .seq (strsFrom s.toks (partsBetween x (occurrences x y 0 x.length (x.length+1)) y.length)).toArray } }
   rw[strsFrom_eq]
   exact hq (numbered s.toks _) _ ((numbered_texts _ _).trans ((if_neg (ne_true_of_eq_false h1)).trans (if_neg (ne_true_of_eq_false hf))).symm)
  ·exact call_meets F.slot_str_split (typeIs_str _ _ _) F.entry_str_split (F.args_str_split_2 _ _) (meets_str_split_not_found x y t u h1 hy hf)
    (hq [(x,t)] s.toks ((if_neg (ne_true_of_eq_false h1)).trans (if_pos hf)).symm)
 ·exact call_meets F.slot_str_split (typeIs_str _ _ _) F.entry_str_split (F.args_str_split_2 _ _) (meets_str_split_cannot_occur x y t u h1)
   (hq [(x,t)] s.toks (if_pos h1).symm)
end
section
variable {B:Bs}{A:Around}{ρ:List Addr}{σ:Sto}{s:Shared}{k:Nat}
theorem strsOf_values {ys:List PV}{ts:List Str}{vs:List Value}{h:Heap}(e:strsOf ys=some ts)(r:VRs B ρ h ys vs):∃ l:List (Str×Tok),l.map (·.1)=ts∧vs=strValues l:=by
 obtain⟨us,hl,rfl⟩:=strsOf_vrs e r
 refine⟨ts.zip us,?_,rfl⟩
 rw[List.map_fst_zip]; lia
theorem vrs_strs {h:Heap}:∀ l:List (Str×Tok),VRs B ρ h (l.map fun p=> .str p.1) (strValues l)
 | []=>rfl
 | p::l=>⟨_,_,rfl,⟨_,rfl⟩,vrs_strs l⟩
noncomputable def CallS (B:Bs)(k:Nat)(f:Value)(args:List PV)(σ:Sto)(v:PV)(σ':Sto):Prop:=∀ (A:Around) (ρ:List Addr) (s:Shared) (vals:List Value),Room k A→St B ρ σ s→VRs B ρ s.heap args vals→Ok B A ρ σ s (call f vals) σ' (Is B v)
theorem CallS.one {f:Value}{a v:PV}{σ':Sto}(H:∀ A ρ s va,St B ρ σ s→VR B ρ s.heap a va→Ok B A ρ σ s (call f [va]) σ' (Is B v)):CallS B k f [a] σ v σ':=fun A ρ s vals _ x r=>by
 obtain⟨w,ws,rfl,r1,r2⟩:=r
 obtain rfl:ws=[]:=r2
 exact H A ρ s w x r1
variable {β:Type}{r:β}
theorem lenVK_some {a:PV}{K:PV→Option β}(h:lenVK a σ K=some r):∃ v,K v=some r∧CallS B k (.builtin "len") [a] σ v σ:=by
 cases a with
 | str y=>exact⟨_,(grd_some h).2,.one fun A ρ s va x ha=>by
   obtain⟨t,rfl⟩:=ha
   exact P.len_str (Int.not_le.mpr (len63 (Nat.le_trans (grd_some h).1 (by decide)))) (done_tok x _ ⟨_,rfl⟩)⟩
 | tup xs=>exact⟨_,(grd_some h).2,.one fun A ρ s va x ha=>by
   obtain⟨l,vs,rfl,_,_,ht,hr⟩:=ha
   have hsz:vs.size=xs.length:=hr.length
   exact PyProof.Rows.len_tuple ht (by rw[hsz]; exact len63 (Nat.le_trans (grd_some h).1 (by decide))) (done_tok x _ ⟨_,by rw[hsz]⟩)⟩
 | lst i=>
  obtain⟨xs,hx,h1⟩:=opt_some h
  exact⟨_,(grd_some h1).2,.one fun A ρ s va x ha=>by
   obtain⟨l,rfl,hl⟩:=ha
   obtain⟨vs,hp,hr⟩:=x.list hx hl
   have hsz:vs.toArray.size=xs.length:=hr.length
   exact len_list hp.isList (by rw[hsz]; exact len63 (Nat.le_trans (grd_some h1).1 (by decide))) (done_tok x _ ⟨_,by rw[hsz]⟩)⟩
 | _=>exact nos h
theorem chr_s {i:Int}(h:0≤i∧i≤1114111):CallS B k (.builtin "chr") [.int i] σ (.str ⟨#[i.toNat]⟩) σ:= .one fun A ρ s va x ha=>by
 obtain⟨t,rfl⟩:=ha
 exact chr_of_range h.1 h.2 (done_tok x _ ⟨_,rfl⟩)
theorem ord_s {q:Str}{c:Nat}(h:q.cps.toList=[c]):CallS B k (.builtin "ord") [.str q] σ (.int (c:Int)) σ:= .one fun A ρ s va x ha=>by
 obtain⟨t,rfl⟩:=ha
 obtain⟨a⟩:=q
 obtain⟨l⟩:=a
 obtain rfl:l=[c]:=h
 exact P.ord_of_char (done_tok x _ ⟨_,rfl⟩)
end
section
theorem ifm_ind {β:Type}{r:β}{P:Str→Prop}{m c:Str}{x y:Option β}(h:(if m=c then x else y)=some r)(h1:x=some r→P c)(h2:y=some r→P m):P m:=by
 by_cases e:m=c
 ·rw[if_pos e] at h; exact e▸h1 h
 ·rw[if_neg e] at h; exact h2 h
theorem attributeBase_ok {o:Expr}{attr:Str}{env:Env}{whole:Sem Value}(h:baseOk o=true):attributeBase o attr env whole=whole:=by
 cases o with
 | Call f args kws pos=>cases f with
  | Name id p=>cases args with
   | nil=>cases kws with
    | nil=>
     have hid:(id !=("super":Str))=true:=h
     have e:(id !=("super":Str) || attr=="__class__" || env.kindOf "super" !=some .globalImplicit || env.kindOf "__class__" !=some .free)=true:=by rw[hid]; rfl
     exact if_pos e
    | cons _ _=>rfl
   | cons _ _=>rfl
  | _=>rfl
 | _=>rfl
theorem star_cons {e:Expr}{rest:List Expr}{env:Env}(h:∀ x p,e≠ .Starred x p):starEach (e::rest) env=(false,eval e env)::starEach rest env:=by
 cases e with
 | Starred x p=>exact absurd rfl (h x p)
 | _=>rfl
theorem star_all {env:Env}:∀ {es:List Expr},(∀ e∈es,∀ x p,e≠ .Starred x p)→starEach es env=es.map fun e=>(false,eval e env)
 | [],_=>rfl
 | e::es,h=>by
  rw[star_cons (h e List.mem_cons_self),star_all fun e' he'=>h e' (List.mem_cons_of_mem _ he')]; rfl
section
variable {M:Model}{A:Around}{E:Value→Shared→Prop}{s:Shared}{env:Env}
theorem back_all {env:Env}{pos:Pos}{es:List Expr}(h:∀ e∈es,∀ x p,e≠ .Starred x p):backTo pos (starEach es env)=es.map fun e=>(false,eval e env):=by
 rw[star_all h]
 unfold backTo
 rw[List.map_map]
 rfl
theorem Call_method_gen {o:Expr}{name:Str}{apos pos:Pos}{args:List Expr}{Q:Value→Shared→Prop}
  (hbase:baseOk o=true) (hlen:args.length < 10) (hline:(apos.endLine==pos.line)=true) (hst:∀ e∈args,∀ x p,e≠ .Starred x p)
  (h:wpAny M A (eval o env) (fun ov s₁=>∀ pl,wpAny M A (getMethod ov name pl) (fun r s₂=>wpAny M A (callWith pos r.1 r.2 (args.map fun e=>(false,eval e env)) []) Q E s₂) E s₁) E s):
  wpAny M A (eval (.Call (.Attribute o name apos) args [] pos) env) Q E s:=by
 rw[arm_eval_Call,attributeBase_ok hbase,back_all hst]
 refine wpAny_bind (wpAny_mono h (fun ov s₁ h₁=>?_) fun _ _ e=>e)
 refine wpAny_bind (wpAny_standAt ?_)
 have hform:methodCallForm (args.length+([]:List Keyword).length) (args.map fun e=>(false,eval e env)) (backToKw pos (keywordEach [] env))=true:=by
  show ((args.map fun e=>(false,eval e env)).all (fun x=>!x.1)&&([]:List (Option Str×Sem Value)).all (fun x=>x.1.isSome)&&decide (args.length+0+0 < 30))=true
  have h1:(args.map fun e=>(false,eval e env)).all (fun x=>!x.1)=true:=by simp
  rw[h1]
  simp; lia
 have hpos:methodCallPos true o env apos pos=pure pos:=by unfold methodCallPos; simp[hline]
 unfold methodCall
 rw[hform]
 refine wpAny_bind (wpAny_holding (wpAny_mono (h₁ _) (fun r s₂ h₂=>?_) fun _ _ e=>e))
 exact wpAny_bind (wpAny_of_eq hpos h₂)
theorem callWith_builtin_n {pos:Pos}{id:String}{first:List Value}{es:List Expr}{Q:Value→Shared→Prop}
  (h:wpAny M A (spliced (es.map fun e=>(false,eval e env))) (fun vs s₁=>wpAny M A (call (.builtin id) (first++vs)) Q E s₁) E s):
  wpAny M A (callWith pos (.builtin id) first (es.map fun e=>(false,eval e env)) []) Q E s:=by
 refine Calls.callWith_builtin (by simp) ?_
 cases es with
 | nil=>exact PyProof.Rows.evalArgs_none fun Γ p hΓ=>(show wpAny M A (call (.builtin id) (first++[])) Q E s from h Γ p hΓ) Γ p hΓ
 | cons e es=>exact Calls.evalArgs_plain h
theorem callWith_function_n {pos:Pos}{a:Addr}{o:Obj}{fd:FuncData}{first:List Value}{es:List Expr}{Q:Value→Shared→Prop}
  (h:wpAny M A (spliced (es.map fun e=>(false,eval e env))) (fun vs s₁=>(s₁.heap.get? a=some o∧o.data= .func fd)∧wpAny M A (call (.ref a) (first++vs)) Q E s₁) E s):
  wpAny M A (callWith pos (.ref a) first (es.map fun e=>(false,eval e env)) []) Q E s:=by
 refine Calls.callWith_function (o:=o) (fd:=fd) ?_
 cases es with
 | nil=>
  exact fun Γ p hΓ=>PyProof.Rows.evalArgs_none (show (s.heap.get? a=some o∧o.data= .func fd)∧wpAny M A (call (.ref a) (first++[])) Q E s from h Γ p hΓ) Γ p hΓ
 | cons e es=>exact Calls.evalArgs_plain h
end
end
noncomputable def GetS (m:Str)(id:String):Prop:=∀ (M:Model) (A:Around) (E:Value→Shared→Prop) (s:Shared) (x:Str) (t:Tok) (pl:Sem Bool) (Q:Value×List Value→Shared→Prop),Q (.builtin id,[.str x t]) s→wpAny M A (getMethod (.str x t) m pl) Q E s
theorem get_upper:GetS "upper" "str.upper":=fun M A E s x t pl Q h=>by with_reducible exact GM.upper h
theorem get_lower:GetS "lower" "str.lower":=fun M A E s x t pl Q h=>by with_reducible exact GM.lower h
theorem get_startswith:GetS "startswith" "str.startswith":=fun M A E s x t pl Q h=>by with_reducible exact GM.startswith h
theorem get_endswith:GetS "endswith" "str.endswith":=fun M A E s x t pl Q h=>by with_reducible exact GM.endswith h
theorem get_count:GetS "count" "str.count":=fun M A E s x t pl Q h=>by with_reducible exact GM.count h
theorem get_split:GetS "split" "str.split":=fun M A E s x t pl Q h=>by with_reducible exact GM.split h
theorem get_find:GetS "find" "str.find":=fun M A E s x t pl Q h=>by with_reducible exact GM.find h
theorem get_join:GetS "join" "str.join":=fun M A E s x t pl Q h=>by with_reducible exact GM.join h
noncomputable def StrMS (B:Bs)(id:String)(x:Str)(args:List PV)(σ:Sto)(v:PV)(σ':Sto):Prop:=∀ (A:Around) (ρ:List Addr) (s:Shared) (t:Tok) (vs:List Value),St B ρ σ s→VRs B ρ s.heap args vs→Ok B A ρ σ s (call (.builtin id) (.str x t::vs)) σ' (Is B v)
section
variable {B:Bs}{σ σ':Sto}{x:Str}
theorem StrMS.z {id:String}{v:PV}(H:∀ A ρ s t,St B ρ σ s→Ok B A ρ σ s (call (.builtin id) [.str x t]) σ' (Is B v)):StrMS B id x [] σ v σ':=fun A ρ s t vs st hr=>by
 obtain rfl:vs=[]:=hr
 exact H A ρ s t st
theorem StrMS.s1 {id:String}{v:PV}{y:Str}(H:∀ A ρ s t u,St B ρ σ s→Ok B A ρ σ s (call (.builtin id) [.str x t,.str y u]) σ' (Is B v)):StrMS B id x [.str y] σ v σ':=fun A ρ s t vs st hr=>by
 obtain⟨w,ws,rfl,⟨u,rfl⟩,h2⟩:=hr
 obtain rfl:ws=[]:=h2
 exact H A ρ s t u st
theorem split_s (ok:BsOk B){y:Str}(hy:¬ y.length=0)(hn:(Txt.split x y).length≤1000∧x.length≤100000):StrMS B "str.split" x [.str y] σ (.lst σ.length) (σ++[⟨0,.lst ((Txt.split x y).map .str)⟩]):= .s1 fun A ρ s t u st=>by
 refine call_split (beq_eq_false_iff_ne.mpr hy) (fun l tk hl=>?_) (Nat.le_trans hn.2 (by decide)) (Nat.le_trans hn.1 (by decide))
 rw[← hl,List.map_map]
 exact lst_new ok st _ (vrs_strs l)
theorem find_s {y:Str}{lo hi:Int}:StrMS B "str.find" x [.str y,.int lo,.int hi] σ (.int (find4 x y lo hi)) σ:=fun A ρ s t vs st hr=>by
 obtain⟨w,ws,rfl,⟨u,rfl⟩,h2⟩:=hr
 obtain⟨w,ws,rfl,⟨u2,rfl⟩,h3⟩:=h2
 obtain⟨w,ws,rfl,⟨u3,rfl⟩,h4⟩:=h3
 obtain rfl:ws=[]:=h4
 exact call_find4 (done_tok st _ ⟨_,rfl⟩)
theorem join_s {i:Nat}{xs:List PV}{ts:List Str}(hx:getL σ i=some xs)(ht:strsOf xs=some ts)(hok:JoinOk x ts=true):StrMS B "str.join" x [.lst i] σ (.str (Txt.join x ts)) σ:=fun A ρ s t vs st hr=>by
 obtain⟨w,ws,rfl,⟨l,rfl,hl⟩,h2⟩:=hr
 obtain rfl:ws=[]:=h2
 obtain⟨us,hp,hru⟩:=st.list hx hl
 obtain⟨l',hl',rfl⟩:=strsOf_values ht hru
 exact SC.join hp.isList hl' hok fun t' k=>done_tok st _ ⟨_,rfl⟩
theorem up_s (h:(Txt.upper x).length≤100000):StrMS B "str.upper" x [] σ (.str (Txt.upper x)) σ:= .z fun A ρ s t st=>SC.upper (decide_eq_false (Nat.not_lt.mpr (Nat.le_trans h (by decide)))) (done_tok st _ ⟨_,rfl⟩)
theorem low_s (h:(Txt.lower x).length≤100000):StrMS B "str.lower" x [] σ (.str (Txt.lower x)) σ:= .z fun A ρ s t st=>SC.lower (decide_eq_false (Nat.not_lt.mpr (Nat.le_trans h (by decide)))) (done_tok st _ ⟨_,rfl⟩)
variable {β:Type}{r:β}
noncomputable def SMok (B:Bs)(x:Str)(args:List PV)(σ:Sto)(K:PV→Sto→Option β)(r:β)(m:Str):Prop:=∃ id,GetS m id∧∃ v σ',K v σ'=some r∧StrMS B id x args σ v σ'
theorem sM_some (ok:BsOk B){m:Str}{args:List PV}{K:PV→Sto→Option β}(h:sM m x args σ K=some r):SMok B x args σ K r m:=by
 cases args with
 | nil=>exact ifm_ind (P:=SMok B x [] σ K r) h (fun h=>⟨_,get_upper,_,_,(grd_some h).2,up_s (grd_some h).1⟩) fun h=>
   ifm_ind (P:=SMok B x [] σ K r) h (fun h=>⟨_,get_lower,_,_,(grd_some h).2,low_s (grd_some h).1⟩) nos
 | cons a as=>cases as with
  | nil=>cases a with
   | str y=>
    exact ifm_ind (P:=SMok B x [.str y] σ K r) h (fun h=>⟨_,get_startswith,_,_,h,.s1 fun A ρ s t u st=>SC.startswith (done_ st rfl)⟩) fun h=>
     ifm_ind (P:=SMok B x [.str y] σ K r) h (fun h=>⟨_,get_endswith,_,_,h,.s1 fun A ρ s t u st=>SC.endswith (done_ st rfl)⟩) fun h=>
     ifm_ind (P:=SMok B x [.str y] σ K r) h (fun h=>⟨_,get_count,_,_,h,.s1 fun A ρ s t u st=>SC.count (done_tok st _ ⟨_,rfl⟩)⟩) fun h=>
     ifm_ind (P:=SMok B x [.str y] σ K r) h (fun h=>⟨_,get_split,_,_,(grd_some (ifn_some h).2).2,split_s ok (ifn_some h).1 (grd_some (ifn_some h).2).1⟩) nos
   | lst i=>
    refine ifm_ind (P:=SMok B x [.lst i] σ K r) h (fun h=>?_) nos
    obtain⟨xs,hx,h⟩:=opt_some h
    obtain⟨ts,ht,h⟩:=opt_some h
    exact⟨_,get_join,_,_,(grd_some h).2,join_s hx ht (grd_some h).1⟩
   | _=>exact nos h
  | cons b bs=>cases bs with
   | nil=>exact nos h
   | cons c cs=>cases cs with
    | nil=>exact onStr_ind (P:=fun a=>SMok B x [a,b,c] σ K r m) h fun y h=>onInt_ind (P:=fun b=>SMok B x [.str y,b,c] σ K r m) h fun lo h=>onInt_ind (P:=fun c=>SMok B x [.str y,.int lo,c] σ K r m) h fun hi h=>
      ifm_ind (P:=SMok B x [.str y,.int lo,.int hi] σ K r) h (fun h=>⟨_,get_find,_,_,(grd_some h).2,find_s⟩) nos
    | cons _ _=>exact nos h
end
noncomputable def Callable (B:Bs)(f:Value):Prop:=∀ (A:Around) (E:Value→Shared→Prop) (s:Shared) (pos:Pos) (first:List Value) (es:List Expr) (env:Env) (Q:Value→Shared→Prop),
 wpAny (model B.prog B.w) A (spliced (es.map fun e=>(false,eval e env))) (fun vs s₁=>(∃ ρ σ,St B ρ σ s₁)∧wpAny (model B.prog B.w) A (call f (first++vs)) Q E s₁) E s→
 wpAny (model B.prog B.w) A (callWith pos f first (es.map fun e=>(false,eval e env)) []) Q E s
structure FnOk (B:Bs) (k:Nat) (f:Value) (F:Fn):Prop where
 able:Callable B f
 run:∀ (A:Around) (ρ:List Addr) (σ:Sto) (s:Shared) (args:List PV) (vals:List Value) (v:PV) (σ':Sto),Room k A→St B ρ σ s→VRs B ρ s.heap args vals→F args σ=some (v,σ')→
  Ok B A ρ σ s (call f vals) σ' (Is B v)
noncomputable def builtinNames:List (Str×Value):=[("len",.builtin "len"),("chr",.builtin "chr"),("ord",.builtin "ord"),("str",.type "str"),("range",.type "range"),("enumerate",.type "enumerate"),("zip",.type "zip"),
 ("isinstance",.builtin "isinstance"),("list",.type "list")]
structure GlOk (B:Bs) (k:Nat) (G:Gl) (mg mb:Str→Option Value):Prop where
 g:B.h₀.Ns mainNs mg
 b:B.h₀.Ns builtinsNs mb
 og:mainNs∉B.Tb
 ob:builtinsNs∉B.Tb
 fn:∀ g F,G.fn g=some F→∃ f,mg g=some f∧FnOk B k f F
 con:∀ g v,G.con g=some v→∃ val,mg g=some val∧∀ ρ h,VR B ρ h v val
 set:∀ g S,G.set g=some S→∃ a n,mg g=some (.ref a)∧a∉B.Tb∧B.h₀.SetOf (intKind B.prog B.w) a S n
 tab:∀ g T,G.tab g=some T→∃ d f,mg g=some (.ref d)∧d∉B.Tb∧(d==sysModules)=false∧B.h₀.MapOf (intKind B.prog B.w) d f∧∀ i,match T i with
  | some x=>∃ t,f i=some (.str x t)
  | none=>f i=none
 bg:∀ x v,builtinNames.lookup x=some v→mg x=none∧mb x=some v
 meth:∀ m F,G.meth m=some F→∃ f,FnOk B k f F∧∀ (A:Around) (E:Value→Shared→Prop) (ρ:List Addr) (σ:Sto) (s:Shared) (i:Nat) (a:Addr) (c:Cell) (di:Nat) (xs:List PV) (pl:Sem Bool) (Q:Value×List Value→Shared→Prop),
  St B ρ σ s→σ[i]?=some c→c.d= .acc di xs→ρ[i]?=some a→accOk σ (.lst i)=true→Q (f,[.ref a]) s→wpAny (model B.prog B.w) A (getMethod (.ref a) m pl) Q E s
 lenA:∀ (A:Around) (ρ:List Addr) (σ:Sto) (s:Shared) (args:List PV) (vals:List Value) (v:PV) (σ':Sto),Room k A→St B ρ σ s→VRs B ρ s.heap args vals→G.lenA args σ=some (v,σ')→
  Ok B A ρ σ s (call (.builtin "len") vals) σ' (Is B v)
 strA:∀ (A:Around) (ρ:List Addr) (σ:Sto) (s:Shared) (args:List PV) (vals:List Value) (v:PV) (σ':Sto),Room k A→St B ρ σ s→VRs B ρ s.heap args vals→G.strA args σ=some (v,σ')→
  Ok B A ρ σ s (call (.type "str") vals) σ' (Is B v)
section
variable {B:Bs}{k:Nat}{G:Gl}{n:Nat}
noncomputable abbrev testTree (ifs:List Expr)(env:Env):Sem Bool:=
 forIn ifs true fun c r=>if r=true then do let ok ← isTrue c env (eval c env); pure (ForInStep.yield ok) else pure (ForInStep.yield r)
noncomputable def T1 {α:Type}(B:Bs)(k:Nat)(cx:Cx)(σ:Sto)(t:Env→Sem α)(σ':Sto)(P:List Addr→Heap→α→Prop):Prop:=
 ∀ A X env ρ s,Room k A→St B ρ σ s→Fr B X cx env ρ s.heap→Ok B A ρ σ s (t env) σ' P
noncomputable abbrev E1 (B:Bs)(k:Nat)(cx:Cx)(σ:Sto)(e:Expr)(v:PV)(σ':Sto):Prop:=T1 B k cx σ (eval e) σ' (Is B v)
noncomputable abbrev Part (B:Bs)(p:Option Int):List Addr→Heap→Value→Prop:=fun ρ' h' val=>∃ pv,partV pv=some p∧VR B ρ' h' pv val
structure Es (B:Bs) (k:Nat) (cx:Cx) (σ:Sto) (es:List Expr) (vs:List PV) (σ':Sto):Prop where
 star:∀ e∈es,∀ x p,e≠ .Starred x p
 len:vs.length=es.length
 run:T1 B k cx σ (fun env=>spliced (es.map fun e=>(false,eval e env))) σ' (fun ρ' h' vals=>VRs B ρ' h' vs vals)
noncomputable abbrev Tr (B:Bs)(k:Nat)(cx:Cx)(σ:Sto)(e:Expr)(b:Bool)(σ':Sto):Prop:=T1 B k cx σ (fun env=>isTrue e env (eval e env)) σ' (fun _ _ b'=>b'=b)
noncomputable def EvS (β:Type)(B:Bs)(k:Nat)(G:Gl)(n:Nat):Prop:=∀ {cx σ e} {K:PV→Sto→Option β} {r:β} {C:Prop},evK G n cx σ e K=some r→(∀ v σ',K v σ'=some r→E1 B k cx σ e v σ'→C)→C
noncomputable def EvsS (β:Type)(B:Bs)(k:Nat)(G:Gl)(n:Nat):Prop:=∀ {cx σ e} {K:List PV→Sto→Option β} {r:β} {C:Prop},evsK G n cx σ e K=some r→(∀ v σ',K v σ'=some r→Es B k cx σ e v σ'→C)→C
noncomputable def EvOS (β:Type)(B:Bs)(k:Nat)(G:Gl)(n:Nat):Prop:=∀ {cx σ e} {K:Option Int→Sto→Option β} {r:β} {C:Prop},evOK G n cx σ e K=some r→(∀ p σ',K p σ'=some r→T1 B k cx σ (evalPart e) σ' (Part B p)→C)→C
noncomputable def IsTS (β:Type)(B:Bs)(k:Nat)(G:Gl)(n:Nat):Prop:=∀ {cx σ e} {K:Bool→Sto→Option β} {r:β} {C:Prop},isTK G n cx σ e K=some r→(∀ b σ',K b σ'=some r→Tr B k cx σ e b σ'→C)→C
noncomputable def IsTsS (β:Type)(B:Bs)(k:Nat)(G:Gl)(n:Nat):Prop:=∀ {cx σ op es} {K:Bool→Sto→Option β} {r:β} {C:Prop},isTsK G n cx σ op es K=some r→(∀ b σ',K b σ'=some r→T1 B k cx σ (allTrue op es) σ' (fun _ _ b'=>b'=b)→C)→C
noncomputable def TestsS (β:Type)(B:Bs)(k:Nat)(G:Gl)(n:Nat):Prop:=∀ {cx σ es} {K:Bool→Sto→Option β} {r:β} {C:Prop},isTsK G n cx σ .And es K=some r→(∀ b σ',K b σ'=some r→T1 B k cx σ (testTree es) σ' (fun _ _ b'=>b'=b)→C)→C
section
variable {α γ:Type}{cx:Cx}{σ σ₁ σ₂ σ':Sto}
theorem T1.use {t:Env→Sem α}{P:List Addr→Heap→α→Prop}(h:T1 B k cx σ t σ₁ P){A:Around}{X:List Addr}{env:Env}{ρ:List Addr}{s:Shared}(R:Room k A)(x:St B ρ σ s)(f:Fr B X cx env ρ s.heap){Q:α→Shared→Prop}{E:Value→Shared→Prop}
  (q:∀ a ρ₁ s₁,St B ρ₁ σ₁ s₁→Evo B [] ρ σ s.heap ρ₁ σ₁ s₁.heap→Fr B X cx env ρ₁ s₁.heap→P ρ₁ s₁.heap a→Q a s₁):wpAny (model B.prog B.w) A (t env) Q E s:=
 (h A X env ρ s R x f).use fun a ρ₁ s₁ x₁ e₁ p=>q a ρ₁ s₁ x₁ e₁ (f.evo e₁) p
theorem T1.end' {t:Env→Sem α}{P:List Addr→Heap→α→Prop}(h:T1 B k cx σ t σ' P){A:Around}{X:List Addr}{env:Env}{ρ:List Addr}{s:Shared}(R:Room k A)(x:St B ρ σ s)(f:Fr B X cx env ρ s.heap)
  {ρ₀:List Addr} {σ₀:Sto} {h₀:Heap} (e:Evo B [] ρ₀ σ₀ h₀ ρ σ s.heap):wpAny (model B.prog B.w) A (t env) (fun a s'=>∃ ρ',St B ρ' σ' s'∧Evo B [] ρ₀ σ₀ h₀ ρ' σ' s'.heap∧P ρ' s'.heap a) (fun _ _=>False) s:=
 wpAny_mono (h A X env ρ s R x f) (fun _ _ h=>h.imp fun _ h=>h.imp_right fun h=>h.imp_left e.trans) fun _ _ f=>f
end
theorem name_ok {mg mb}(gok:GlOk B k G mg mb){cx:Cx}{x:Str}{v:PV}{σ:Sto}{pos:Pos}
  (hd:¬ (x="__debug__"∨x="__classdict__")) (h:cx.le.lookup x=some v∨(cx.names.lookup x=some .globalImplicit∧G.con x=some v)):E1 B k cx σ (.Name x pos) v σ:=fun A X env ρ s _ st f=>by
 have hd1:(x==("__debug__":Str))=false:=beq_eq_false_iff_ne.mpr fun e=>hd (.inl e)
 rcases h with h | ⟨hn,hc⟩
 ·refine wpAny_Name ?_ hd1
  rcases f.dom x v h with hl | hl | hl
  ·obtain⟨m,hns,hm⟩:=f.loc
   obtain⟨val,e1,e2⟩:=(hm x hl).2 v h
   exact wpAny_loadName_local f.kind (hm x hl).1 hns e1 (done_ st e2)
  ·obtain⟨hk,c,w,hc,_,hw,hv⟩:=f.cel x hl
   obtain⟨val,rfl,e2⟩:=hv v h
   exact wpAny_loadName_cell f.kind hk hc hw (done_ st e2)
  ·obtain⟨hk,c,val,hc,hw,e2⟩:=f.fre x hl v h
   rcases hk with hk | hk
   ·exact wpAny_loadName_cell f.kind hk hc hw (done_ st e2)
   ·exact wpAny_loadName_free f.kind hk hc hw (done_ st e2) (beq_eq_false_iff_ne.mpr fun e=>hd (.inr e))
 ·obtain⟨val,e1,e2⟩:=gok.con x v hc
  refine Calls.Name_function_global f.kind (f.glb x hn) (Calls.loadGlobal_global (mg:=mg) ?_ e1 (done_ st (e2 _ _))) hd1
  rw[f.glob]
  exact gok.g.at' fun o ho=>st.base _ o ho gok.og
theorem global_ok {mg mb}(gok:GlOk B k G mg mb){cx:Cx}{x:Str}{val:Value}{σ:Sto}{A:Around}{X:List Addr}{env:Env}{ρ:List Addr}{s:Shared}{pos:Pos}{E:Value→Shared→Prop}{Q:Value→Shared→Prop}
  (st:St B ρ σ s) (f:Fr B X cx env ρ s.heap) (hn:cx.names.lookup x=some .globalImplicit) (hd:(x==("__debug__":Str))=false) (hv:mg x=some val∨(mg x=none∧mb x=some val)) (h:Q val s):
  wpAny (model B.prog B.w) A (eval (.Name x pos) env) Q E s:=by
 have hg:s.heap.Ns env.globals mg:=by rw[f.glob]; exact gok.g.at' fun o ho=>st.base _ o ho gok.og
 rcases hv with hv | ⟨hm,hv⟩
 ·exact Calls.Name_function_global f.kind (f.glb x hn) (Calls.loadGlobal_global hg hv h) hd
 ·have hb:s.heap.Ns env.builtins mb:=by rw[f.bt]; exact gok.b.at' fun o ho=>st.base _ o ho gok.ob
  exact Calls.Name_function_global f.kind (f.glb x hn) (Calls.loadGlobal_builtin hg hm hb hv h) hd
end
section
variable {β:Type}{B:Bs}{k:Nat}{G:Gl}{n:Nat}{r:β}
theorem onB_el {C:Prop}{b:Bool}{x y:Option β}(h:onB b x y=some r)(h1:b=true→x=some r→C)(h2:b=false→y=some r→C):C:=by
 cases b with
 | true=>exact h1 rfl h
 | false=>exact h2 rfl h
theorem onBn_el {C:Prop}{b:Bool}{y:Option β}(h:onB b none y=some r)(h2:b=false→y=some r→C):C:=onB_el h (fun _ h=>nos h) h2
theorem onBt_el {C:Prop}{b:Bool}{y:Option β}(h:onB b y none=some r)(h2:b=true→y=some r→C):C:=onB_el h h2 fun _ h=>nos h
theorem evK_star {cx:Cx}{σ:Sto}{e:Expr}{K:PV→Sto→Option β}(h:evK G n cx σ e K=some r):∀ x p,e≠ .Starred x p:=fun x p e=>by
 subst e
 cases n with
 | zero=>exact nos h
 | succ n=>exact nos h
theorem es_nil {cx:Cx}{σ:Sto}:Es B k cx σ [] [] σ:=⟨fun _ h=>(nomatch h),rfl,fun A X env ρ s R x f=>Calls.spliced_nil ⟨ρ,x,.refl ..,rfl⟩⟩
theorem es_cons {cx:Cx}{σ σ₁ σ₂:Sto}{e:Expr}{es:List Expr}{v:PV}{vs:List PV}(hs:∀ x p,e≠ .Starred x p)(H1:E1 B k cx σ e v σ₁)(H2:Es B k cx σ₁ es vs σ₂):Es B k cx σ (e::es) (v::vs) σ₂:=
 ⟨List.forall_mem_cons.mpr ⟨hs,H2.star⟩,congrArg (· +1) H2.len,fun A X env ρ s R x f=>Calls.spliced_cons (H1.use R x f fun va ρ₁ s₁ x₁ e₁ f₁ r₁=>H2.run.use R x₁ f₁ fun vals ρ₂ s₂ x₂ e₂ _ r₂=>⟨ρ₂,x₂,e₁.trans e₂,va,vals,rfl,VR.evo e₂ _ r₁,r₂⟩)⟩
theorem sound_evs (ih:EvS β B k G n)(ihs:EvsS β B k G n):EvsS β B k G (n+1):=fun {cx σ es K r C} h c=>by
 cases es with
 | nil=>exact c _ _ h es_nil
 | cons e es=>exact ih h fun v σ₁ h1 H1=>ihs h1 fun vs σ₂ h2 H2=>c _ _ h2 (es_cons (evK_star h) H1 H2)
theorem eo_some {cx:Cx}{σ σ₁:Sto}{e:Expr}{v:PV}{p:Option Int}(H:E1 B k cx σ e v σ₁)(hp:partV v=some p):T1 B k cx σ (evalPart (some e)) σ₁ (Part B p):=fun A X env ρ s R x f=>by
 rw[evalPart_some]
 exact (H A X env ρ s R x f).mono fun _ _ _ r=>⟨v,hp,r⟩
theorem sound_evO (ih:EvS β B k G n):EvOS β B k G (n+1):=fun {cx σ e K r C} h c=>by
 cases e with
 | none=>exact c _ _ h fun A X env ρ s R x f=>by rw[evalPart_none]; exact wpAny_pure ⟨ρ,x,.refl ..,.none,rfl,rfl⟩
 | some e=>
  refine ih h fun v σ₁ h1 H1=>?_
  cases v with
  | none=>exact c _ _ h1 (eo_some H1 rfl)
  | int i=>exact c _ _ h1 (eo_some H1 rfl)
  | _=>exact nos h1
section
variable {cx:Cx}{σ σ₁ σ₂ σ₃:Sto}{e:Expr}{es:List Expr}{b c:Bool}
theorem all_and (H1:Tr B k cx σ e true σ₁)(H2:T1 B k cx σ₁ (allTrue .And es) σ₂ (fun _ _ b'=>b'=c)):T1 B k cx σ (allTrue .And (e::es)) σ₂ (fun _ _ b'=>b'=c):=fun A X env ρ s R x f=>
 wpAny_allTrue_And_cons (H1.use R x f fun t ρ₁ s₁ x₁ e₁ f₁ ht=>by subst ht; exact H2.end' R x₁ f₁ e₁)
theorem all_andn (H1:Tr B k cx σ e false σ₁):T1 B k cx σ (allTrue .And (e::es)) σ₁ (fun _ _ b'=>b'=false):=fun A X env ρ s R x f=>
 wpAny_allTrue_And_cons (H1.use R x f fun t ρ₁ s₁ x₁ e₁ f₁ ht=>by subst ht; exact⟨ρ₁,x₁,e₁,rfl⟩)
theorem all_or (H1:Tr B k cx σ e false σ₁)(H2:T1 B k cx σ₁ (allTrue .Or es) σ₂ (fun _ _ b'=>b'=c)):T1 B k cx σ (allTrue .Or (e::es)) σ₂ (fun _ _ b'=>b'=c):=fun A X env ρ s R x f=>
 wpAny_allTrue_Or_cons (H1.use R x f fun t ρ₁ s₁ x₁ e₁ f₁ ht=>by subst ht; exact H2.end' R x₁ f₁ e₁)
theorem all_ory (H1:Tr B k cx σ e true σ₁):T1 B k cx σ (allTrue .Or (e::es)) σ₁ (fun _ _ b'=>b'=true):=fun A X env ρ s R x f=>
 wpAny_allTrue_Or_cons (H1.use R x f fun t ρ₁ s₁ x₁ e₁ f₁ ht=>by subst ht; exact⟨ρ₁,x₁,e₁,rfl⟩)
end
theorem sound_isTs (ih:IsTS β B k G n)(ihs:IsTsS β B k G n):IsTsS β B k G (n+1):=fun {cx σ op es K r C} h c=>by
 cases es with
 | nil=>cases op with
  | And=>exact c _ _ h fun A X env ρ s R x f=>wpAny_allTrue_And_nil ⟨ρ,x,.refl ..,rfl⟩
  | Or=>exact c _ _ h fun A X env ρ s R x f=>wpAny_allTrue_Or_nil ⟨ρ,x,.refl ..,rfl⟩
 | cons e es=>
  refine ih h fun b σ₁ h1 H1=>?_
  cases op with
  | And=>exact onB_el h1 (fun e h=>ihs h fun _ _ h2 H2=>c _ _ h2 (all_and (e▸H1) H2)) fun e h=>c _ _ h (all_andn (e▸H1))
  | Or=>exact onB_el h1 (fun e h=>c _ _ h (all_ory (e▸H1))) fun e h=>ihs h fun _ _ h2 H2=>c _ _ h2 (all_or (e▸H1) H2)
theorem tests_false {env:Env}:∀ es:List Expr,(forIn es false fun c r=>if r=true then do let ok ← isTrue c env (eval c env); pure (ForInStep.yield ok) else pure (ForInStep.yield r):Sem Bool)=pure false
 | []=>rfl
 | e::es=>by
  rw[List.forIn_cons,if_neg Bool.false_ne_true,pure_bind]
  exact tests_false es
theorem tests_cons {cx:Cx}{σ σ₁ σ₂:Sto}{e:Expr}{es:List Expr}{b c:Bool}(H1:Tr B k cx σ e b σ₁)
  (H2:T1 B k cx σ₁ (fun env=>forIn es b fun c r=>if r=true then do let ok ← isTrue c env (eval c env); pure (ForInStep.yield ok) else pure (ForInStep.yield r)) σ₂ (fun _ _ b'=>b'=c)):T1 B k cx σ (testTree (e::es)) σ₂ (fun _ _ b'=>b'=c):=fun A X env ρ s R x f=>by
 show wpAny _ A (forIn (e::es) true _) _ _ s
 rw[List.forIn_cons,if_pos rfl]
 refine wpAny_bind (wpAny_bind (H1.use R x f fun t ρ₁ s₁ x₁ e₁ f₁ ht=>wpAny_pure ?_))
 subst ht
 exact H2.end' R x₁ f₁ e₁
theorem sound_tests (ih:IsTS β B k G n)(ihs:TestsS β B k G n):TestsS β B k G (n+1):=fun {cx σ es K r C} h c=>by
 cases es with
 | nil=>exact c _ _ h fun A X env ρ s R x f=>wpAny_tests_nil ⟨ρ,x,.refl ..,rfl⟩
 | cons e es=>exact ih h fun b σ₁ h1 H1=>onB_el h1 (fun e h=>ihs h fun _ _ h2 H2=>c _ _ h2 (tests_cons (e▸H1) H2)) fun e h=>c _ _ h (tests_cons (e▸H1) fun A X env ρ s R x f=>wpAny_of_eq (tests_false es) ⟨ρ,x,.refl ..,rfl⟩)
theorem tr_not {cx:Cx}{σ σ₁:Sto}{e:Expr}{p:Pos}{b:Bool}(H:Tr B k cx σ e b σ₁):Tr B k cx σ (.UnaryOp .Not e p) (!b) σ₁:=fun A X env ρ s R x f=>
 wpAny_isTrue_Not (H.use R x f fun t ρ₁ s₁ x₁ e₁ f₁ ht=>⟨ρ₁,x₁,e₁,congrArg _ ht⟩)
theorem tr_val {cx:Cx}{σ σ₁:Sto}{e:Expr}{v:PV}{b:Bool}(he:∀ env,isTrue e env (eval e env)=(do let v ← eval e env; standAt e.pos; holding [v] (truthy v)))(H:E1 B k cx σ e v σ₁)(ht:TruthS B v b):Tr B k cx σ e b σ₁:=fun A X env ρ s R x f=>
 wpAny_isTrue_value (H.use R x f fun va ρ₁ s₁ x₁ e₁ f₁ r₁=>Ok.after e₁ (ht A ρ₁ σ₁ s₁ va x₁ r₁)) (he env)
theorem tr_cmp {cx:Cx}{σ σ₁ σ₂:Sto}{l r:Expr}{op:CmpOp}{p:Pos}{a b:PV}{t:Bool}(hm:behindInMarks op r=false)(H1:E1 B k cx σ l a σ₁)(H2:E1 B k cx σ₁ r b σ₂)(ht:cmpV op σ₂ a b=some t):Tr B k cx σ (.Compare l [op] [r] p) t σ₂:=fun A X env ρ s R x f=>
 wpAny_isTrue_Compare1 (H1.use R x f fun va ρ₁ s₁ x₁ e₁ f₁ r₁=>H2.use R x₁ f₁ fun vc ρ₂ s₂ x₂ e₂ f₂ r₂=>(cmp_ok R x₂ ht (VR.evo e₂ _ r₁) r₂).use fun vt ρ₃ s₃ x₃ e₃ r₃=>by
  obtain rfl:vt= .bool t:=r₃
  exact wpAny_truthy_bool ⟨ρ₃,x₃,(e₁.trans e₂).trans e₃,rfl⟩) hm
theorem tr_cmp2 {cx:Cx}{σ σ₁ σ₂ σ₃:Sto}{l r r2:Expr}{op op2:CmpOp}{p:Pos}{a b c:PV}{t2:Bool}(hm:behindInMarks op2 r2=false)(H1:E1 B k cx σ l a σ₁)(H2:E1 B k cx σ₁ r b σ₂)(ht:cmpV op σ₂ a b=some true)
  (H3:E1 B k cx σ₂ r2 c σ₃) (ht2:cmpV op2 σ₃ b c=some t2):Tr B k cx σ (.Compare l [op,op2] [r,r2] p) t2 σ₃:=fun A X env ρ s R x f=>
 isTrue_chain (H1.use R x f fun va ρ₁ s₁ x₁ e₁ f₁ r₁=>test_link (H2.use R x₁ f₁ fun vc ρ₂ s₂ x₂ e₂ f₂ r₂=>(cmp_ok R x₂ ht (VR.evo e₂ _ r₁) r₂).use fun vt ρ₃ s₃ x₃ e₃ r₃=>by
  obtain rfl:vt= .bool true:=r₃
  exact wpAny_truthy_bool (test_last (H3.use R x₃ (f₂.evo e₃) fun vd ρ₄ s₄ x₄ e₄ f₄ r₄=>(cmp_ok R x₄ ht2 (VR.evo (e₃.trans e₄) _ r₂) r₄).use fun vt ρ₅ s₅ x₅ e₅ r₅=>by
   obtain rfl:vt= .bool t2:=r₅
   exact wpAny_truthy_bool ⟨ρ₅,x₅,((e₁.trans e₂).trans e₃).trans (e₄.trans e₅),rfl⟩)))) (by simpa [lastMarks] using hm)
theorem tr_cmpn {cx:Cx}{σ σ₁ σ₂:Sto}{l r r2:Expr}{op op2:CmpOp}{p:Pos}{a b:PV}(hm:behindInMarks op2 r2=false)(H1:E1 B k cx σ l a σ₁)(H2:E1 B k cx σ₁ r b σ₂)(ht:cmpV op σ₂ a b=some false):Tr B k cx σ (.Compare l [op,op2] [r,r2] p) false σ₂:=fun A X env ρ s R x f=>
 isTrue_chain (H1.use R x f fun va ρ₁ s₁ x₁ e₁ f₁ r₁=>test_link (H2.use R x₁ f₁ fun vc ρ₂ s₂ x₂ e₂ f₂ r₂=>(cmp_ok R x₂ ht (VR.evo e₂ _ r₁) r₂).use fun vt ρ₃ s₃ x₃ e₃ r₃=>by
  obtain rfl:vt= .bool false:=r₃
  exact wpAny_truthy_bool ⟨ρ₃,x₃,(e₁.trans e₂).trans e₃,rfl⟩)) (by simpa [lastMarks] using hm)
theorem sound_isT (ih:EvS β B k G n)(iht:IsTS β B k G n)(ihs:IsTsS β B k G n):IsTS β B k G (n+1):=fun {cx σ e K r C} h c=>
 onB_el h (fun hv h=>ih h fun v σ₁ h1 H1=>truthK_el h1 fun t h2 ht=>c _ _ h2 (tr_val (isVal_spec hv) H1 ht)) fun _ h=>
 onTest_ind (P:=fun e=>(∀ b σ',K b σ'=some r→Tr B k cx σ e b σ'→C)→C) h (fun op y p h c=>by
   cases op with
   | Not=>exact iht h fun _ _ h1 H1=>c _ _ h1 (tr_not H1)
   | _=>exact nos h)
  (fun op vs p h c=>ihs h fun _ _ h1 H1=>c _ _ h1 fun A X env ρ s R x f=>wpAny_isTrue_BoolOp (H1 A X env ρ s R x f))
  (fun l ops rs p h=>oneTwo_ind (P:=fun ops rs=>(∀ b σ',K b σ'=some r→Tr B k cx σ (.Compare l ops rs p) b σ'→C)→C) h
   (fun op d h c=>onBn_el h fun hm h=>ih h fun _ _ h H1=>ih h fun _ _ h H2=>opt_el h fun _ ht h=>c _ _ h (tr_cmp hm H1 H2 ht))
   fun op op2 d d2 h c=>onBn_el h fun hm h=>ih h fun _ _ h H1=>ih h fun _ _ h H2=>opt_el h fun _ ht h=>onB_el h
    (fun e h=>ih h fun _ _ h H3=>opt_el h fun _ ht2 h=>c _ _ h (tr_cmp2 hm H1 H2 (e▸ht) H3 ht2)) fun e h=>c _ _ h (tr_cmpn hm H1 H2 (e▸ht))) c
end
section
variable {B:Bs}{k:Nat}{G:Gl}{n:Nat}{cx:Cx}{σ σ₁ σ₂ σ₃ σ₄ σ':Sto}{pos:Pos}
theorem tup_new (ok:BsOk B){ρ:List Addr}{σ:Sto}{s:Shared}(x:St B ρ σ s){xs:List PV}{vs:List Value}(r:VRs B ρ s.heap xs vs):
  ∃ ρ',St B ρ' σ { s with heap:=s.heap.push { cls:= .type "tuple",data:= .seq vs.toArray } }∧Evo B [] ρ σ s.heap ρ' σ (s.heap.push { cls:= .type "tuple",data:= .seq vs.toArray })∧
   VR B ρ' (s.heap.push { cls:= .type "tuple",data:= .seq vs.toArray }) (.tup xs) (.ref s.heap.objs.size):=by
 obtain⟨x',e⟩:=x.grow ok (s':={ s with heap:=s.heap.push { cls:= .type "tuple",data:= .seq vs.toArray } }) rfl x.gens fun a o ho=>Heap.get?_push_of_some _ ho
 have hn:=get?_size s.heap
 refine⟨ρ,x',e,s.heap.objs.size,vs.toArray,rfl,fun hm=>?_,fun hm=>?_,⟨_,Heap.get?_push_size _ rfl,rfl,_,rfl⟩,VRs.evo e _ r⟩
 ·obtain⟨o,ho⟩:=x.alive hm; rw[hn] at ho; exact nos ho
 ·obtain⟨o,ho⟩:=ok.tb _ x.inv _ hm; rw[hn] at ho; exact nos ho
theorem sound_const {c:Const}{kk:Nat}{v:PV}(h:constV c=some v):E1 B k cx σ (.Constant c kk pos) v σ:=by
 intro A X env ρ s R x f
 cases c with
 | none=>cases h; exact wpAny_Constant_none ⟨ρ,x,.refl ..,rfl⟩
 | bool b=>cases h; exact wpAny_Constant_bool ⟨ρ,x,.refl ..,rfl⟩
 | int i=>cases h; exact wpAny_Constant_int (done_tok x _ ⟨_,rfl⟩)
 | str y=>cases h; exact wpAny_Constant_str (done_tok x _ ⟨_,rfl⟩)
 | _=>exact nos h
theorem sound_BinOp {l r:Expr}{op:Operator}{a b v:PV}(hl:E1 B k cx σ l a σ₁)(hr:E1 B k cx σ₁ r b σ₂)(h:BinS B op a b σ₂ v σ'):E1 B k cx σ (.BinOp l op r pos) v σ':=fun A X env ρ s R x f=>
 wpAny_BinOp (hl.use R x f fun va ρ₁ s₁ x₁ e₁ f₁ r₁=>hr.use R x₁ f₁ fun vb ρ₂ s₂ x₂ e₂ f₂ r₂=>Ok.after (e₁.trans e₂) (h A ρ₂ s₂ va vb x₂ (VR.evo e₂ _ r₁) r₂))
theorem sound_neg {y:Expr}{i:Int}(h:E1 B k cx σ y (.int i) σ₁):E1 B k cx σ (.UnaryOp .USub y pos) (.int (-i)) σ₁:=fun A X env ρ s R x f=>
 wpAny_UnaryOp (h.use R x f fun va ρ₁ s₁ x₁ e₁ f₁ r₁=>by
  obtain⟨t,rfl⟩:=r₁
  exact PyProof.Rows.neg_int ⟨ρ₁,x₁.tok _,e₁,_,rfl⟩)
theorem sound_not {y:Expr}{v:PV}{t:Bool}(h:E1 B k cx σ y v σ₁)(ht:TruthS B v t):E1 B k cx σ (.UnaryOp .Not y pos) (.bool (!t)) σ₁:=fun A X env ρ s R x f=>
 wpAny_UnaryOp (h.use R x f fun va ρ₁ s₁ x₁ e₁ f₁ r₁=>not_value ((ht A ρ₁ σ₁ s₁ va x₁ r₁).use fun b ρ₂ s₂ x₂ e₂ hb=>⟨ρ₂,x₂,e₁.trans e₂,by rw[hb]; rfl⟩))
theorem sound_ifT {t a b:Expr}{v:PV}(ht:Tr B k cx σ t true σ₁)(h:E1 B k cx σ₁ a v σ₂):E1 B k cx σ (.IfExp t a b pos) v σ₂:=fun A X env ρ s R x f=>
 wpAny_IfExp (ht.use R x f fun b' ρ₁ s₁ x₁ e₁ f₁ hb=>by subst hb; exact h.end' R x₁ f₁ e₁)
theorem sound_ifF {t a b:Expr}{v:PV}(ht:Tr B k cx σ t false σ₁)(h:E1 B k cx σ₁ b v σ₂):E1 B k cx σ (.IfExp t a b pos) v σ₂:=fun A X env ρ s R x f=>
 wpAny_IfExp (ht.use R x f fun b' ρ₁ s₁ x₁ e₁ f₁ hb=>by subst hb; exact h.end' R x₁ f₁ e₁)
theorem sound_andT {y z:Expr}{u v:PV}(hu:E1 B k cx σ y u σ₁)(ht:TruthS B u true)(h:E1 B k cx σ₁ z v σ₂):E1 B k cx σ (.BoolOp .And [y,z] pos) v σ₂:=fun A X env ρ s R x f=>
 wpAny_And2 (hu.use R x f fun va ρ₁ s₁ x₁ e₁ f₁ r₁=>(ht A ρ₁ σ₁ s₁ va x₁ r₁).use fun b ρ₂ s₂ x₂ e₂ hb=>by subst hb; exact h.end' R x₂ (f₁.evo e₂) (e₁.trans e₂))
theorem sound_andF {y z:Expr}{u:PV}(hu:E1 B k cx σ y u σ₁)(ht:TruthS B u false):E1 B k cx σ (.BoolOp .And [y,z] pos) u σ₁:=fun A X env ρ s R x f=>
 wpAny_And2 (hu.use R x f fun va ρ₁ s₁ x₁ e₁ f₁ r₁=>(ht A ρ₁ σ₁ s₁ va x₁ r₁).use fun b ρ₂ s₂ x₂ e₂ hb=>by subst hb; exact⟨ρ₂,x₂,e₁.trans e₂,VR.evo e₂ _ r₁⟩)
theorem sound_orF {y z:Expr}{u v:PV}(hu:E1 B k cx σ y u σ₁)(ht:TruthS B u false)(h:E1 B k cx σ₁ z v σ₂):E1 B k cx σ (.BoolOp .Or [y,z] pos) v σ₂:=fun A X env ρ s R x f=>
 wpAny_Or2 (hu.use R x f fun va ρ₁ s₁ x₁ e₁ f₁ r₁=>(ht A ρ₁ σ₁ s₁ va x₁ r₁).use fun b ρ₂ s₂ x₂ e₂ hb=>by subst hb; exact h.end' R x₂ (f₁.evo e₂) (e₁.trans e₂))
theorem sound_orT {y z:Expr}{u:PV}(hu:E1 B k cx σ y u σ₁)(ht:TruthS B u true):E1 B k cx σ (.BoolOp .Or [y,z] pos) u σ₁:=fun A X env ρ s R x f=>
 wpAny_Or2 (hu.use R x f fun va ρ₁ s₁ x₁ e₁ f₁ r₁=>(ht A ρ₁ σ₁ s₁ va x₁ r₁).use fun b ρ₂ s₂ x₂ e₂ hb=>by subst hb; exact⟨ρ₂,x₂,e₁.trans e₂,VR.evo e₂ _ r₁⟩)
theorem sound_cmp {l r:Expr}{op:CmpOp}{a b:PV}{t:Bool}(hm:behindInMarks op r=false)(H1:E1 B k cx σ l a σ₁)(H2:E1 B k cx σ₁ r b σ₂)(ht:cmpV op σ₂ a b=some t):E1 B k cx σ (.Compare l [op] [r] pos) (.bool t) σ₂:=fun A X env ρ s R x f=>
 wpAny_Compare1 (H1.use R x f fun va ρ₁ s₁ x₁ e₁ f₁ r₁=>H2.use R x₁ f₁ fun vb ρ₂ s₂ x₂ e₂ f₂ r₂=>Ok.after (e₁.trans e₂) (cmp_ok R x₂ ht (VR.evo e₂ _ r₁) r₂)) hm
theorem sound_Tuple (ok:BsOk B){es:List Expr}{kk:Nat}{vs:List PV}(hlen:es.length≤1000)(H:Es B k cx σ es vs σ'):E1 B k cx σ (.Tuple es kk pos) (.tup vs) σ':=fun A X env ρ s R x f=>by
 refine wpAny_Tuple ?_
 rw[back_all H.star]
 exact H.run.use R x f fun vals ρ₁ s₁ x₁ e₁ f₁ r₁=>⟨by rw[r₁.length,H.len]; exact Nat.le_trans hlen (by decide),(tup_new ok x₁ r₁).imp fun _ h=>h.imp_right fun h=>h.imp_left e₁.trans⟩
theorem sound_List (ok:BsOk B){es:List Expr}{vs:List PV}(hlen:es.length≤1000)(H:Es B k cx σ es vs σ'):E1 B k cx σ (.List es pos) (.lst σ'.length) (σ'++[⟨0,.lst vs⟩]):=fun A X env ρ s R x f=>by
 refine wpAny_List ?_
 rw[back_all H.star]
 exact H.run.use R x f fun vals ρ₁ s₁ x₁ e₁ f₁ r₁=>⟨by rw[r₁.length,H.len]; exact Nat.le_trans hlen (by decide),(lst_new ok x₁ s₁.toks r₁).imp fun _ h=>h.imp_right fun h=>h.imp_left e₁.trans⟩
theorem sound_Dict (ok:BsOk B):E1 B k cx σ (.Dict [] [] pos) (.lst σ.length) (σ++[⟨0,.dct []⟩]):=fun A X env ρ s R x f=>by
 refine wpAny_Dict_empty ?_
 obtain⟨x',e',hat⟩:=x.new ok (s':={ s with heap:=s.heap.push { cls:= .type "dict",data:= .dict #[] } }) (a:=s.heap.objs.size) (d:= .dct []) rfl rfl (get?_size _)
  (fun b o ho=>Heap.get?_push_of_some _ ho) fun ρ' σ' e hρ=>⟨_,Heap.MapOf.new _,Heap.DictLe.new _,fun x=>rfl⟩
 exact⟨_,x',e',_,rfl,hat⟩
theorem sound_slice (ok:BsOk B){val:Expr}{lo hi st:Option Expr}{p:Pos}{a v:PV}{l h' kk:Option Int}
  (ha:E1 B k cx σ val a σ₁) (hl:T1 B k cx σ₁ (evalPart lo) σ₂ (Part B l)) (hh:T1 B k cx σ₂ (evalPart hi) σ₃ (Part B h')) (hs:T1 B k cx σ₃ (evalPart st) σ₄ (Part B kk)) (h:SliS B a l h' kk σ₄ v σ'):
  E1 B k cx σ (.Subscript val (.Slice lo hi st p) pos) v σ':=fun A X env ρ s R x f=>
 Subscript_ (ha.use R x f fun va ρ₁ s₁ x₁ e₁ f₁ r₁=>wpAny_Slice (hl.use R x₁ f₁ fun vl ρ₂ s₂ x₂ e₂ f₂ r₂=>hh.use R x₂ f₂ fun vh ρ₃ s₃ x₃ e₃ f₃ r₃=>hs.use R x₃ f₃ fun vs ρ₄ s₄ x₄ e₄ f₄ r₄=>by
  obtain⟨x₅,e₅⟩:=x₄.grow ok (s':={ s₄ with heap:=s₄.heap.push { cls:= .type "slice",data:= .fields #[vl,vh,vs] } }) rfl x₄.gens fun a o ho=>Heap.get?_push_of_some _ ho
  obtain⟨pl,p1,q1⟩:=r₂
  obtain⟨ph,p2,q2⟩:=r₃
  obtain⟨ps,p3,q3⟩:=r₄
  have e45:=e₄.trans e₅
  have e35:=e₃.trans e45
  have e25:=e₂.trans e35
  exact Ok.after (e₁.trans e25) (h A ρ₄ _ val lo hi st p va vl vh vs pl ph ps _ x₅ (VR.evo e25 _ r₁) p1 p2 p3 (VR.evo e35 _ q1) (VR.evo e45 _ q2) (VR.evo e₅ _ q3) (.new ..))))
theorem sound_sub {val sl:Expr}{a i v:PV}(hs:∀ l u st p,sl≠ .Slice l u st p)(ha:E1 B k cx σ val a σ₁)(hi:E1 B k cx σ₁ sl i σ₂)(h:SubS B a i σ₂ v):E1 B k cx σ (.Subscript val sl pos) v σ₂:=fun A X env ρ s R x f=>
 Subscript_ (ha.use R x f fun va ρ₁ s₁ x₁ e₁ f₁ r₁=>hi.use R x₁ f₁ fun vi ρ₂ s₂ x₂ e₂ f₂ r₂=>Ok.after (e₁.trans e₂) (h A ρ₂ s₂ va vi val sl hs x₂ (VR.evo e₂ _ r₁) r₂))
theorem sound_callv {mg mb}(gok:GlOk B k G mg mb){g:Str}{args:List Expr}{p:Pos}{vs:List PV}{v:PV}{f:Value}
  (hd:(g==("__debug__":Str))=false) (hn:cx.names.lookup g=some .globalImplicit) (H:Es B k cx σ args vs σ₁) (hv:mg g=some f∨(mg g=none∧mb g=some f)) (able:Callable B f) (run:CallS B k f vs σ₁ v σ'):
  E1 B k cx σ (.Call (.Name g p) args [] pos) v σ':=fun A X env ρ s R x fr=>by
 refine wpAny_Call_NameR (global_ok gok x fr hn hd hv ?_)
 rw[back_all H.star]
 exact able A _ s pos [] args env _ (H.run.use R x fr fun vals ρ₁ s₁ x₁ e₁ f₁ r₁=>⟨⟨ρ₁,σ₁,x₁⟩,Ok.after e₁ (run A ρ₁ s₁ vals R x₁ r₁)⟩)
theorem sound_isinstance {mg mb}(gok:GlOk B k G mg mb){p tp:Pos}{a:Expr}{i:Nat}{xs:List PV}
  (hd:(("isinstance":Str)==("__debug__":Str))=false) (hk:cx.names.lookup ("isinstance":Str)=some .globalImplicit) (hkt:cx.names.lookup ("list":Str)=some .globalImplicit)
  (hst:∀ x p,a≠ .Starred x p) (ha:E1 B k cx σ a (.lst i) σ₁) (hl:getL σ₁ i=some xs):E1 B k cx σ (.Call (.Name "isinstance" p) [a,.Name "list" tp] [] pos) (.bool true) σ₁:=fun A X env ρ s R x f=>by
 refine wpAny_Call_NameR (global_ok gok x f hk hd (.inr (gok.bg _ (.builtin "isinstance") rfl)) ?_)
 rw[back_all (List.forall_mem_cons.mpr ⟨hst,List.forall_mem_cons.mpr ⟨fun _ _ e=>(by cases e),fun _ h=>absurd h List.not_mem_nil⟩⟩)]
 refine callWith_builtin_n (Calls.spliced_cons (ha.use R x f fun va ρ₁ s₁ x₁ e₁ f₁ r₁=>Calls.spliced_cons ?_))
 refine global_ok gok x₁ f₁ hkt (by decide) (.inr (gok.bg _ (.type "list") rfl)) (Calls.spliced_nil ?_)
 obtain⟨l,rfl,hla⟩:=r₁
 obtain⟨vs,hp,hr⟩:=x₁.list hl hla
 exact call_isinstance_yes hp.isList.typeIs (by with_unfolding_all rfl) AutoSeq1.sub_list_list ⟨ρ₁,x₁,e₁,rfl⟩
theorem setName_ind {P:CmpOp→Expr→Prop}{op:CmpOp}{r:Expr}{S:Int→Bool}(h:setName G cx op r=some S)(h1:∀ g p,cx.names.lookup g=some .globalImplicit→g≠"__debug__"→behindInMarks .In r=false→G.set g=some S→P .In (.Name g p)):P op r:=by
 cases op with
 | In=>exact onName_ind (P:=fun r=>P .In r) h fun g p h=>grd_el h fun hc hG=>h1 g p hc.1 hc.2.1 hc.2.2 hG
 | _=>exact nos h
theorem inSet_at {mg mb}(gok:GlOk B k G mg mb){l:Expr}{g:Str}{p:Pos}{i:Int}{S:Int→Bool}(hk:cx.names.lookup g=some .globalImplicit)(hd:g≠"__debug__")(hm:behindInMarks .In (.Name g p)=false)(hG:G.set g=some S)
  (ha:E1 B k cx σ l (.int i) σ₁):E1 B k cx σ (.Compare l [.In] [.Name g p] pos) (.bool (S i)) σ₁:=fun A X env ρ s R x f=>by
 obtain⟨a,m,hmg,ht,o,es,ep,tt,ho,hr⟩:=gok.set g S hG
 refine wpAny_Compare1 (ha.use R x f fun va ρ₁ s₁ x₁ e₁ f₁ r₁=>global_ok gok x₁ f₁ hk (beq_eq_false_iff_ne.mpr hd) (.inl hmg) ?_) hm
 obtain⟨t,rfl⟩:=r₁
 exact wpAny_inSet_of (intKind_is _ _ i t) rfl ⟨o,es,ep,tt,x₁.base a o ho ht,hr⟩ ⟨ρ₁,x₁.tok _,e₁,rfl⟩
theorem sound_inSet {mg mb}(gok:GlOk B k G mg mb){l r:Expr}{op:CmpOp}{i:Int}{S:Int→Bool}(hm:behindInMarks op r=false)(hS:setName G cx op r=some S)(ha:E1 B k cx σ l (.int i) σ₁):E1 B k cx σ (.Compare l [op] [r] pos) (.bool (S i)) σ₁:=
 setName_ind (P:=fun op r=>behindInMarks op r=false→E1 B k cx σ (.Compare l [op] [r] pos) (.bool (S i)) σ₁) hS (fun g p hk hd _ hG hm=>inSet_at gok hk hd hm hG ha) hm
theorem tabGet_at {mg mb}(gok:GlOk B k G mg mb){g:Str}{p:Pos}{args:List Expr}{apos:Pos}{i:Int}{T:Int→Option Str}
  (hline:(apos.endLine==pos.line)=true) (hlen:args.length < 10) (hk:cx.names.lookup g=some .globalImplicit) (hd:g≠"__debug__") (hG:G.tab g=some T) (H:Es B k cx σ args [.int i] σ₁):
  E1 B k cx σ (.Call (.Attribute (.Name g p) "get" apos) args [] pos) (ofText (T i)) σ₁:=fun A X env ρ s R x f=>by
 obtain⟨d,fm,hmg,ht,hsys,⟨o,es,ep,ho,hr⟩,hf⟩:=gok.tab g T hG
 have hm0:s.heap.MapOf (intKind B.prog B.w) d fm:=⟨o,es,ep,x.base d o ho ht,hr⟩
 refine Call_method_gen rfl hlen hline H.star (global_ok gok x f hk (beq_eq_false_iff_ne.mpr hd) (.inl hmg) fun pl=>?_)
 with_reducible refine getMethod_builtin (T:="dict") hm0.typeIs F.plainAttrs_dict F.slot_dict_get F.type_dict_get hm0.noDict ?_
 refine callWith_builtin_n (H.run.use R x f fun vals ρ₁ s₁ x₁ e₁ f₁ r₁=>?_)
 obtain⟨_,us,rfl,⟨t,rfl⟩,h2⟩:=r₁
 obtain rfl:us=[]:=h2
 have hm1:s₁.heap.MapOf (intKind B.prog B.w) d fm:=⟨o,es,ep,x₁.base d o ho ht,hr⟩
 refine call_meetsIn F.slot_dict_get hm1.typeIs F.entry_dict_get (F.args_dict_get_2 _ _) (meets_dict_get (intKind B.prog B.w) d (intKind_is _ _ i t) hsys) ⟨fm,hm1,ρ₁,x₁.tok _,e₁,?_⟩
 have hi:=hf i
 cases hTi:T i with
 | none=>rw[hTi] at hi; rw[show fm i=none from hi]; rfl
 | some y=>rw[hTi] at hi; obtain⟨u,hu⟩:=hi; rw[hu]; exact⟨u,rfl⟩
theorem sound_tabGet {mg mb}(gok:GlOk B k G mg mb){o:Expr}{m:Str}{args:List Expr}{apos:Pos}{i:Int}{T:Int→Option Str}
  (hline:(apos.endLine==pos.line)=true) (hlen:args.length < 10) (hT:tabName G cx o m=some T) (H:Es B k cx σ args [.int i] σ₁):
  E1 B k cx σ (.Call (.Attribute o m apos) args [] pos) (ofText (T i)) σ₁:=
 onName_ind (P:=fun o=>E1 B k cx σ (.Call (.Attribute o m apos) args [] pos) (ofText (T i)) σ₁) hT fun g p h=>grd_el h fun hc hG=>by
  rw[hc.2.2]
  exact tabGet_at gok hline hlen hc.1 hc.2.1 hG H
end
set_option maxRecDepth 10000
section
variable {B:Bs}{k:Nat}{G:Gl}{n:Nat}{cx:Cx}{σ σ₁ σ₂ σ':Sto}{pos:Pos}{β:Type}{r:β}
theorem callable_builtin (id:String):Callable B (.builtin id):=fun A E s pos first es env Q h=>
 callWith_builtin_n (wpAny_mono h (fun _ _ h'=>h'.2) fun _ _ e=>e)
theorem callable_type (T:String):Callable B (.type T):=fun A E s pos first es env Q h=>by
 refine PyProof.Rows.callWith_type (by simp) ?_
 have h':=wpAny_mono h (Q':=fun vs s₁=>wpAny (model B.prog B.w) A (call (.type T) (first++vs)) Q E s₁) (fun _ _ h'=>h'.2) fun _ _ e=>e
 cases es with
 | nil=>exact fun Γ p hΓ=>PyProof.Rows.evalArgs_none (show wpAny (model B.prog B.w) A (call (.type T) (first++[])) Q E s from h' Γ p hΓ) Γ p hΓ
 | cons e es=>exact Calls.evalArgs_plain h'
theorem callable_fn {a:Addr}{o:Obj}{fd:FuncData}(ho:B.h₀.get? a=some o)(ht:a∉B.Tb)(hd:o.data= .func fd):Callable B (.ref a):=fun A E s pos first es env Q h=>
 callWith_function_n (o:=o) (fd:=fd) (wpAny_mono h (fun _ _ h'=>⟨⟨h'.1.elim fun _ h=>h.elim fun _ x=>x.base a o ho ht,hd⟩,h'.2⟩) fun _ _ e=>e)
noncomputable def BOk (B:Bs)(k:Nat)(args:List PV)(σ:Sto)(K:PV→Sto→Option β)(r:β)(g:Str):Prop:=∃ f v σ',K v σ'=some r∧builtinNames.lookup g=some f∧Callable B f∧CallS B k f args σ v σ'
theorem bK_some {mg mb}(gok:GlOk B k G mg mb){g:Str}{args:List PV}{K:PV→Sto→Option β}(h:callBK G g args σ K=some r):BOk B k args σ K r g:=
 ifm_ind (P:=BOk B k args σ K r) h (fun h=>one_ind (P:=fun args=>BOk B k args σ K r "len") h fun a h=>(onAcc_some h).elim
   (fun h=>liftK_el h fun v σ' e h=>⟨_,v,σ',h,rfl,callable_builtin _,fun A ρ s vals R x r=>gok.lenA A ρ σ s _ _ v σ' R x r e⟩)
   fun h=>(lenVK_some h).elim fun v h=>⟨_,v,_,h.1,rfl,callable_builtin _,h.2⟩) fun h=>
 ifm_ind (P:=BOk B k args σ K r) h (fun h=>one_ind (P:=fun args=>BOk B k args σ K r "chr") h fun a h=>onInt_ind (P:=fun a=>BOk B k [a] σ K r "chr") h fun i h=>
   grd_el h fun hi h=>⟨_,_,_,h,rfl,callable_builtin _,chr_s hi⟩) fun h=>
 ifm_ind (P:=BOk B k args σ K r) h (fun h=>one_ind (P:=fun args=>BOk B k args σ K r "ord") h fun a h=>onStr_ind (P:=fun a=>BOk B k [a] σ K r "ord") h fun i h=>
   (one_some h).elim fun c h=>⟨_,_,_,h.2,rfl,callable_builtin _,ord_s h.1⟩) fun h=>
 ifm_ind (P:=BOk B k args σ K r) h (fun h=>one_ind (P:=fun args=>BOk B k args σ K r "str") h fun a h=>(onAcc_some h).elim
   (fun h=>liftK_el h fun v σ' e h=>⟨_,v,σ',h,rfl,callable_type _,fun A ρ s vals R x r=>gok.strA A ρ σ s _ _ v σ' R x r e⟩) nos) nos
theorem list_append_ok (ok:BsOk B){A:Around}{ρ:List Addr}{σ:Sto}{s:Shared}{i:Nat}{a:Addr}{xs:List PV}{v:PV}{va:Value}(x:St B ρ σ s)(hx:getL σ i=some xs)(ha:ρ[i]?=some a)(r:VR B ρ s.heap v va)(hl:xs.length≤10000):
  Ok B A ρ σ s (call (.builtin "list.append") [.ref a,va]) (setCell σ i (.lst (xs++[v]))) (Is B .none):=by
 obtain⟨vs,hp,hr⟩:=x.list hx ha
 refine wpAny_list_append_plain hp (fun h' hp' hs'=>?_) (by rw[show vs.toArray.size=xs.length from hr.length]; exact Nat.le_trans hl (by decide))
 have hp'':h'.PlainList a (vs++[va]).toArray:=by rw[← List.push_toArray]; exact hp'
 obtain⟨m,ho'⟩:=id hp''
 obtain⟨x',e'⟩:=x.set ok (s':={ s with heap:=h' }) (d:= .lst (xs++[v])) rfl rfl ha (fun b o hb ho=>hs'.extBut b o hb ho)
  (fun σ' e=>⟨vs++[va],hp'',VRs.append (VRs.evo e _ hr) ⟨va,[],rfl,VR.evo e _ r,rfl⟩⟩) ⟨_,ho',fun vs h=>by cases h⟩
 exact⟨ρ,x',e',rfl⟩
theorem kindAt_some {i m:Nat}(h:kindAt σ (.lst i)=some m):∃ c:Cell,σ[i]?=some c∧kindN c.d=m:=by
 unfold kindAt at h
 dsimp only at h
 cases hc:σ[i]? with
 | none=>rw[hc] at h; exact nos h
 | some c=>rw[hc] at h; exact⟨c,rfl,Option.some.inj h⟩
theorem kindAt_of {i:Nat}{c:Cell}(h:σ[i]?=some c):kindAt σ (.lst i)=some (kindN c.d):=by
 unfold kindAt
 dsimp only
 rw[h]
theorem kind_lst {d:CD}(h:kindN d=0):∃ xs,d= .lst xs:=by
 cases d with
 | lst xs=>exact⟨xs,rfl⟩
 | _=>cases h
theorem kind_acc {d:CD}(h:kindN d=1):∃ di xs,d= .acc di xs:=by
 cases d with
 | acc di xs=>exact⟨di,xs,rfl⟩
 | _=>cases h
section
variable {o:Expr}{m:Str}{args:List Expr}{apos:Pos}{v:PV}{vs:List PV}(hline:(apos.endLine==pos.line)=true)(hbase:baseOk o=true)(hlen:args.length < 10)
include hline hbase hlen
theorem meth_str {q:Str}{id:String}(ho:E1 B k cx σ o (.str q) σ₁)(H:Es B k cx σ₁ args vs σ₂)(hg:GetS m id)(hm:StrMS B id q vs σ₂ v σ'):E1 B k cx σ (.Call (.Attribute o m apos) args [] pos) v σ':=fun A X env ρ s R x fr=>
 Call_method_gen hbase hlen hline H.star (ho.use R x fr fun va ρ₁ s₁ x₁ e₁ f₁ r₁ pl=>by
  obtain⟨t,rfl⟩:=r₁
  exact hg _ _ _ _ _ _ _ _ (callWith_builtin_n (H.run.use R x₁ f₁ fun vals ρ₂ s₂ x₂ e₂ f₂ r₂=>Ok.after (e₁.trans e₂) (hm A ρ₂ s₂ t vals x₂ r₂))))
theorem meth_append (ok:BsOk B){i:Nat}{c:Cell}{xs:List PV}(hc:σ₂[i]?=some c)(hd:c.d= .lst xs)(hle:xs.length≤10000)(hkind:kindAt σ₁ (.lst i)=kindAt σ₂ (.lst i))(ho:E1 B k cx σ o (.lst i) σ₁)(H:Es B k cx σ₁ args [v] σ₂):
  E1 B k cx σ (.Call (.Attribute o "append" apos) args [] pos) .none (setCell σ₂ i (.lst (xs++[v]))):=fun A X env ρ s R x fr=>
 Call_method_gen hbase hlen hline H.star (ho.use R x fr fun va ρ₁ s₁ x₁ e₁ f₁ r₁ pl=>by
  obtain⟨l,rfl,hl⟩:=r₁
  rw[kindAt_of hc,hd] at hkind
  obtain⟨c₁,hc₁,hk₁⟩:=kindAt_some hkind
  obtain⟨ys,hd₁⟩:=kind_lst hk₁
  have hcell:=x₁.cells i c₁ l hc₁ hl
  rw[hd₁] at hcell
  obtain⟨_,⟨_,hob⟩,_⟩:=hcell
  have hT:s₁.TypeIs (.ref l) "list":=⟨_,hob,rfl⟩
  with_reducible refine getMethod_builtin (T:="list") hT F.plainAttrs_list slot_list_append type_list_append (fun b e=>by cases e; exact⟨_,hob,rfl⟩) ?_
  refine callWith_builtin_n (H.run.use R x₁ f₁ fun vals ρ₂ s₂ x₂ e₂ f₂ r₂=>?_)
  obtain⟨u,us,rfl,q1,q2⟩:=r₂
  obtain rfl:us=[]:=q2
  refine Ok.after (e₁.trans e₂) (list_append_ok ok x₂ (show getL _ i=some xs from ?_) (e₂.at hl) q1 hle)
  unfold getL
  rw[hc]
  dsimp only
  rw[hd])
theorem meth_acc {mg mb}(gok:GlOk B k G mg mb){i di:Nat}{c:Cell}{xs:List PV}{F:Fn}(hc:σ₂[i]?=some c)(hd:c.d= .acc di xs)(hF:G.meth m=some F)(hkind:kindAt σ₁ (.lst i)=kindAt σ₂ (.lst i))(hacc:accOk σ₁ (.lst i)=true)(h:F (.lst i::vs) σ₂=some (v,σ'))
  (ho:E1 B k cx σ o (.lst i) σ₁) (H:Es B k cx σ₁ args vs σ₂):E1 B k cx σ (.Call (.Attribute o m apos) args [] pos) v σ':=fun A X env ρ s R x fr=>
 Call_method_gen hbase hlen hline H.star (ho.use R x fr fun va ρ₁ s₁ x₁ e₁ f₁ r₁ pl=>by
  obtain⟨l,rfl,hl⟩:=r₁
  obtain⟨f,fok,hget⟩:=gok.meth m F hF
  rw[kindAt_of hc,hd] at hkind
  obtain⟨c₁,hc₁,hk₁⟩:=kindAt_some hkind
  obtain⟨di₁,xs₁,hd₁⟩:=kind_acc hk₁
  refine hget A _ ρ₁ σ₁ s₁ i l c₁ di₁ xs₁ pl _ x₁ hc₁ hd₁ hl hacc (fok.able A _ s₁ pos [.ref l] args env _ (H.run.use R x₁ f₁ fun vals ρ₂ s₂ x₂ e₂ f₂ r₂=>⟨⟨ρ₂,σ₂,x₂⟩,?_⟩))
  exact Ok.after (e₁.trans e₂) (fok.run A ρ₂ σ₂ s₂ (.lst i::vs) (.ref l::vals) v σ' R x₂ ⟨_,_,rfl,⟨l,rfl,e₂.at hl⟩,r₂⟩ h))
theorem sound_method (ok:BsOk B){mg mb}(gok:GlOk B k G mg mb){a:PV}{K:PV→Sto→Option β}{C:Prop}(h:callMK G a m vs σ₂ K=some r)(ho:E1 B k cx σ o a σ₁)(H:Es B k cx σ₁ args vs σ₂)
  (hkind:kindAt σ₁ a=kindAt σ₂ a) (hacc:accOk σ₁ a=true) (q:∀ v σ',K v σ'=some r→E1 B k cx σ (.Call (.Attribute o m apos) args [] pos) v σ'→C):C:=by
 cases a with
 | str x=>
  obtain⟨id,hg,v,σ',hv,hm⟩:=sM_some (B:=B) ok h
  exact q _ _ hv (meth_str hline hbase hlen ho H hg hm)
 | lst i=>
  refine opt_el h fun c hc h=>?_
  cases hd:c.d with
  | lst xs=>
   rw[hd] at h
   obtain⟨w,rfl,h⟩:=one_some h
   exact ifm_ind (P:=fun m=>(∀ v σ',K v σ'=some r→E1 B k cx σ (.Call (.Attribute o m apos) args [] pos) v σ'→C)→C) h (fun h q=>grd_el h fun hle h=>q _ _ h (meth_append hline hbase hlen ok hc hd hle hkind ho H)) nos q
  | acc di xs=>
   rw[hd] at h
   exact opt_el h fun F hF h=>liftK_el h fun v σ' e h=>q _ _ h (meth_acc hline hbase hlen gok hc hd hF hkind hacc e ho H)
  | _=>rw[hd] at h; exact nos h
 | _=>exact nos h
end
end
theorem lookup_filter_ne {α:Type}{n y:Str}(hne:y≠n):∀ l:List (Str×α),(l.filter fun x=>!decide (x.1=n)).lookup y=l.lookup y
 | []=>rfl
 | (k,v)::r=>by
  have ih:=lookup_filter_ne hne r
  rw[List.lookup_cons,List.filter_cons]
  by_cases hk:k=n
  ·rw[if_neg (by rw[decide_eq_true hk]; decide),ih,beq_eq_false_iff_ne.mpr (hk▸hne)]
  ·rw[if_pos (by rw[decide_eq_false hk]; rfl),List.lookup_cons,ih]
theorem putLE_self (l:LE)(n:Str)(v:PV):(putLE l n v).lookup n=some v:=by rw[putLE,List.lookup_cons,beq_self_eq_true]
theorem putLE_ne (l:LE){n y:Str}(v:PV)(hne:y≠n):(putLE l n v).lookup y=l.lookup y:=by
 rw[putLE,List.lookup_cons,beq_eq_false_iff_ne.mpr hne]
 exact lookup_filter_ne hne l
theorem putLE_in {l:LE}{n y:Str}{v u:PV}(h:(putLE l n v).lookup y=some u):(y=n∧u=v)∨(y≠n∧l.lookup y=some u):=by
 by_cases hy:y=n
 ·subst hy; rw[putLE_self] at h; exact .inl ⟨rfl,(Option.some.inj h).symm⟩
 ·rw[putLE_ne _ _ hy] at h; exact .inr ⟨hy,h⟩
section
variable {B:Bs}{A:Around}{ρ:List Addr}{σ:Sto}{s:Shared}{X:List Addr}{cx cx':Cx}{env:Env}
theorem ns_ne_cell {h:Heap}{a c:Addr}{m w}(hn:h.Ns a m)(hc:h.IsCell c w):c≠a:=by
 rintro rfl
 obtain⟨o,es,ep,ho,hd,_⟩:=hn
 obtain⟨o',ho',hd'⟩:=hc
 rw[ho] at ho'; cases ho'
 rw[hd] at hd'; cases hd'
theorem frame_step (ok:BsOk B)(x:St B ρ σ s)(f:Fr B X cx env ρ s.heap){h':Heap}{tk:Nat}{a:Addr}(ha:a∈X)(hs:Heap.SameBut a s.heap h')(hal:∃ o,h'.get? a=some o):
  St B ρ σ { s with heap:=h',toks:=tk }∧Evo B X ρ σ s.heap ρ σ h':=by
 refine x.step ok (s':={ s with heap:=h',toks:=tk }) rfl x.gens (fun b hb=>⟨(f.ofX b hb).1,(f.ofX b hb).2.1,(f.ofX b hb).2.2.1⟩) (fun b hb o ho=>?_) fun b o hb ho=>hs.extBut b o (fun e=>hb (e▸ha)) ho
 obtain⟨_,_,_,o',ho',hf⟩:=f.ofX b hb
 rw[ho] at ho'; cases ho'
 refine⟨hf,?_⟩
 by_cases hba:b=a
 ·subst hba; exact hal
 ·exact⟨o,hs.extBut b o hba ho⟩
theorem Fr.put {n:Str}{v:PV}(f:Fr B X cx env ρ s.heap){h':Heap}(hk:cx.names.lookup n=some .local∨cx.names.lookup n=some .cell)(hX:∀ a o,s.heap.get? a=some o→Framy o→∃ o',h'.get? a=some o'∧Framy o')
  (loc:∃ m,h'.Ns env.locals m∧∀ x,cx.names.lookup x=some .local→env.kindOf x=some .local∧∀ u,(putLE cx.le n v).lookup x=some u→∃ val,m x=some val∧VR B ρ h' u val)
  (cel:∀ x,cx.names.lookup x=some .cell→env.kindOf x=some .cell∧∃ c w,env.cells.lookup x=some c∧c∈X∧h'.IsCell c w∧∀ u,(putLE cx.le n v).lookup x=some u→∃ val,w=some val∧VR B ρ h' u val)
  (fre:∀ x,cx.names.lookup x=some .free→∀ u,cx.le.lookup x=some u→∃ c val,env.cells.lookup x=some c∧s.heap.IsCell c (some val)∧h'.IsCell c (some val)∧VR B ρ h' u val):
  Fr B X ⟨cx.names,putLE cx.le n v⟩ env ρ h':=by
 have nf:∀ {y},cx.names.lookup y=some .free→y≠n:=fun hy e=>by rw[← e,hy] at hk; exact hk.elim (fun h=>by cases h) fun h=>by cases h
 refine⟨f.kind,f.glob,f.bt,loc,cel,fun y hy u hu=>?_,f.glb,fun y w hy=>?_,f.own,fun a ha=>?_,fun y c hc=>?_,f.apart⟩
 ·have hu':cx.le.lookup y=some u:=by rw[← putLE_ne _ v (nf hy)]; exact hu
  obtain⟨c,val,hc,_,hw,hr⟩:=fre y hy u hu'
  exact⟨(f.fre y hy u hu').1,c,val,hc,hw,hr⟩
 ·rcases putLE_in hy with⟨e,_⟩ | ⟨_,hy⟩
  ·rw[e]; exact hk.elim .inl fun h=> .inr (.inl h)
  ·exact f.dom y w hy
 ·obtain⟨h1,h2,h3,o,ho,hf⟩:=f.ofX a ha
  exact⟨h1,h2,h3,hX a o ho hf⟩
 ·obtain⟨h1,h2,o,ho,hf⟩:=f.ofc y c hc
  exact⟨h1,h2,hX c o ho hf⟩
theorem stores_some {n:Str}(h:stores cx n=true):cx.names.lookup n=some .local∨cx.names.lookup n=some .cell:=by
 unfold stores at h
 cases hk:cx.names.lookup n with
 | none=>rw[hk] at h; cases h
 | some kd=>
  rw[hk] at h
  cases kd with
  | «local»=>exact .inl rfl
  | cell=>exact .inr rfl
  | _=>cases h
theorem cell_ne {n y:Str}(hk:cx.names.lookup n=some .cell)(hy:cx.names.lookup y=some .local):y≠n:=fun e=>by rw[e,hk] at hy; cases hy
theorem free_ne {n y:Str}{kd:NameKind}(hk:cx.names.lookup n=some kd)(h:kd≠ .free)(hy:cx.names.lookup y=some .free):y≠n:=fun e=>by rw[e,hk] at hy; exact h (Option.some.inj hy)
variable {Q:Unit→Shared→Prop}{E:Value→Shared→Prop}
theorem bind_local (ok:BsOk B){n:Str}{v:PV}{val:Value}(hk:cx.names.lookup n=some .local)(x:St B ρ σ s)(f:Fr B X cx env ρ s.heap)(r:VR B ρ s.heap v val)
  (q:∀ s',St B ρ σ s'→Evo B X ρ σ s.heap ρ σ s'.heap→Fr B X ⟨cx.names,putLE cx.le n v⟩ env ρ s'.heap→Q () s'):wpAny (model B.prog B.w) A (storeName env n val) Q E s:=by
 obtain⟨m,hns,hm⟩:=f.loc
 refine wpAny_storeName_local (hm n hk).1 hns (fun h' hn' hs'=>?_) (by rw[f.kind]; rfl)
 obtain⟨o',es',ep',ho',hd',_⟩:=id hn'
 obtain⟨x',e'⟩:=frame_step ok x f (tk:=s.toks+1) f.own hs' ⟨_,ho'⟩
 have hf':Framy o':= .inl ⟨_,_,hd'⟩
 clear hd'
 refine q _ x' e' (f.put (.inl hk) (fun a o ho hf=>?_) ⟨_,hn',fun y hy=>⟨(hm y hy).1,fun w hw=>?_⟩⟩ (fun y hy=>?_) fun y hy u hu=>?_)
 ·by_cases ha:a=env.locals
  ·exact⟨o',ha▸ho',hf'⟩
  ·exact⟨o,hs'.extBut a o ha ho,hf⟩
 ·rcases putLE_in hw with⟨e,rfl⟩ | ⟨hyn,hw⟩
  ·exact⟨val,by simp[e],VR.evo e' _ r⟩
  ·exact ((hm y hy).2 w hw).imp fun _ q=>⟨by simp[hyn,q.1],VR.evo e' _ q.2⟩
 ·obtain⟨h0,c,w,hc,hcX,hw,hv⟩:=f.cel y hy
  exact⟨h0,c,w,hc,hcX,hw.sameBut hs' (ns_ne_cell hns hw),fun u hu=>(hv u (putLE_ne _ _ (Ne.symm (cell_ne hy hk))▸hu)).imp fun _ q=>q.imp_right (VR.evo e' _)⟩
 ·obtain⟨h0,c,val',hc,hw,hr⟩:=f.fre y hy u hu
  exact⟨c,val',hc,hw,hw.sameBut hs' (ns_ne_cell hns hw),VR.evo e' _ hr⟩
theorem bind_cell (ok:BsOk B){n:Str}{v:PV}{val:Value}(hk:cx.names.lookup n=some .cell)(x:St B ρ σ s)(f:Fr B X cx env ρ s.heap)(r:VR B ρ s.heap v val)
  (q:∀ s',St B ρ σ s'→Evo B X ρ σ s.heap ρ σ s'.heap→Fr B X ⟨cx.names,putLE cx.le n v⟩ env ρ s'.heap→Q () s'):wpAny (model B.prog B.w) A (storeName env n val) Q E s:=by
 obtain⟨hkind,c,w,hc,hX,hw,_⟩:=f.cel n hk
 refine wpAny_storeName_cell f.kind hkind hc hw fun h' hc' hs'=>?_
 obtain⟨o',ho',hd'⟩:=id hc'
 obtain⟨x',e'⟩:=frame_step ok x f (tk:=s.toks) hX hs' ⟨_,ho'⟩
 have hf':Framy o':= .inr ⟨_,hd'⟩
 clear hd'
 have cellk:∀ y c' w',y≠n→env.cells.lookup y=some c'→s.heap.IsCell c' w'→h'.IsCell c' w':=fun y c' w' hy hcy hw'=>hw'.sameBut hs' fun e=>hy (f.apart y n c (e▸hcy) hc)
 obtain⟨m,hns,hm⟩:=f.loc
 refine q _ x' e' (f.put (.inr hk) (fun a o ho hf=>?_) ⟨m,hns.sameBut hs' (Ne.symm (ns_ne_cell hns hw)),fun y hy=>⟨(hm y hy).1,fun u hu=>((hm y hy).2 u (putLE_ne _ _ (cell_ne hk hy)▸hu)).imp fun _ q=>q.imp_right (VR.evo e' _)⟩⟩ (fun y hy=>?_) fun y hy u hu=>?_)
 ·by_cases ha:a=c
  ·exact⟨o',ha▸ho',hf'⟩
  ·exact⟨o,hs'.extBut a o ha ho,hf⟩
 ·by_cases hyn:y=n
  ·rw[hyn]
   exact⟨hkind,c,_,hc,hX,hc',fun u hu=>by rw[putLE_self] at hu; exact⟨val,rfl,Option.some.inj hu▸VR.evo e' _ r⟩⟩
  ·obtain⟨h0,c',w',hcy,hX',hw',hv'⟩:=f.cel y hy
   exact⟨h0,c',w',hcy,hX',cellk y c' w' hyn hcy hw',fun u hu=>(hv' u (putLE_ne _ _ hyn▸hu)).imp fun _ q=>q.imp_right (VR.evo e' _)⟩
 ·obtain⟨h0,c',val',hcy,hw',hr⟩:=f.fre y hy u hu
  exact⟨c',val',hcy,hw',cellk y c' _ (free_ne hk (by decide) hy) hcy hw',VR.evo e' _ hr⟩
theorem bind_ok (ok:BsOk B){n:Str}{v:PV}{val:Value}(hb:bindN cx n v=some cx')(x:St B ρ σ s)(f:Fr B X cx env ρ s.heap)(r:VR B ρ s.heap v val)
  (q:∀ s',St B ρ σ s'→Evo B X ρ σ s.heap ρ σ s'.heap→Fr B X cx' env ρ s'.heap→Q () s'):wpAny (model B.prog B.w) A (storeName env n val) Q E s:=by
 obtain⟨hst,hb⟩:=grd_some (β:=Cx) hb
 obtain rfl:=Option.some.inj hb
 exact (stores_some hst).elim (fun hk=>bind_local ok hk x f r q) fun hk=>bind_cell ok hk x f r q
theorem Fr.ext (f:Fr B X cx env ρ s.heap){h':Heap}(vk:Vk B ρ s.heap ρ h')(hk:∀ a o,s.heap.get? a=some o→Framy o→h'.get? a=some o):Fr B X cx env ρ h':=
 f.move vk fun a o _ h1 _ ho hf=>⟨hk a o ho hf,h1⟩
theorem Fr.vk' (f:Fr B X cx env ρ s.heap){h':Heap}{wr:List Addr}(vk:Vk B ρ s.heap ρ h')(hwr:∀ a∈wr,∀ o,s.heap.get? a=some o→¬ Framy o)(hk:∀ b o,b∉wr→s.heap.get? b=some o→h'.get? b=some o):
  Fr B X cx env ρ h':=f.ext vk fun a o ho hf=>hk a o (fun hm=>hwr a hm o ho hf) ho
theorem assignEach_ok:∀ {es:List Expr},(∀ e∈es,∃ n p,e= .Name n p)→assignEach es env=es.map fun e=>(false,assign e env)
 | [],_=>rfl
 | e::es,h=>by
  obtain⟨n,p,rfl⟩:=h e List.mem_cons_self
  show (false,assign (.Name n p) env)::assignEach es env=_
  rw[assignEach_ok fun e he=>h e (List.mem_cons_of_mem _ he)]; rfl
theorem bindNs_cons {e:Expr}{es:List Expr}{v:PV}{vs:List PV}{cx cx':Cx}(h:bindNs cx (e::es) (v::vs)=some cx'):∃ n p cx₁,e= .Name n p∧bindN cx n v=some cx₁∧bindNs cx₁ es vs=some cx':=by
 obtain⟨n,p,e,cx₁,h1,h2⟩:=onName_ind (P:=fun e=>∃ n p,e= .Name n p∧∃ cx₁,bindN cx n v=some cx₁∧bindNs cx₁ es vs=some cx') h fun n p h=>⟨n,p,rfl,opt_some h⟩
 exact⟨n,p,cx₁,e,h1,h2⟩
theorem bindNs_names:∀ {es:List Expr} {vs:List PV} {cx cx':Cx},bindNs cx es vs=some cx'→(∀ e∈es,∃ n p,e= .Name n p)∧es.length=vs.length
 | [],[],_,_,_=>⟨fun _ h=>absurd h List.not_mem_nil,rfl⟩
 | e::es,v::vs,cx,cx',h=>by
  obtain⟨n,p,cx₁,e,h1,h2⟩:=bindNs_cons h
  obtain⟨a,b⟩:=bindNs_names h2
  exact⟨List.forall_mem_cons.mpr ⟨⟨n,p,e⟩,a⟩,congrArg (· +1) b⟩
 | [],_::_,_,_,h=>nos h
 | _::_,[],_,_,h=>nos h
theorem bindNs_ok (ok:BsOk B):∀ {es:List Expr} {vs:List PV} {vals:List Value} {cx cx':Cx} {s:Shared},bindNs cx es vs=some cx'→St B ρ σ s→Fr B X cx env ρ s.heap→VRs B ρ s.heap vs vals→
  (∀ s',St B ρ σ s'→Evo B X ρ σ s.heap ρ σ s'.heap→Fr B X cx' env ρ s'.heap→Q () s')→wpAny (model B.prog B.w) A (assignInOrder ((es.map fun e=>(false,assign e env)).map (·.2)) vals) Q E s
 | [],[],vals,cx,cx',s,h,x,f,r,q=>by
  obtain rfl:=Option.some.inj h
  obtain rfl:vals=[]:=r
  exact wpAny_pure (q _ x (.refl ..) f)
 | e::es,v::vs,vals,cx,cx',s,h,x,f,r,q=>by
  obtain⟨w,ws,rfl,r1,r2⟩:=r
  obtain⟨n,p,cx₁,rfl,h1,h2⟩:=bindNs_cons h
  exact assignInOrder_cons (wpAny_assign_Name (bind_ok ok h1 x f r1 fun s₁ x₁ e₁ f₁=>bindNs_ok ok h2 x₁ f₁ (VRs.evo e₁ _ r2) fun s₂ x₂ e₂ f₂=>q s₂ x₂ (e₁.trans e₂) f₂))
 | [],_::_,_,_,_,_,h,_,_,_,_=>nos h
 | _::_,[],_,_,_,_,h,_,_,_,_=>nos h
theorem bindT_ind {P:Expr→PV→Prop}{t:Expr}{v:PV}(h:bindT cx t v=some cx')(h1:∀ n p v,bindN cx n v=some cx'→P (.Name n p) v)(h2:∀ es kk p vs,bindNs cx es vs=some cx'→P (.Tuple es kk p) (.tup vs)):P t v:=by
 cases t with
 | Name n p=>exact h1 n p v h
 | Tuple es kk p=>exact onTup_ind (P:=fun v=>P (.Tuple es kk p) v) h fun vs h=>h2 es kk p vs h
 | _=>exact nos h
theorem assign_ok (ok:BsOk B){k:Nat}(R:Room k A){t:Expr}{v:PV}{val:Value}(hb:bindT cx t v=some cx')(x:St B ρ σ s)(f:Fr B X cx env ρ s.heap)(r:VR B ρ s.heap v val)
  (q:∀ s',St B ρ σ s'→Evo B X ρ σ s.heap ρ σ s'.heap→Fr B X cx' env ρ s'.heap→Q () s'):wpAny (model B.prog B.w) A (assign t env val) Q E s:=by
 revert r
 refine bindT_ind (P:=fun t v=>VR B ρ s.heap v val→wpAny (model B.prog B.w) A (assign t env val) Q E s) hb (fun n p v h r=>wpAny_assign_Name (bind_ok ok h x f r q)) fun es kk p vs h r=>?_
 obtain⟨hn,hlen⟩:=bindNs_names h
 obtain⟨a,us,rfl,_,_,ht,hr⟩:=r
 have he:=assignEach_ok (env:=env) hn
 refine wpAny_assign_Tuple R.handled ht (by rw[he,List.length_map,hlen]; exact hr.length.symm) (by rw[he]; simp[List.findIdx?_eq_none_iff]) fun h' he'=>?_
 obtain⟨x₁,e₁⟩:=x.grow ok (s':={ s with heap:=h' }) rfl x.gens fun b o ho=>he' b o (fun e=>by rw[e,get?_size] at ho; exact nos ho) ho
 rw[he]
 exact bindNs_ok ok h x₁ (f.evo e₁) (VRs.evo e₁ _ hr) fun s₂ x₂ e₂ f₂=>q s₂ x₂ (e₁.weak.trans e₂) f₂
end
structure Itr (B:Bs) (A:Around) (it:Value) (items:List PV) (w:Option (Nat×Nat)) (T:Expr→Prop) (ρ₀:List Addr) (σ₀:Sto) (s₀:Shared) (wr:List Addr) (J:Nat→Heap→Prop):Prop where
 fresh:∀ a∈wr,s₀.heap.get? a=none
 obj:∀ j h,J j h→∀ a∈wr,∃ o vs,h.get? a=some o∧o.data= .fields vs∧o.cls≠ .type "tuple"∧o.cls≠ .type "code"
 frame:∀ j h h',J j h→(∀ b∈wr,∀ o,h.get? b=some o→h'.get? b=some o)→J j h'
 next:∀ j pv X ρ σ s t,T t→items[j]?=some pv→Evo B X ρ₀ σ₀ s₀.heap ρ σ s.heap→St B ρ σ s→J j s.heap→watch σ w=true→
  wpAny (model B.prog B.w) A (pyNext it) (fun r s'=>∃ v,r=some v∧wpAny (model B.prog B.w) A (letOwnedTupleGo t it v) (fun _ s''=>∃ h' tk,s''={ s with heap:=h',toks:=tk }∧
   (∀ b o,b∉wr→s.heap.get? b=some o→h'.get? b=some o)∧J (j+1) h'∧VR B ρ h' pv v) (fun _ _=>False) s') (fun _ _=>False) s
 self:∀ j (s:Shared) (Q:Value→Shared→Prop) (E:Value→Shared→Prop),J j s.heap→Q it s→wpAny (model B.prog B.w) A (pyIter it) Q E s
 done:∀ X ρ σ s,Evo B X ρ₀ σ₀ s₀.heap ρ σ s.heap→St B ρ σ s→J items.length s.heap→watch σ w=true→
  wpAny (model B.prog B.w) A (pyNext it) (fun r s'=>r=none∧∃ h' tk,s'={ s with heap:=h',toks:=tk }∧∀ b o,b∉wr→s.heap.get? b=some o→h'.get? b=some o) (fun _ _=>False) s
section
variable {B:Bs}{A:Around}{it:Value}{items:List PV}{w:Option (Nat×Nat)}{T:Expr→Prop}{ρ₀ ρ:List Addr}{σ₀ σ:Sto}{s₀ s:Shared}{wr X:List Addr}{J:Nat→Heap→Prop}{cx cx':Cx}{env:Env}
theorem Itr.apart (I:Itr B A it items w T ρ₀ σ₀ s₀ wr J)(ok:BsOk B)(x₀:St B ρ₀ σ₀ s₀)(x:St B ρ σ s){j:Nat}(hJ:J j s.heap){a:Addr}(ha:a∈wr):
  a∉ρ∧a∉B.Tb∧B.h₀.get? a=none∧∀ o,s.heap.get? a=some o→¬ Framy o∧(o.cls= .type "tuple"→∀ vs n,o.data≠ .seq vs n)∧(o.cls= .type "code"→∀ vs,o.data≠ .fields vs):=by
 obtain⟨o,vs,ho,hd,h1,h2⟩:=I.obj j _ hJ a ha
 have hf:=I.fresh a ha
 have htb:a∉B.Tb:=fun hm=>(ok.tb _ x₀.inv a hm).elim fun o' ho'=>by rw[hf] at ho'; exact nos ho'
 refine⟨fun hm=>x.notFields hm ho hd,htb,?_,fun o' ho'=>by rw[← Option.some.inj (ho.symm.trans ho')]; exact⟨not_framy_fields hd,fun e=>absurd e h1,fun e=>absurd e h2⟩⟩
 cases hb:B.h₀.get? a with
 | none=>rfl
 | some o'=>rw[x₀.base a o' hb htb] at hf; exact nos hf.symm
theorem Itr.alter (I:Itr B A it items w T ρ₀ σ₀ s₀ wr J)(ok:BsOk B)(x₀:St B ρ₀ σ₀ s₀)(x:St B ρ σ s)(e:Evo B X ρ₀ σ₀ s₀.heap ρ σ s.heap)(f:Fr B X cx env ρ s.heap){j:Nat}(hJ:J j s.heap){h':Heap}{tk:Nat}
  (hk:∀ b o,b∉wr→s.heap.get? b=some o→h'.get? b=some o):St B ρ σ { s with heap:=h',toks:=tk }∧Evo B X ρ₀ σ₀ s₀.heap ρ σ h'∧Fr B X cx env ρ h'∧Vk B ρ s.heap ρ h':=by
 have ap:=fun {a}=>I.apart ok x₀ x hJ (a:=a)
 obtain⟨x',vk⟩:=x.alter ok (tk:=tk) (fun a ha=>(ap ha).imp_right fun h=>h.imp_right fun h=>h.imp_right fun h o ho=>(h o ho).2) hk
 exact⟨x',e.alter (fun a ha=>I.fresh a ha) hk,f.vk' vk (fun a ha o ho=>((ap ha).2.2.2 o ho).1) hk,vk⟩
theorem Itr.keepJ (I:Itr B A it items w T ρ₀ σ₀ s₀ wr J)(ok:BsOk B)(x₀:St B ρ₀ σ₀ s₀)(x:St B ρ σ s){j:Nat}(hJ:J j s.heap){ρ':List Addr}{σ':Sto}{h':Heap}(e:Evo B X ρ σ s.heap ρ' σ' h'):J j h':=
 I.frame j _ _ hJ fun b hb o ho=>have h:=I.apart ok x₀ x hJ hb; e.kp.keep b o ho h.1 h.2.1 fun _=>(h.2.2.2 o ho).1
structure Turned (B:Bs) (X:List Addr) (cx':Cx) (env:Env) (ρ₀:List Addr) (σ₀:Sto) (h₀:Heap) (ρ:List Addr) (σ:Sto) (s:Shared) (wr:List Addr) (J:Nat→Heap→Prop) (j:Nat) (s₃:Shared):Prop where
 st:St B ρ σ s₃
 evo:Evo B X ρ₀ σ₀ h₀ ρ σ s₃.heap
 fr:Fr B X cx' env ρ s₃.heap
 j:J (j+1) s₃.heap
 vk:Vk B ρ s.heap ρ s₃.heap
 kp:∀ b o,b∉wr→b∉ρ→b∉B.Tb→b∉X→s.heap.get? b=some o→s₃.heap.get? b=some o
theorem Vk.trans {ρ:List Addr}{h h' h'':Heap}(v:Vk B ρ h ρ h')(u:Vk B ρ h' ρ h''):Vk B ρ h ρ h'':=⟨fun _ _ h=>h,fun a o vs n ho hc hd h1 h2=>⟨(u.tup a o vs n (v.tup a o vs n ho hc hd h1 h2).1 hc hd h1 h2).1,h1⟩⟩
theorem Itr.turn (I:Itr B A it items w T ρ₀ σ₀ s₀ wr J)(ok:BsOk B){k:Nat}(R:Room k A)(x₀:St B ρ₀ σ₀ s₀)(x:St B ρ σ s)(e:Evo B X ρ₀ σ₀ s₀.heap ρ σ s.heap)(f:Fr B X cx env ρ s.heap){j:Nat}{pv:PV}{t:Expr}
  (hT:T t) (hj:items[j]?=some pv) (hJ:J j s.heap) (hw:watch σ w=true) (hb:bindT cx t pv=some cx') {Q:Option Value→Shared→Prop} {Q₃:Unit→Shared→Prop} {E E₂ E₃:Value→Shared→Prop}
  (q:∀ v s',wpAny (model B.prog B.w) A (letOwnedTupleGo t it v) (fun _ s''=>wpAny (model B.prog B.w) A (assign t env v) Q₃ E₃ s'') E₂ s'→Q (some v) s')
  (h:∀ s₃,Turned B X cx' env ρ₀ σ₀ s₀.heap ρ σ s wr J j s₃→Q₃ () s₃):wpAny (model B.prog B.w) A (pyNext it) Q E s:=
 wpAny_mono (I.next j pv X ρ σ s t hT hj e x hJ hw) (fun r s' hr=>by
  obtain⟨v,hr,hl⟩:=hr
  rw[hr]
  refine q v s' (wpAny_mono hl (fun _ s'' hs=>?_) fun _ _ e=>e.elim)
  obtain⟨h',tk,hs,hk,hJ',hv⟩:=hs
  subst hs
  obtain⟨x',e',f',vk⟩:=I.alter ok x₀ x e f hJ (tk:=tk) hk
  exact assign_ok ok R hb x' f' hv fun s₃ x₃ e₃ f₃=>h s₃ ⟨x₃,e'.trans e₃,f₃,I.keepJ ok x₀ x' hJ' e₃,vk.trans e₃.vk,fun b o hbw hbρ hbt hbX ho=>e₃.kp.keep b o (hk b o hbw ho) hbρ hbt fun hx=>absurd hx hbX⟩) fun _ _ e=>e.elim
theorem Itr.stop (I:Itr B A it items w T ρ₀ σ₀ s₀ wr J)(ok:BsOk B)(x₀:St B ρ₀ σ₀ s₀)(x:St B ρ σ s)(e:Evo B X ρ₀ σ₀ s₀.heap ρ σ s.heap)(f:Fr B X cx env ρ s.heap)
  (hJ:J items.length s.heap) (hw:watch σ w=true) {Q:Option Value→Shared→Prop} {E:Value→Shared→Prop}
  (h:∀ s',St B ρ σ s'→Evo B X ρ₀ σ₀ s₀.heap ρ σ s'.heap→Fr B X cx env ρ s'.heap→Vk B ρ s.heap ρ s'.heap→(∀ b o,b∉wr→s.heap.get? b=some o→s'.heap.get? b=some o)→Q none s'):wpAny (model B.prog B.w) A (pyNext it) Q E s:=
 wpAny_mono (I.done X ρ σ s e x hJ hw) (fun r s' hr=>by
  obtain⟨hr,h',tk,hs,hk⟩:=hr
  subst hr hs
  obtain⟨x',e',f',vk⟩:=I.alter ok x₀ x e f hJ (tk:=tk) hk
  exact h _ x' e' f' vk hk) fun _ _ e=>e.elim
end
section
variable {prog:Program}{w:World}{A:Around}{R:Result→Shared→Prop}{s:Shared}
theorem codeAny_for_turn {target body orelse env}{it:Value}
  (turn:wpAny (model prog w) A (pyNext it) (fun r s₁=>match r with
   | none=>wpAny (model prog w) A (execs orelse env) (fun f s₃=>R (.ok f) s₃) (fun _ _=>False) s₁
   | some v=>wpAny (model prog w) A (letOwnedTupleGo target it v) (fun _ s₁'=>wpAny (model prog w) A (assign target env v) (fun _ s₂=>wpAny (model prog w) A (execs body env) (fun f s₃=>match f with
     | .next | .cont=>codeAny (model prog w) A (.forLoop target it body orelse env) R s₃
     | .brk=>R (.ok .next) s₃
     | .ret v=>R (.ok (.ret v)) s₃) (fun _ _=>False) s₂) (fun _ _=>False) s₁') (fun _ _=>False) s₁) (fun _ _=>False) s):
  codeAny (model prog w) A (.forLoop target it body orelse env) R s:=by
 refine codeAny_of_tree ?_
 show wpAny _ A ((forTurn target it body orelse env).onRaise (fun x=>do noteFrame x env; theTreesLotGoes x)) _ _ s
 refine wpAny_noted ?_
 simp -iota only[forTurn]
 refine wpAny_bind (wpAny_standAt (wpAny_bind (wpAny_onRaise (wpAny_mono turn (fun r s₁ h₁=>?_) fun _ _ h'=>h'.elim))))
 cases r with
 | none=>exact wpAny_pure ⟨rfl,codeAny_block (wpAny_mono h₁ (fun _ _ h=>h) fun _ _ e=>e.elim)⟩
 | some v=>
  refine wpAny_bind (wpAny_mono h₁ (fun _ s₁' h₁'=>?_) fun _ _ e=>e.elim)
  refine wpAny_bind (wpAny_mono h₁' (fun _ s₂ h₂=>wpAny_bind (wpAny_mono h₂ (fun f s₃ h₃=>?_) fun _ _ h'=>h'.elim)) fun _ _ h'=>h'.elim)
  cases f with
  | next=>exact wpAny_pure ⟨rfl,h₃⟩
  | cont=>exact wpAny_pure ⟨rfl,h₃⟩
  | brk=>exact wpAny_pure h₃
  | ret v=>exact wpAny_pure h₃
theorem codeAny_while_turn {test body orelse env}
  (turn:wpAny (model prog w) A (isTrue test env (eval test env)) (fun b s₂=>
    if b then wpAny (model prog w) A (execs body env) (fun f s₃=>match f with
      | .next | .cont=>codeAny (model prog w) A (.whileLoop test body orelse env) R s₃
      | .brk=>R (.ok .next) s₃
      | .ret v=>R (.ok (.ret v)) s₃) (fun _ _=>False) s₂
    else wpAny (model prog w) A (execs orelse env) (fun f s₃=>R (.ok f) s₃) (fun _ _=>False) s₂) (fun _ _=>False) s):
  codeAny (model prog w) A (.whileLoop test body orelse env) R s:=by
 refine codeAny_of_tree ?_
 show wpAny _ A ((whileTurn test body orelse env).onRaise (fun x=>do noteFrame x env; theTreesLotGoes x)) _ _ s
 refine wpAny_noted ?_
 simp -iota only[whileTurn]
 refine wpAny_bind (wpAny_mono turn (fun b s₁ h₁=>?_) fun _ _ h'=>h'.elim)
 cases b with
 | true=>
  simp -iota only[if_true] at h₁ ⊢
  refine wpAny_bind (wpAny_mono h₁ (fun f s₃ h₃=>?_) fun _ _ h'=>h'.elim)
  cases f with
  | next=>exact wpAny_pure ⟨rfl,h₃⟩
  | cont=>exact wpAny_pure ⟨rfl,h₃⟩
  | brk=>exact wpAny_pure h₃
  | ret v=>exact wpAny_pure h₃
 | false=>
  simp -iota only[Bool.false_eq_true,if_false] at h₁ ⊢
  exact wpAny_bind (wpAny_mono h₁ (fun f s₃ h₃=>wpAny_pure h₃) fun _ _ h'=>h'.elim)
theorem codeAny_comp_turn {elt target iter:Expr}{ifs:List Expr}{scope:Scope}{pos:Pos}{it acc:Value}{env:Env}
  (turn:wpAny (model prog w) A (pyNext it) (fun r s₁=>match r with
   | none=>R (.ok .next) s₁
   | some v=>wpAny (model prog w) A (letOwnedTupleGo target it v) (fun _ s₁'=>wpAny (model prog w) A (assign target env v) (fun _ s₂=>
     wpAny (model prog w) A (forIn ifs true fun c r=>if r=true then do let ok ← isTrue c env (eval c env); pure (ForInStep.yield ok) else pure (ForInStep.yield r)) (fun ok s₃=>
      if ok=true then wpAny (model prog w) A (eval elt env) (fun x s₄=>
       wpAny (model prog w) A (call (.builtin "list.append") [acc,x]) (fun _ s₅=>codeAny (model prog w) A (.compLoop (.ListComp elt [⟨target,iter,ifs,0⟩] scope pos) 0 it acc env) R s₅) (fun _ _=>False) s₄) (fun _ _=>False) s₃
      else codeAny (model prog w) A (.compLoop (.ListComp elt [⟨target,iter,ifs,0⟩] scope pos) 0 it acc env) R s₃) (fun _ _=>False) s₂) (fun _ _=>False) s₁') (fun _ _=>False) s₁) (fun _ _=>False) s):
  codeAny (model prog w) A (.compLoop (.ListComp elt [⟨target,iter,ifs,0⟩] scope pos) 0 it acc env) R s:=by
 refine codeAny_of_tree ?_
 show wpAny _ A ((compTurn (.ListComp elt [⟨target,iter,ifs,0⟩] scope pos) 0 it acc env).onRaise (fun x=>do noteFrame x env; theTreesLotGoes x)) _ _ s
 refine wpAny_noted ?_
 rw[compTurn_list]
 refine wpAny_bind (wpAny_standAt (wpAny_bind (wpAny_mono turn (fun r s₁ h₁=>?_) fun _ _ h'=>h'.elim)))
 cases r with
 | none=>exact wpAny_pure h₁
 | some v=>
  refine wpAny_bind (wpAny_mono h₁ (fun _ s₁' h₁'=>?_) fun _ _ e=>e.elim)
  refine wpAny_bind (wpAny_mono h₁' (fun _ s₂ h₂=>wpAny_bind (wpAny_mono h₂ (fun ok s₃ h₃=>?_) fun _ _ h'=>h'.elim)) fun _ _ h'=>h'.elim)
  cases ok with
  | false=>exact wpAny_pure ⟨rfl,h₃⟩
  | true=>
   exact wpAny_bind (wpAny_bind (wpAny_mono h₃ (fun x s₄ h₄=>wpAny_bind (wpAny_mono h₄ (fun _ s₅ h₅=>wpAny_pure (wpAny_pure ⟨rfl,h₅⟩)) fun _ _ h'=>h'.elim)) fun _ _ h'=>h'.elim))
end
noncomputable def clo (env:Env):List (Str×NameKind)→List (Str×Addr)→List (Str×Addr)
 | [],cs=>cs
 | (n,k)::r,cs=>clo env r (if k== .free then (n,(env.cells.lookup n).getD 0)::cs else cs)
theorem clo_forIn {env:Env}(f:Str×NameKind→List (Str×Addr)→Sem (ForInStep (List (Str×Addr))))
  (hf:∀ n k cs,f (n,k) cs=if k== .free then (do let c ← cellOf env n; pure (.yield ((n,c)::cs))) else pure (.yield cs)):
  ∀ (names:List (Str×NameKind)) (cs:List (Str×Addr)),(∀ x∈names,x.2= .free→∃ c,env.cells.lookup x.1=some c)→forIn names cs f=pure (clo env names cs)
 | [],cs,_=>by rw[List.forIn_nil]; rfl
 | (n,k)::r,cs,h=>by
  rw[List.forIn_cons,hf]
  have hr:∀ x∈r,x.2= .free→∃ c,env.cells.lookup x.1=some c:=fun x hx=>h x (List.mem_cons_of_mem _ hx)
  unfold clo
  by_cases hk:(k== .free)=true
  ·obtain⟨c,hc⟩:=h (n,k) List.mem_cons_self (by simpa using hk)
   have e:cellOf env n=pure c:=by unfold cellOf; rw[show env.cells.lookup n=some c from hc]
   simp only[hk,if_true,e,pure_bind]
   rw[clo_forIn f hf r _ hr,show env.cells.lookup n=some c from hc]; rfl
  ·simp only[hk,if_false,pure_bind]
   exact clo_forIn f hf r _ hr
theorem closure_eq {scope:Scope}{env:Env}(h:∀ x∈scope.names,x.2= .free→∃ c,env.cells.lookup x.1=some c):closureFor scope env=pure (clo env scope.names []):=by
 simp only[closureFor]
 rw[clo_forIn (env:=env) _ (fun n k cs=>by cases hk:(k==NameKind.free) <;> simp[hk]) _ _ h]
 rfl
theorem clo_sub {env:Env}:∀ (names:List (Str×NameKind)) (cs:List (Str×Addr)),(∀ x∈names,x.2= .free→∃ c,env.cells.lookup x.1=some c)→(∀ x c,cs.lookup x=some c→env.cells.lookup x=some c)→
  ∀ x c,(clo env names cs).lookup x=some c→env.cells.lookup x=some c
 | [],cs,_,h,x,c,e=>h x c e
 | (n,k)::r,cs,h,hc,x,c,e=>by
  unfold clo at e
  refine clo_sub r _ (fun x hx=>h x (List.mem_cons_of_mem _ hx)) ?_ x c e
  intro y d hy
  by_cases hk:(k== .free)=true
  ·rw[if_pos hk,List.lookup_cons] at hy
   obtain⟨c',hc'⟩:=h (n,k) List.mem_cons_self (by simpa using hk)
   cases hyn:y==n with
   | true=>
    rw[hyn] at hy
    have e1:y=n:=by simpa using hyn
    subst e1
    rw[show env.cells.lookup y=some c' from hc'] at hy ⊢
    exact hy
   | false=>rw[hyn] at hy; exact hc y d hy
  ·rw[if_neg hk] at hy; exact hc y d hy
theorem clo_has {env:Env}:∀ (names:List (Str×NameKind)) (cs:List (Str×Addr)) (x:Str),((x,NameKind.free)∈names∨(cs.lookup x).isSome=true)→((clo env names cs).lookup x).isSome=true
 | [],cs,x,h=>h.elim (fun h=>nomatch h) fun h=>h
 | (n,k)::r,cs,x,h=>by
  unfold clo
  refine clo_has r _ x ?_
  rcases h with h | h
  ·rcases List.mem_cons.mp h with e | h
   ·cases e; right; simp[List.lookup_cons]
   ·exact .inl h
  ·right
   by_cases hk:(k== .free)=true
   ·rw[if_pos hk,List.lookup_cons]
    cases hx:x==n
    ·exact h
    ·rfl
   ·rw[if_neg hk]; exact h
theorem lookup_map_snd (g:Str→NameKind→NameKind){k:NameKind}:∀ {names:List (Str×NameKind)} {x:Str},names.lookup x=some k→(names.map fun p=>(p.1,g p.1 p.2)).lookup x=some (g x k)
 | [],x,h=>by simp at h
 | (n,kk)::r,x,h=>by
  rw[List.map_cons,List.lookup_cons]
  rw[List.lookup_cons] at h
  cases hx:x==n with
  | true=>
   rw[hx] at h
   cases h
   have e:x=n:=by simpa using hx
   subst e
   rfl
  | false=>
   rw[hx] at h
   exact lookup_map_snd g h
noncomputable def rlab (env:Env)(n:Str)(k:NameKind):NameKind:=if (k==NameKind.free&&env.scope.kind== .function&&env.kindOf n==some .cell) then .cell else k
theorem relabel_names (scope:Scope)(env:Env):(relabel scope env).names=scope.names.map fun p=>(p.1,rlab env p.1 p.2):=by
 show List.map _ _=_
 congr 1
 funext p
 obtain⟨n,k⟩:=p
 show (if (k==NameKind.free&&env.scope.kind== .function&&env.kindOf n==some .cell)=true then (n,NameKind.cell) else (n,k))=(n,rlab env n k)
 unfold rlab
 split <;> rfl
theorem relabel_lookup {scope:Scope}{env:Env}{k:NameKind}{x:Str}(h:scope.names.lookup x=some k):(relabel scope env).names.lookup x=some (rlab env x k):=by
 rw[relabel_names]; exact lookup_map_snd (rlab env) h
theorem capt_lookup {cx:Cx}:∀ {names:List (Str×NameKind)} {x:Str} {v:PV},(capt cx names).lookup x=some v→(x,NameKind.free)∈names∧cx.names.lookup x=some .cell∧cx.le.lookup x=some v
 | [],x,v,h=>by cases h
 | (n,k)::r,x,v,h=>by
  have h:(List.filterMap (capt1 cx) ((n,k)::r)).lookup x=some v:=h
  cases e:capt1 cx (n,k) with
  | none=>
   rw[List.filterMap_cons_none e] at h
   exact (capt_lookup h).imp (List.mem_cons_of_mem _) id
  | some p=>
   rw[List.filterMap_cons_some e] at h
   obtain⟨hk,e⟩:=onFree_some e
   obtain⟨kd,hkd,e⟩:=opt_some e
   obtain⟨rfl,e⟩:=onCel_some e
   obtain⟨w,hv,rfl⟩:=Option.map_eq_some_iff.mp e
   rw[List.lookup_cons] at h
   cases hx:x==n with
   | true=>
    rw[hx] at h
    rw[eq_of_beq hx,← Option.some.inj h]
    exact⟨(show k=NameKind.free from hk)▸List.mem_cons_self,hkd,hv⟩
   | false=>rw[hx] at h; exact (capt_lookup h).imp (List.mem_cons_of_mem _) id
section
variable {B:Bs}{k:Nat}{G:Gl}{n:Nat}
structure It1 (B:Bs) (k:Nat) (cx:Cx) (σ:Sto) (e:Expr) (items:List PV) (w:Option (Nat×Nat)) (σ₁:Sto):Prop where
 fold:∀ env x,foldedSetIterable e env x=pure x
 run:∀ A X env ρ s,Room k A→St B ρ σ s→Fr B X cx env ρ s.heap→∀ (Q:Value→Shared→Prop) (E:Value→Shared→Prop),
  (∀ val s₁' ρ₁ s₁,St B ρ₁ σ₁ s₁→Evo B [] ρ σ s.heap ρ₁ σ₁ s₁.heap→(∀ (E:Value→Shared→Prop) (Q:Value→Shared→Prop),
   (∀ it s₂ wr J T,Itr B A it items w T ρ₁ σ₁ s₁ wr J→(∀ t,iterOk e t=true→T t)→J 0 s₂.heap→St B ρ₁ σ₁ s₂→Evo B [] ρ₁ σ₁ s₁.heap ρ₁ σ₁ s₂.heap→Q it s₂)→wpAny (model B.prog B.w) A (pyIter val) Q E s₁')→Q val s₁')→
  wpAny (model B.prog B.w) A (eval e env) Q E s
noncomputable def EvItS (β:Type)(B:Bs)(k:Nat)(G:Gl)(n:Nat):Prop:=∀ {cx σ e} {K:List PV→Option (Nat×Nat)→Sto→Option β} {r:β} {C:Prop},evItK G n cx σ e K=some r→(∀ items w σ₁,K items w σ₁=some r→It1 B k cx σ e items w σ₁→C)→C
structure DOk (B:Bs) (X:List Addr) (h₀:Heap) (D:Addr):Prop where
 h0:h₀.get? D=none
 x:D∉X
 t:D∉B.Tb
 b:B.h₀.get? D=none
structure CSt (B:Bs) (X:List Addr) (cx:Cx) (env:Env) (ρ₀:List Addr) (σ₀:Sto) (h₀:Heap) (J:Nat→Heap→Prop) (all items:List PV) (D:Addr) (done:List PV) (j:Nat) (ρ:List Addr) (σ:Sto) (s:Shared):Prop where
 st:St B ρ σ s
 evo:Evo B X ρ₀ σ₀ h₀ ρ σ s.heap
 fr:Fr B X cx env ρ s.heap
 at_:J j s.heap
 le:j≤all.length
 drop:all.drop j=items
 rho:D∉ρ
 acc:∃ vs,s.heap.PlainList D vs.toArray∧VRs B ρ s.heap done vs
structure CEnd (B:Bs) (X:List Addr) (env:Env) (ρ₀:List Addr) (σ₀:Sto) (h₀:Heap) (D:Addr) (xs:List PV) (σ':Sto) (ρ':List Addr) (s':Shared):Prop where
 st:St B ρ' σ' s'
 evo:Evo B X ρ₀ σ₀ h₀ ρ' σ' s'.heap
 ns:∃ m,s'.heap.Ns env.locals m
 own:env.locals∉ρ'
 rho:D∉ρ'
 acc:∃ vs,s'.heap.PlainList D vs.toArray∧VRs B ρ' s'.heap xs vs
noncomputable def CompR (B:Bs)(k:Nat)(cx:Cx)(σ:Sto)(elt tgt:Expr)(ifs:List Expr)(w:Option (Nat×Nat))(items xs:List PV)(σ':Sto):Prop:=
 ∀ A X env it iter scope pos all T ρ₀ σ₀ s₀ wr J D R,Itr B A it all w T ρ₀ σ₀ s₀ wr J→T tgt→Room k A→St B ρ₀ σ₀ s₀→DOk B X s₀.heap D→∀ done,(done++xs).length≤100000→
  (∀ ρ' s',CEnd B X env ρ₀ σ₀ s₀.heap D (done++xs) σ' ρ' s'→R (.ok .next) s')→∀ j ρ s,CSt B X cx env ρ₀ σ₀ s₀.heap J all items D done j ρ σ s→
  codeAny (model B.prog B.w) A (.compLoop (.ListComp elt [⟨tgt,iter,ifs,0⟩] scope pos) 0 it (.ref D) env) R s
noncomputable def CompS (β:Type)(B:Bs)(k:Nat)(G:Gl)(n:Nat):Prop:=∀ {cx σ elt tgt ifs w items} {K:List PV→Sto→Option β} {r:β} {C:Prop},evCompK G n cx σ elt tgt ifs w items K=some r→(∀ xs σ',K xs σ'=some r→CompR B k cx σ elt tgt ifs w items xs σ'→C)→C
theorem drop_cons {α:Type}{l:List α}{j:Nat}{a:α}{r:List α}(h:l.drop j=a::r):l[j]?=some a∧l.drop (j+1)=r:=by
 have h1:(l.drop j)[0]?=some a:=by rw[h]; rfl
 rw[List.getElem?_drop] at h1
 have h2:(l.drop j).drop 1=r:=by rw[h]; rfl
 rw[List.drop_drop] at h2
 exact⟨by simpa using h1,h2⟩
theorem drop_nil {α:Type}{l:List α}{j:Nat}(h:l.drop j=[]):l.length≤j:=by
 have:=congrArg List.length h
 simp at this
 lia
section
variable {cx cx':Cx}{σ σ₁ σ₂ σ₃:Sto}{elt tgt:Expr}{ifs:List Expr}{w:Option (Nat×Nat)}{rest xs:List PV}{v y:PV}
theorem list_off {A:Around}{it:Value}{items:List PV}{T:Expr→Prop}{ρ₀:List Addr}{σ₀:Sto}{s₀:Shared}{wr:List Addr}{J:Nat→Heap→Prop}(I:Itr B A it items w T ρ₀ σ₀ s₀ wr J){j:Nat}{h:Heap}(hJ:J j h){D:Addr}{vs:Array Value}(hp:h.PlainList D vs):D∉wr:=fun hm=>by
 obtain⟨m,hp⟩:=hp
 obtain⟨o,us,ho,hd,_⟩:=I.obj _ _ hJ D hm
 rw[hp] at ho; cases ho; cases hd
theorem comp_nil (ok:BsOk B)(hw:watch σ w=true):CompR B k cx σ elt tgt ifs w [] [] σ:=by
 intro A X env it iter scope pos all T ρ₀ σ₀ s₀ wr J D R I hT Rm x₀ dok done hlen q j ρ s c
 have hj:j=all.length:=Nat.le_antisymm c.le (drop_nil c.drop)
 subst hj
 obtain⟨vs,hpl,hvs⟩:=c.acc
 have hDwr:=list_off I c.at_ hpl
 refine codeAny_comp_turn (I.stop ok x₀ c.st c.evo c.fr c.at_ hw fun s' x' e' f' vk hk=>q ρ s' ⟨x',e',?_,(f'.ofX _ f'.own).1,c.rho,vs,hpl.imp fun _ h=>hk D _ hDwr h,by rw[List.append_nil]; exact VRs.vk vk _ hvs⟩)
 exact f'.loc.imp fun _ h=>h.1
theorem comp_skip (ok:BsOk B)(hw:watch σ w=true)(hb:bindT cx tgt v=some cx')(H1:T1 B k cx' σ (testTree ifs) σ₁ (fun _ _ b'=>b'=false))(H2:CompR B k cx' σ₁ elt tgt ifs w rest xs σ₂):CompR B k cx σ elt tgt ifs w (v::rest) xs σ₂:=by
 intro A X env it iter scope pos all T ρ₀ σ₀ s₀ wr J D R I hT Rm x₀ dok done hlen q j ρ s c
 obtain⟨hj,hrest⟩:=drop_cons c.drop
 obtain⟨vs,⟨m,hpl⟩,hvs⟩:=c.acc
 refine codeAny_comp_turn (I.turn ok Rm x₀ c.st c.evo c.fr hT hj c.at_ hw hb (fun v s' h=>h) fun s₃ t=>?_)
 have hpl₃:=t.kp D _ (list_off I c.at_ ⟨m,hpl⟩) c.rho dok.t dok.x hpl
 refine H1.use Rm t.st t.fr fun b ρ₄ s₄ x₄ e₄ f₄ hb4=>?_
 subst hb4
 rw[if_neg Bool.false_ne_true]
 exact H2 A X env it iter scope pos all T ρ₀ σ₀ s₀ wr J D R I hT Rm x₀ dok done hlen q (j+1) ρ₄ s₄ ⟨x₄,t.evo.trans e₄.weak,f₄,I.keepJ ok x₀ t.st t.j e₄,(List.getElem?_eq_some_iff.mp hj).1,hrest,e₄.notin c.rho hpl₃,vs,⟨m,e₄.kp.nil hpl₃ c.rho dok.t⟩,VRs.evo e₄ _ (VRs.vk t.vk _ hvs)⟩
theorem comp_take (ok:BsOk B)(hw:watch σ w=true)(hb:bindT cx tgt v=some cx')(H1:T1 B k cx' σ (testTree ifs) σ₁ (fun _ _ b'=>b'=true))(H2:E1 B k cx' σ₁ elt y σ₂)(H3:CompR B k cx' σ₂ elt tgt ifs w rest xs σ₃):CompR B k cx σ elt tgt ifs w (v::rest) (y::xs) σ₃:=by
 intro A X env it iter scope pos all T ρ₀ σ₀ s₀ wr J D R I hT Rm x₀ dok done hlen q j ρ s c
 obtain⟨hj,hrest⟩:=drop_cons c.drop
 obtain⟨vs,⟨m,hpl⟩,hvs⟩:=c.acc
 refine codeAny_comp_turn (I.turn ok Rm x₀ c.st c.evo c.fr hT hj c.at_ hw hb (fun v s' h=>h) fun s₃ t=>?_)
 have hpl₃:=t.kp D _ (list_off I c.at_ ⟨m,hpl⟩) c.rho dok.t dok.x hpl
 have hvs₃:=VRs.vk t.vk _ hvs
 refine H1.use Rm t.st t.fr fun b ρ₄ s₄ x₄ e₄ f₄ hb4=>?_
 subst hb4
 rw[if_pos rfl]
 refine H2.use Rm x₄ f₄ fun vy ρ₅ s₅ x₅ e₅ f₅ r₅=>?_
 have e45:=e₄.trans e₅
 have hpl₅:=e45.kp.nil hpl₃ c.rho dok.t
 have hD5:D∉ρ₅:=e45.notin c.rho hpl₃
 have hJ₅:=I.keepJ ok x₀ t.st t.j e45
 have hDwr:=list_off I hJ₅ ⟨m,hpl₅⟩
 have hl:vs.toArray.size≤100000:=by rw[show vs.toArray.size=done.length from hvs.length]; rw[List.length_append] at hlen; exact Nat.le_trans (Nat.le_add_right ..) hlen
 rw[List.append_cons] at hlen q
 refine wpAny_list_append_plain ⟨m,hpl₅⟩ (fun h' hp' hs'=>?_) (Nat.le_trans hl (by decide))
 have hp'':h'.PlainList D (vs++[vy]).toArray:=by rw[← List.push_toArray]; exact hp'
 have hkD:∀ b o,b∉[D]→s₅.heap.get? b=some o→h'.get? b=some o:=fun b o hb ho=>hs'.extBut b o (fun e=>hb (e▸List.mem_singleton_self _)) ho
 have one:∀ {a},a∈[D]→a=D:=List.mem_singleton.mp
 obtain⟨x₆,vk₆⟩:=x₅.alter ok (wr:=[D]) (h':=h') (tk:=s₅.toks) (fun a ha=>by
  rw[one ha]
  exact⟨hD5,dok.t,dok.b,fun o ho=>by rw[hpl₅] at ho; cases ho; exact⟨fun h=>(by simp at h),fun h=>(by simp at h)⟩⟩) hkD
 exact H3 A X env it iter scope pos all T ρ₀ σ₀ s₀ wr J D R I hT Rm x₀ dok (done++[y]) hlen q (j+1) ρ₅ _ ⟨x₆,(t.evo.trans e45.weak).alter (wr:=[D]) (fun a ha=>by rw[one ha]; exact dok.h0) hkD,
  f₅.vk' vk₆ (wr:=[D]) (fun a ha o ho=>by rw[one ha,hpl₅] at ho; cases ho; exact not_framy_seq rfl) hkD,I.frame _ _ _ hJ₅ fun b hb o ho=>hkD b o (fun hm=>hDwr (one hm▸hb)) ho,
  (List.getElem?_eq_some_iff.mp hj).1,hrest,hD5,vs++[vy],hp'',VRs.vk vk₆ _ (VRs.append (VRs.evo e45 _ hvs₃) ⟨vy,[],rfl,r₅,rfl⟩)⟩
end
theorem sound_comp {β:Type}(ok:BsOk B)(ih:EvS β B k G n)(iht:TestsS β B k G n)(ihc:CompS β B k G n):CompS β B k G (n+1):=fun {cx σ elt tgt ifs w items K r C} h c=>by
 refine onBt_el h fun hw h=>?_
 cases items with
 | nil=>exact c _ _ h (comp_nil ok hw)
 | cons v rest=>
  refine opt_el h fun cx' hb h=>iht h fun b σ₁ h H1=>onB_el h (fun e h=>?_) fun e h=>?_
  ·exact ih h fun y σ₂ h H2=>ihc h fun xs σ₃ h H3=>c _ _ h (comp_take ok hw hb (e▸H1) H2 H3)
  ·exact ihc h fun xs σ₂ h H3=>c _ _ h (comp_skip ok hw hb (e▸H1) H3)
end
section
variable {B:Bs}{k:Nat}{G:Gl}{n:Nat}
structure ScopeOk (cx:Cx) (scope:Scope):Prop where
 kind:scope.kind= .function
 cell:∀ x∈scope.names,x.2≠ .cell
 loc:∀ x∈scope.names,x.2= .local→scope.names.lookup x.1=some .local
 fre:∀ x∈scope.names,x.2= .free→scope.names.lookup x.1=some .free∧cx.names.lookup x.1=some .cell
theorem scopeOk_of {cx:Cx}{scope:Scope}(h:scopeOk cx scope=true):ScopeOk cx scope:=by
 unfold scopeOk at h
 rw[Bool.and_eq_true,List.all_eq_true] at h
 obtain⟨h1,h2⟩:=h
 have h3:∀ x∈scope.names,(x.2≠ .cell∧(x.2≠ .local∨scope.names.lookup x.1=some .local))∧(x.2≠ .free∨scope.names.lookup x.1=some .free∧cx.names.lookup x.1=some .cell):=fun x hx=>by
  have:=h2 x hx
  simpa only[Bool.and_eq_true,Bool.or_eq_true,bne_iff_ne,beq_iff_eq] using this
 exact⟨by simpa using h1,fun x hx=>(h3 x hx).1.1,fun x hx hl=>(h3 x hx).1.2.resolve_left fun h=>h hl,fun x hx hf=>(h3 x hx).2.resolve_left fun h=>h hf⟩
theorem closure_of {X:List Addr}{cx:Cx}{env:Env}{ρ:List Addr}{h:Heap}{scope:Scope}(f:Fr B X cx env ρ h)(so:ScopeOk cx scope):∀ x∈scope.names,x.2= .free→∃ c,env.cells.lookup x.1=some c:=fun x hx hf=>by
 obtain⟨_,c,w,hc,_⟩:=f.cel x.1 (so.fre x hx hf).2
 exact⟨c,hc⟩
noncomputable def cenvOf (scope:Scope)(C:Addr)(env:Env):Env:={ newEnv scope C env.globals (clo env scope.names []) env.qual none .none (some env) builtinsNs with scope:=relabel scope env }
theorem get_none_of {s:Shared}{h':Heap}{ρ ρ':List Addr}{σ σ':Sto}{X:List Addr}(e:Evo B X ρ σ s.heap ρ' σ' h'){a:Addr}(ha:h'.get? a=none):s.heap.get? a=none:=by
 cases e0:s.heap.get? a with
 | none=>rfl
 | some o=>obtain⟨o',ho'⟩:=e.kp.live a o e0; rw[ha] at ho'; exact nos ho'
theorem fresh_of (ok:BsOk B){ρ:List Addr}{σ:Sto}{s:Shared}(x:St B ρ σ s){a:Addr}(ha:s.heap.get? a=none):a∉ρ∧a∉B.Tb∧B.h₀.get? a=none:=by
 have ht:a∉B.Tb:=fun hm=>by obtain⟨o,ho⟩:=ok.tb _ x.inv _ hm; rw[ha] at ho; exact nos ho
 refine⟨fun hm=>?_,ht,?_⟩
 ·obtain⟨o,ho⟩:=x.alive hm; rw[ha] at ho; exact nos ho
 ·cases hb:B.h₀.get? a with
  | none=>rfl
  | some o=>rw[x.base a o hb ht] at ha; exact nos ha.symm
theorem comp_frame {X:List Addr}{cx:Cx}{env:Env}{ρ:List Addr}{σ:Sto}{s:Shared}{scope:Scope}(ok:BsOk B)(x:St B ρ σ s)(f:Fr B X cx env ρ s.heap)(so:ScopeOk cx scope){h':Heap}{m:Str→Option Value}{C:Addr}
  (hC:s.heap.get? C=none) (hn:h'.Ns C m) (hk:∀ b o,s.heap.get? b=some o→h'.get? b=some o):
  Fr B [C] ⟨scope.names,capt cx scope.names⟩ (cenvOf scope C env) ρ h':=by
 obtain⟨x',e⟩:=x.grow ok (s':={ s with heap:=h' }) rfl x.gens hk
 have f':=f.evo e
 have sub:=clo_sub scope.names [] (closure_of f so) (by simp)
 obtain⟨oC,es,ep,hoC,hdC,_⟩:=id hn
 have hkind:∀ {y:Str} {kd:NameKind},scope.names.lookup y=some kd→(cenvOf scope C env).kindOf y=some (rlab env y kd):=fun {y kd} hy=>relabel_lookup hy
 exact {
  kind:=by show scope.kind= .function; exact so.kind
  glob:=f.glob
  bt:=f.bt
  loc:=⟨m,hn,fun y hy=>⟨by rw[hkind hy]; rfl,fun v hv=>by
   obtain⟨hm,_,_⟩:=capt_lookup hv
   have:=(so.fre _ hm rfl).1
   dsimp only at hy
   rw[hy] at this; cases this⟩⟩
  cel:=fun y hy=>by
   exact absurd rfl (so.cell (y,.cell) (mem_of_lookup hy))
  fre:=fun y hy v hv=>by
   obtain⟨hm,hcell,hle⟩:=capt_lookup hv
   obtain⟨hkc,c,w,hc,_,hw,hvv⟩:=f'.cel y hcell
   obtain⟨val,rfl,hr⟩:=hvv v hle
   refine⟨.inl ?_,c,val,?_,hw,hr⟩
   ·rw[hkind hy]
    unfold rlab
    rw[f.kind,hkc]; rfl
   ·have hs:=clo_has scope.names [] y (.inl hm) (env:=env)
    obtain⟨c',hc'⟩:=Option.isSome_iff_exists.mp hs
    have:=sub y c' hc'
    rw[hc] at this; cases this
    exact hc'
  glb:=fun y hy=>by rw[hkind hy]; rfl
  dom:=fun y v hv=>by
   obtain⟨hm,_,_⟩:=capt_lookup hv
   exact .inr (.inr (so.fre _ hm rfl).1)
  own:=by show C∈[C]; simp
  ofX:=fun a ha=>by
   rw[List.mem_singleton.mp ha]
   have h:=fresh_of ok x hC
   exact⟨h.1,h.2.1,h.2.2,oC,hoC,.inl ⟨_,_,hdC⟩⟩
  ofc:=fun y c hc=>f'.ofc y c (sub y c hc)
  apart:=fun y z c hy hz=>f'.apart y z c (sub y c hy) (sub z c hz) }
structure CK (B:Bs) (ρ:List Addr) (σ:Sto) (h₀:Heap) (σ₂:Sto) (xs:List PV) (s':Shared) (ρ':List Addr) (D C:Addr):Prop where
 st:St B ρ' σ₂ s'
 evo:Evo B [] ρ σ h₀ ρ' σ₂ s'.heap
 c0:h₀.get? C=none
 d0:h₀.get? D=none
 ne:C≠D
 cr:C∉ρ'
 ct:C∉B.Tb
 cb:B.h₀.get? C=none
 dr:D∉ρ'
 dt:D∉B.Tb
 db:B.h₀.get? D=none
 ns:∃ m,s'.heap.Ns C m
 acc:∃ vs,s'.heap.PlainList D vs.toArray∧VRs B ρ' s'.heap xs vs
theorem comp_core (ok:BsOk B){cx:Cx}{σ σ₁ σ₂:Sto}{elt tgt iter:Expr}{ifs:List Expr}{scope:Scope}{pos cpos:Pos}{items:List PV}{w:Option (Nat×Nat)}{xs:List PV}
  (hsc:scopeOk cx scope=true) (hit:iterOk iter tgt=true) (hi:It1 B k cx σ iter items w σ₁) (hc:CompR B k ⟨scope.names,capt cx scope.names⟩ σ₁ elt tgt ifs w items xs σ₂) (hlen:xs.length≤100000)
  {A:Around} {X:List Addr} {env:Env} {ρ:List Addr} {s:Shared} (R:Room k A) (x:St B ρ σ s) (f:Fr B X cx env ρ s.heap) {use:Option (Value→Sem Unit)} {Q:Value→Shared→Prop} {E:Value→Shared→Prop}
  (K:∀ s' ρ' D C,CK B ρ σ s.heap σ₂ xs s' ρ' D C→compPost (model B.prog B.w) A E use Q (.ref D) C (.ok .next) s'):
  wpAny (model B.prog B.w) A (comprehension (.ListComp elt [⟨tgt,iter,ifs,0⟩] scope pos) scope env cpos (newList []) false (eval iter env) use) Q E s:=by
 have so:=scopeOk_of hsc
 refine wpAny_comprehension_free (use:=use) (g:=⟨tgt,iter,ifs,0⟩) (gs:=[]) rfl (hi.fold env) (closure_eq (closure_of f so)) so.kind so.loc ?_
 refine hi.run A X env ρ s R x f _ _ fun val s₁' ρ₁ s₁ x₁ e₁ hiter=>?_
 refine hiter _ _ fun it s₂ wr J T I hT hJ x₂ e₂=>?_
 refine wpAny_newObj_type (wpAny_newFunctionEnv so.cell (by intro y hy; simp at hy) (fun h₁ hns₁ hsb₁=>?_) so.kind)
 dsimp only at hns₁ hsb₁ ⊢
 generalize hH2:s₂.heap.push { cls:= .type "list",dict:=none,data:= .seq ([]:List Value).toArray }=H2 at hns₁ hsb₁ ⊢
 have hCs:H2.objs.size=s₂.heap.objs.size+1:=by rw[← hH2,Heap.size_push]
 have hDC:s₂.heap.objs.size≠H2.objs.size:=by rw[hCs]; exact Nat.ne_of_lt (Nat.lt_succ_self _)
 have h2none:∀ a,s₂.heap.objs.size≤a→s₂.heap.get? a=none:=fun a ha=>by
  cases e:s₂.heap.get? a with
  | none=>rfl
  | some o'=>exact absurd (Heap.lt_size e) (Nat.not_lt.mpr ha)
 have hk2:∀ b o,s₂.heap.get? b=some o→h₁.get? b=some o:=fun b o ho=>
  hsb₁.extBut b o (by rw[hCs]; exact Nat.ne_of_lt (Nat.lt_succ_of_lt (Heap.lt_size ho))) (Heap.get?_push_of_some _ (hH2▸Heap.get?_push_of_some _ ho))
 obtain⟨x₃,e₃⟩:=x₂.grow ok (s':={ s₂ with heap:=h₁,toks:=s₂.toks+([]:List (Str×Value)).length }) rfl x₂.gens hk2
 have hD:=h2none _ (Nat.le_refl s₂.heap.objs.size)
 have hC:=h2none H2.objs.size (by rw[hCs]; exact Nat.le_succ _)
 have fc:=comp_frame ok x₂ (f.evo (e₁.trans e₂)) so hC hns₁ hk2
 have hacc:h₁.PlainList s₂.heap.objs.size #[]:=⟨_,hsb₁.extBut _ _ hDC (Heap.get?_push_of_some _ (hH2▸Heap.get?_push_size _ rfl))⟩
 obtain⟨fC1,fC2,fC3⟩:=fresh_of ok x₂ hC
 obtain⟨fD1,fD2,fD3⟩:=fresh_of ok x₂ hD
 have J₃:J 0 h₁:=I.frame _ _ _ hJ fun b _ o ho=>hk2 b o ho
 have bC:=get_none_of e₂ hC
 have bD:=get_none_of e₂ hD
 have loop:=hc A [H2.objs.size] (cenvOf scope H2.objs.size env) it iter scope pos items T ρ₁ σ₁ s₁ wr J s₂.heap.objs.size (compPost (model B.prog B.w) A E use Q (.ref s₂.heap.objs.size) H2.objs.size) I (hT _ hit) R x₁
  ⟨bD,fun hm=>hDC (List.mem_singleton.mp hm),fD2,fD3⟩ [] hlen (fun ρ' s' c=>K s' ρ' _ _ ⟨c.st,e₁.trans (c.evo.forget fun a ha=>by rw[List.mem_singleton.mp ha]; exact bC),get_none_of e₁ bC,get_none_of e₁ bD,Ne.symm hDC,c.own,fC2,fC3,c.rho,fD2,fD3,c.ns,c.acc⟩)
  0 ρ₁ { s₂ with heap:=h₁,toks:=s₂.toks+([]:List (Str×Value)).length } ⟨x₃,(e₂.trans e₃).weak,fc,J₃,Nat.zero_le _,rfl,fD1,[],hacc,rfl⟩
 refine codeAny_compStart_list loop ?_
 exact wpAny_mono (I.self 0 _ (fun it' s'=>it'=it∧s'={ s₂ with heap:=h₁,toks:=s₂.toks+([]:List (Str×Value)).length }) (fun _ _=>False) J₃ ⟨rfl,rfl⟩) (fun _ _ h=>by rw[h.1,h.2]; exact loop) fun _ _ e=>e.elim
end
section
variable {B:Bs}{k:Nat}{G:Gl}{n:Nat}
theorem ns_data {h:Heap}{a:Addr}{m}(hn:h.Ns a m){o:Obj}(ho:h.get? a=some o):(o.cls= .type "tuple"→∀ vs n,o.data≠ .seq vs n)∧(o.cls= .type "code"→∀ vs,o.data≠ .fields vs):=by
 obtain⟨o',es,ep,ho',hd,_⟩:=hn
 rw[ho] at ho'; cases ho'
 exact⟨fun _ vs n e=>(by rw[hd] at e; cases e),fun _ vs e=>(by rw[hd] at e; cases e)⟩
theorem comp_adopt (ok:BsOk B){ρ ρ':List Addr}{σ σ₂:Sto}{h₀:Heap}{s':Shared}{X:List Addr}{D:Addr}{xs:List PV}(x:St B ρ' σ₂ s')(e:Evo B X ρ σ h₀ ρ' σ₂ s'.heap)(h0:h₀.get? D=none)(hρ:D∉ρ')(ht:D∉B.Tb)(hb:B.h₀.get? D=none)
  {vs:List Value} (hp:s'.heap.PlainList D vs.toArray) (hr:VRs B ρ' s'.heap xs vs):
  St B (ρ'++[D]) (σ₂++[⟨0,.lst xs⟩]) s'∧Evo B X ρ σ h₀ (ρ'++[D]) (σ₂++[⟨0,.lst xs⟩]) s'.heap∧(ρ'++[D])[σ₂.length]?=some D∧Vk B ρ' s'.heap (ρ'++[D]) s'.heap:=by
 obtain⟨m,ho⟩:=id hp
 exact x.adopt ok e h0 hρ ht hb ho (by simp) fun ρ'' vk=>⟨vs,hp,VRs.vk vk _ hr⟩
theorem sing_keep {C:Addr}{h h':Heap}(hs:Heap.SameBut C h h'):∀ b o,b∉[C]→h.get? b=some o→h'.get? b=some o:=fun b o hb ho=>hs.extBut b o (fun e=>hb (e▸List.mem_singleton_self _)) ho
theorem comp_drop (ok:BsOk B){C:Addr}{ρ:List Addr}{σ:Sto}{s:Shared}{m}(x:St B ρ σ s)(hn:s.heap.Ns C m)(h1:C∉ρ)(h2:C∉B.Tb)(h3:B.h₀.get? C=none){h':Heap}(hs:Heap.SameBut C s.heap h'):
  St B ρ σ { s with heap:=h' }∧Vk B ρ s.heap ρ h':=
 x.alter ok (wr:=[C]) (h':=h') (tk:=s.toks) (fun a ha=>by rw[List.mem_singleton.mp ha]; exact⟨h1,h2,h3,fun o ho=>ns_data hn ho⟩) (sing_keep hs)
theorem sound_ListComp (ok:BsOk B){cx:Cx}{σ σ₁ σ₂:Sto}{elt tgt iter:Expr}{ifs:List Expr}{scope:Scope}{pos:Pos}{items:List PV}{w:Option (Nat×Nat)}{xs:List PV}
  (hsc:scopeOk cx scope=true) (hit:iterOk iter tgt=true) (hi:It1 B k cx σ iter items w σ₁) (hc:CompR B k ⟨scope.names,capt cx scope.names⟩ σ₁ elt tgt ifs w items xs σ₂) (hlen:xs.length≤100000):
  E1 B k cx σ (.ListComp elt [⟨tgt,iter,ifs,0⟩] scope pos) (.lst σ₂.length) (σ₂++[⟨0,.lst xs⟩]):=by
 intro A X env ρ s R x f
 show wpAny _ A (eval _ env) _ _ s
 rw[eval_ListComp]
 show wpAny _ A (comprehension (.ListComp elt [⟨tgt,iter,ifs,0⟩] scope pos) scope env _ (newList []) false (eval iter env) none) _ _ s
 refine comp_core ok hsc hit hi hc hlen R x f fun s' ρ' D C K=>?_
 obtain⟨m,hm⟩:=K.ns
 obtain⟨vs,hp,hvs⟩:=K.acc
 refine⟨m,hm,fun h' hs'=>?_⟩
 obtain⟨x₁,vk₁⟩:=comp_drop ok K.st hm K.cr K.ct K.cb hs'
 obtain⟨x₂,e₂,hat,_⟩:=comp_adopt ok x₁ (K.evo.alter (wr:=[C]) (fun a ha=>by rw[List.mem_singleton.mp ha]; exact K.c0) (sing_keep hs')) K.d0 K.dr K.dt K.db (hp.at fun o ho=>hs'.extBut D o (Ne.symm K.ne) ho) (VRs.vk vk₁ _ hvs)
 exact⟨_,x₂,e₂,D,rfl,hat⟩
theorem inv_ListComp {β:Type}{r:β}(ihc:CompS β B k G n)(ihi:EvItS β B k G n){cx:Cx}{σ:Sto}{elt:Expr}{gens:List Comprehension}{scope:Scope}{p:Pos}{K:PV→Sto→Option β}{C:Prop}(h:evK G (n+1) cx σ (.ListComp elt gens scope p) K=some r)
  (c:∀ tgt iter ifs items w σ₁ xs σ₂,gens=[⟨tgt,iter,ifs,0⟩]→scopeOk cx scope=true→iterOk iter tgt=true→It1 B k cx σ iter items w σ₁→CompR B k ⟨scope.names,capt cx scope.names⟩ σ₁ elt tgt ifs w items xs σ₂→xs.length≤100000→
   K (.lst σ₂.length) (σ₂++[⟨0,.lst xs⟩])=some r→C):C:=by
 obtain⟨g,hg,h⟩:=one_some h
 obtain⟨tgt,iter,ifs,asy⟩:=g
 exact grd_el h fun hc h=>ihi h fun items w σ₁ h H1=>ihc h fun xs σ₂ h H2=>grd_el h fun hl h=>c tgt iter ifs items w σ₁ xs σ₂ (hc.1▸hg) hc.2.1 hc.2.2 H1 H2 hl h
theorem sound_ev {β:Type}(ok:BsOk B){mg mb}(gok:GlOk B k G mg mb)(ih:EvS β B k G n)(ihs:EvsS β B k G n)(iho:EvOS β B k G n)(iht:IsTS β B k G n)(ihc:CompS β B k G n)(ihi:EvItS β B k G n):EvS β B k G (n+1):=fun {cx σ e K r C} h c=>by
 cases e with
 | Constant cc kk pos=>exact opt_el h fun u hc h=>c _ _ h (sound_const hc)
 | Name y pos=>
  obtain⟨v,h,hd,hv⟩:=nameK_some h
  exact c _ _ h (name_ok gok hd hv)
 | BinOp l op e₂ pos=>
  refine ih h fun a σ₁ h H1=>ih h fun b σ₂ h H2=>?_
  obtain⟨v,σ',h,hb⟩:=binLK_some ok h
  exact c _ _ h (sound_BinOp H1 H2 hb)
 | UnaryOp op y pos=>cases op with
  | USub=>exact ih h fun v σ₁ h H1=>onInt_ind (P:=fun v=>E1 B k cx σ y v σ₁→C) h (fun i h H1=>c _ _ h (sound_neg H1)) H1
  | Not=>exact ih h fun v σ₁ h H1=>truthK_el h fun t h ht=>c _ _ h (sound_not H1 ht)
  | _=>exact nos h
 | IfExp t a b pos=>
  refine iht h fun d σ₁ h H1=>onB_el h (fun e h=>?_) fun e h=>?_
  ·exact ih h fun v σ₂ h H2=>c _ _ h (sound_ifT (e▸H1) H2)
  ·exact ih h fun v σ₂ h H2=>c _ _ h (sound_ifF (e▸H1) H2)
 | BoolOp op vs pos=>
  obtain⟨y,z,rfl,h1⟩:=two_some h
  refine ih h1 fun u σ₁ h H1=>truthK_el (B:=B) h fun t h ht=>?_
  cases op with
  | And=>exact onB_el h (fun e h=>ih h fun v σ₂ h H2=>c _ _ h (sound_andT H1 (e▸ht) H2)) fun e h=>c _ _ h (sound_andF H1 (e▸ht))
  | Or=>exact onB_el h (fun e h=>c _ _ h (sound_orT H1 (e▸ht))) fun e h=>ih h fun v σ₂ h H2=>c _ _ h (sound_orF H1 (e▸ht) H2)
 | Compare l ops rs pos=>
  refine one_ind (P:=fun ops=>(∀ v σ',K v σ'=some r→E1 B k cx σ (.Compare l ops rs pos) v σ'→C)→C) h (fun op h=>one_ind (P:=fun rs=>(∀ v σ',K v σ'=some r→E1 B k cx σ (.Compare l [op] rs pos) v σ'→C)→C) h fun d h c=>?_) c
  refine onBn_el h fun hm h=>orElse_el h (fun S hS h=>?_) fun _ h=>?_
  ·exact ih h fun v σ₁ h H1=>onInt_ind (P:=fun v=>E1 B k cx σ l v σ₁→C) h (fun i h H1=>c _ _ h (sound_inSet gok hm hS H1)) H1
  ·exact ih h fun a σ₁ h H1=>ih h fun b σ₂ h H2=>opt_el h fun t ht h=>c _ _ h (sound_cmp hm H1 H2 ht)
 | Tuple es kk pos=>exact grd_el h fun hl h=>ihs h fun vs σ₁ h H=>c _ _ h (sound_Tuple ok hl H)
 | List es pos=>exact grd_el h fun hl h=>ihs h fun vs σ₁ h H=>c _ _ h (sound_List ok hl H)
 | Dict ks vs pos=>
  obtain⟨rfl,h1⟩:=noneL_some h
  obtain⟨rfl,h2⟩:=noneL_some h1
  exact c _ _ h2 (sound_Dict ok)
 | Subscript val sl pos=>
  rcases sliceOr_some h with⟨lo,hi,st,p,rfl,h1⟩ | ⟨hs,h1⟩
  ·refine ih h1 fun a σ₁ h H1=>iho h fun l σ₂ h H2=>iho h fun hh σ₃ h H3=>iho h fun kk σ₄ h H4=>?_
   obtain⟨v,σ',h,hb⟩:=sliK_some ok h
   exact c _ _ h (sound_slice ok H1 H2 H3 H4 hb)
  ·refine ih h1 fun a σ₁ h H1=>ih h fun i σ₂ h H2=>?_
   obtain⟨v,h,hb⟩:=subK_some h
   exact c _ _ h (sound_sub hs H1 H2 hb)
 | Call f args kws pos=>
  obtain⟨rfl,h1⟩:=noneL_some h
  refine callee_ind (P:=fun f=>(∀ v σ',K v σ'=some r→E1 B k cx σ (.Call f args [] pos) v σ'→C)→C) h1 (fun g p h c=>?_) (fun o m apos h c=>?_) c
  ·obtain⟨hd,hk,h⟩:=globK_some h
   rcases ite_some h with⟨rfl,h⟩ | ⟨_,h⟩
   ·obtain⟨a,t,rfl,h⟩:=two_some h
    obtain⟨tp,rfl,hkt,h⟩:=isListK_some h
    exact ih h fun v σ₁ h1 H1=>onLst_ind (P:=fun v=>E1 B k cx σ a v σ₁→C) h1 (fun i h2 H1=>opt_el h2 fun xs hx h2=>c _ _ h2 (sound_isinstance gok hd hk hkt (evK_star h) H1 hx)) H1
   ·refine ihs h fun vs σ₁ h H=>orElse_el h (fun F hF h=>?_) fun _ h=>?_
    ·obtain⟨f,hf,fok⟩:=gok.fn g F hF
     exact liftK_el h fun v σ' e h=>c _ _ h (sound_callv gok hd hk H (.inl hf) fok.able fun A ρ s vals R x r=>fok.run A ρ _ s vs vals v σ' R x r e)
    ·obtain⟨f,v,σ',h,hf,able,run⟩:=bK_some gok h
     exact c _ _ h (sound_callv gok hd hk H (.inr (gok.bg _ _ hf)) able run)
  ·refine grd_el h fun hc h=>orElse_el h (fun T hT h=>?_) fun _ h=>?_
   ·refine ihs h fun vs σ₁ h H=>one_ind (P:=fun vs=>Es B k cx σ args vs σ₁→C) h (fun v h H=>onInt_ind (P:=fun v=>Es B k cx σ args [v] σ₁→C) h (fun i h H=>?_) H) H
    have E:=sound_tabGet gok hc.1 hc.2.2 hT H
    cases hTi:T i with
    | none=>rw[hTi] at h E; exact c _ _ h E
    | some x=>rw[hTi] at h E; exact c _ _ h E
   ·exact ih h fun a σ₁ h H1=>ihs h fun vs σ₂ h H2=>grd_el h fun hk h=>sound_method hc.1 hc.2.1 hc.2.2 ok gok h H1 H2 hk.1 hk.2 c
 | ListComp elt gens scope pos=>
  refine inv_ListComp ihc ihi h fun tgt iter ifs items w σ₁ xs σ₂ hg h1 h2 H1 H2 hl h3=>?_
  subst hg
  exact c _ _ h3 (sound_ListComp ok h1 h2 H1 H2 hl)
 | _=>exact nos h
end
noncomputable def pairTypes:List String:=["enumerate","zip","dict_itemiterator","dict_reverseitemiterator","odict_iterator","itertools.zip_longest","itertools.pairwise"]
theorem pair_no {T:String}(hT:pairTypes.contains T=false){b:Bool}:¬ ((["enumerate","zip","dict_itemiterator","dict_reverseitemiterator","odict_iterator","itertools.zip_longest","itertools.pairwise"].contains T&&b)=true):=fun h'=>by
 rw[show (["enumerate","zip","dict_itemiterator","dict_reverseitemiterator","odict_iterator","itertools.zip_longest","itertools.pairwise"].contains T)=false from hT,Bool.false_and] at h'
 cases h'
theorem letOwned_data {M:Model}{A:Around}{E:Value→Shared→Prop}{s:Shared}{t:Expr}{I:Addr}{v:Value}{o:Obj}{T:String}{Q:Unit→Shared→Prop}(ht:(∃ a b c,t= .Tuple a b c)∨∃ a c,t= .List a c)(ho:s.heap.get? I=some o)(hc:o.cls= .type T)(hT:pairTypes.contains T=false)(h:Q () s):
  wpAny M A (letOwnedTupleGo t (.ref I) v) Q E s:=by
 have core:∀ a,wpAny M A (letOwnedTupleGo (.Tuple [] 0 default) (.ref I) (.ref a)) Q E s:=fun a=>by
  refine wpAny_bind (wpAny_load ho ?_)
  obtain⟨cl,dc,dd,sl⟩:=o
  obtain rfl:cl= .type T:=hc
  cases dd with
  | fields vs=>exact wpAny_ite_false (decide_eq_false (pair_no hT)) (wpAny_pure h)
  | _=>exact wpAny_pure h
 rcases ht with⟨a,b,c,rfl⟩ | ⟨a,c,rfl⟩
 ·cases v with
  | ref a=>exact core a
  | _=>exact wpAny_pure h
 ·cases v with
  | ref a=>exact core a
  | _=>exact wpAny_pure h
theorem letOwned_plain {M:Model}{A:Around}{E:Value→Shared→Prop}{s:Shared}{t:Expr}{I:Addr}{v:Value}{o:Obj}{T:String}{Q:Unit→Shared→Prop}(ho:s.heap.get? I=some o)(hc:o.cls= .type T)(hT:pairTypes.contains T=false)(h:Q () s):
  wpAny M A (letOwnedTupleGo t (.ref I) v) Q E s:=by
 cases t with
 | Tuple a b c=>exact letOwned_data (.inl ⟨a,b,c,rfl⟩) ho hc hT h
 | List a c=>exact letOwned_data (.inr ⟨a,c,rfl⟩) ho hc hT h
 | _=>exact wpAny_pure h
section
variable {B:Bs}{A:Around}{ρ₀:List Addr}{σ₀:Sto}{s₀:Shared}
theorem sameBut_keep {I:Addr}{h h':Heap}(hs:Heap.SameBut I h h'):∀ b o,b∉[I]→h.get? b=some o→h'.get? b=some o:=fun b o hb ho=>hs.extBut b o (by simpa using hb) ho
theorem extBut_keep {I:Addr}{h h':Heap}(hs:Heap.ExtBut I h h'):∀ b o,b∉[I]→h.get? b=some o→h'.get? b=some o:=fun b o hb ho=>hs b o (by simpa using hb) ho
theorem alter_vr {wr ρ:List Addr}{h h':Heap}(hobj:∀ a∈wr,∃ o vs,h.get? a=some o∧o.data= .fields vs∧o.cls≠ .type "tuple"∧o.cls≠ .type "code")(hk:∀ b o,b∉wr→h.get? b=some o→h'.get? b=some o){pv:PV}{v:Value}
  (r:VR B ρ h pv v):VR B ρ h' pv v:=VR.vk ⟨fun _ _ e=>e,fun a o vs n ho hc _ h1 _=>⟨hk a o (fun hm=>by
   obtain⟨o',_,ho',_,hc',_⟩:=hobj a hm
   rw[ho] at ho'; cases ho'; exact hc' hc) ho,h1⟩⟩ _ r
theorem Itr.str {I:Addr}{x:Str}{t:Tok}{ty:String}(hh:A.handled=none)(hty:ty="str_ascii_iterator"∨ty="str_iterator")(hI:s₀.heap.get? I=none):
  Itr B A (.ref I) (signs x) none (fun _=>True) ρ₀ σ₀ s₀ [I] (fun i h=>h.IsStrIter I ty x t i):=by
 have hobj:∀ (j:Nat) (h:Heap),h.IsStrIter I ty x t j→∀ a∈[I],∃ o vs,h.get? a=some o∧o.data= .fields vs∧o.cls≠ .type "tuple"∧o.cls≠ .type "code":=fun j h ⟨o,ho,hc,hd⟩ a ha=>by
  simp at ha; subst ha
  refine⟨o,_,ho,hd,?_,?_⟩ <;> rw[hc] <;> rcases hty with rfl | rfl <;> decide
 have hsig:∀ (j:Nat) (pv:PV),(signs x)[j]?=some pv→∃ c,x.cps[j]?=some c∧pv=PV.str ⟨#[c]⟩:=fun j pv hj=>by
  unfold signs at hj
  rw[List.getElem?_map] at hj
  cases hc:x.cps.toList[j]? with
  | none=>rw[hc] at hj; cases hj
  | some c=>rw[hc] at hj; cases hj; exact⟨c,by simpa using hc,rfl⟩
 exact {
  fresh:=fun a ha=>by simp at ha; subst ha; exact hI
  obj:=hobj
  frame:=fun j h h' ⟨o,ho,r⟩ hk=>⟨o,hk I (by simp) o ho,r⟩
  self:=fun j s Q E st hQ=>by
   rcases hty with rfl | rfl
   ·exact wpAny_pyIter_striter_ascii st hQ
   ·exact wpAny_pyIter_striter_wide st hQ
  next:=fun j pv X ρ σ s tg _ hj e xs st hw=>by
   obtain⟨c,hc,rfl⟩:=hsig j pv hj
   have fin:∀ h' tk,h'.IsStrIter I ty x t (j+1)→Heap.SameBut I s.heap h'→wpAny (model B.prog B.w) A (letOwnedTupleGo tg (.ref I) (.str ⟨#[c]⟩ s.toks)) (fun _ s''=>∃ h'' tk',s''={ s with heap:=h'',toks:=tk' }∧
     (∀ b o,b∉[I]→s.heap.get? b=some o→h''.get? b=some o)∧h''.IsStrIter I ty x t (j+1)∧VR B ρ h'' (.str ⟨#[c]⟩) (.str ⟨#[c]⟩ s.toks)) (fun _ _=>False) { s with heap:=h',toks:=tk }:=fun h' tk hit hs'=>by
    obtain⟨o,ho,hcl,hd⟩:=id hit
    exact letOwned_plain ho hcl (by rcases hty with rfl | rfl <;> decide) ⟨h',tk,rfl,sameBut_keep hs',hit,_,rfl⟩
   rcases hty with rfl | rfl
   ·exact wpAny_pyNext_ascii_item st hc fun h' hit hs'=>⟨_,rfl,fin h' _ hit hs'⟩
   ·exact wpAny_pyNext_wide_item st hc fun h' hit hs'=>⟨_,rfl,fin h' _ hit hs'⟩
  done:=fun X ρ σ s e xs st hw=>by
   have hlen:(signs x).length=x.cps.size:=by simp[signs]
   rw[hlen] at st
   rcases hty with rfl | rfl
   ·exact wpAny_pyNext_ascii_end hh st (by simp) fun h' he'=>⟨rfl,h',s.toks,rfl,extBut_keep he'⟩
   ·exact wpAny_pyNext_wide_end hh st (by simp) fun h' he'=>⟨rfl,h',s.toks,rfl,extBut_keep he'⟩ }
theorem Itr.range {I:Addr}{a c:Int}{n:Nat}(hh:A.handled=none)(hI:s₀.heap.get? I=none):
  Itr B A (.ref I) ((List.range n).map fun (k:Nat)=> .int (a+c * (k:Int))) none (fun _=>True) ρ₀ σ₀ s₀ [I] (fun i h=>IsRangeIter h I (a+(i:Nat) * c) ((n:Int) - (i:Nat)) c):=by
 have hobj:∀ (j:Nat) (h:Heap),IsRangeIter h I (a+(j:Nat) * c) ((n:Int) - (j:Nat)) c→∀ b∈[I],∃ o vs,h.get? b=some o∧o.data= .fields vs∧o.cls≠ .type "tuple"∧o.cls≠ .type "code":=fun j h ho b hb=>by
  simp at hb; subst hb
  exact⟨_,_,ho,rfl,by simp,by simp⟩
 exact {
  fresh:=fun b hb=>by simp at hb; subst hb; exact hI
  obj:=hobj
  frame:=fun j h h' ho hk=>hk I (by simp) _ ho
  self:=fun j s Q E st hQ=>wpAny_pyIter_rangeiter st hQ
  next:=fun j pv X ρ σ s tg _ hj e xs st hw=>by
   rw[List.getElem?_map] at hj
   have hjn:j < n:=by
    rcases Nat.lt_or_ge j n with h | h
    ·exact h
    ·rw[List.getElem?_eq_none (by simpa using h)] at hj; cases hj
   rw[List.getElem?_range hjn] at hj
   cases hj
   refine wpAny_pyNext_range_item st (by lia) fun h' hit' hs'=>⟨_,rfl,?_⟩
   have e1:a+((j+1:Nat):Int) * c=a+(j:Int) * c+c:=by push_cast; rw[Int.add_mul,Int.one_mul,Int.add_assoc]
   have e2:(n:Int) - ((j+1:Nat):Int)=(n:Int) - (j:Int) - 1:=by push_cast; lia
   refine letOwned_plain (T:="range_iterator") hit' rfl (by decide) ⟨h',_,rfl,sameBut_keep hs',?_,s.toks,?_⟩
   ·show IsRangeIter h' I _ _ c
    rw[e1,e2]; exact hit'
   ·show Value.int _ _=Value.int _ _
    rw[Int.mul_comm c]
  done:=fun X ρ σ s e xs st hw=>by
   have hlen:((List.range n).map fun (k:Nat)=>PV.int (a+c * (k:Int))).length=n:=by simp
   rw[hlen] at st
   exact wpAny_pyNext_range_end hh st (by lia) fun h' he'=>⟨rfl,h',s.toks,rfl,extBut_keep he'⟩ }
theorem Itr.tuple {I t:Addr}{xs:List PV}{vs:Array Value}(hh:A.handled=none)(x₀:St B ρ₀ σ₀ s₀)(hI:s₀.heap.get? I=none)(ht:s₀.heap.IsTuple t vs)(h1:t∉ρ₀)(h2:t∉B.Tb)(hr:VRs B ρ₀ s₀.heap xs vs.toList):
  Itr B A (.ref I) xs none (fun _=>True) ρ₀ σ₀ s₀ [I] (fun i h=>h.IsTupleIter I t i):=by
 have hobj:∀ (j:Nat) (h:Heap),h.IsTupleIter I t j→∀ b∈[I],∃ o vs,h.get? b=some o∧o.data= .fields vs∧o.cls≠ .type "tuple"∧o.cls≠ .type "code":=fun j h ⟨o,ho,hc,hd⟩ b hb=>by
  simp at hb; subst hb
  exact⟨o,_,ho,hd,by rw[hc]; decide,by rw[hc]; decide⟩
 have keepT:∀ {X ρ:List Addr} {σ:Sto} {h:Heap},Evo B X ρ₀ σ₀ s₀.heap ρ σ h→h.IsTuple t vs:=fun e=>by
  obtain⟨o,ho,hc,n,hd⟩:=id ht
  exact⟨o,(e.vk.tup t o vs n ho hc hd h1 h2).1,hc,n,hd⟩
 have hlen:vs.size=xs.length:=by have:=hr.length; simpa using this
 exact {
  fresh:=fun b hb=>by simp at hb; subst hb; exact hI
  obj:=hobj
  frame:=fun j h h' ⟨o,ho,r⟩ hk=>⟨o,hk I (by simp) o ho,r⟩
  self:=fun j s Q E st hQ=>wpAny_pyIter_tupleiter st hQ
  next:=fun j pv X ρ σ s tg _ hj e x st hw=>by
   obtain⟨v,hv,hvr⟩:=hr.get hj
   refine wpAny_pyNext_tuple_item st (keepT e) (by simpa using hv) fun h' hit' hs'=>⟨v,rfl,?_⟩
   obtain⟨o,ho,hc,hd⟩:=id hit'
   exact letOwned_plain ho hc (by decide) ⟨h',s.toks,rfl,sameBut_keep hs',hit',alter_vr (hobj j _ st) (sameBut_keep hs') (VR.evo e _ hvr)⟩
  done:=fun X ρ σ s e x st hw=>wpAny_pyNext_tuple_end hh st (keepT e) (by simp[hlen]) fun h' he'=>⟨rfl,h',s.toks,rfl,extBut_keep he'⟩ }
theorem Itr.list {I l:Addr}{i ver:Nat}{xs:List PV}{vs:List Value}{c:Cell}(hh:A.handled=none)(x₀:St B ρ₀ σ₀ s₀)(hI:s₀.heap.get? I=none)(hc:σ₀[i]?=some c)(hv:c.ver=ver)(hl:ρ₀[i]?=some l)
  (hp:s₀.heap.PlainList l vs.toArray) (hr:VRs B ρ₀ s₀.heap xs vs):
  Itr B A (.ref I) xs (some (i,ver)) (fun _=>True) ρ₀ σ₀ s₀ [I] (fun j h=>h.IsListIter I l j):=by
 have hobj:∀ (j:Nat) (h:Heap),h.IsListIter I l j→∀ b∈[I],∃ o vs,h.get? b=some o∧o.data= .fields vs∧o.cls≠ .type "tuple"∧o.cls≠ .type "code":=fun j h ⟨o,ho,hc,hd⟩ b hb=>by
  simp at hb; subst hb
  exact⟨o,_,ho,hd,by rw[hc]; decide,by rw[hc]; decide⟩
 have keepL:∀ {X ρ:List Addr} {σ:Sto} {h:Heap},Evo B X ρ₀ σ₀ s₀.heap ρ σ h→watch σ (some (i,ver))=true→h.IsList l vs.toArray:=fun {X ρ σ h} e hw=>by
  obtain⟨c',h1,h2,h3⟩:=e.ver i c hc
  unfold watch at hw
  simp only[h1] at hw
  have hve:c'.ver=ver:=Nat.eq_of_beq_eq_true hw
  obtain⟨n,ho⟩:=id hp
  exact⟨_,(h3 (hv.trans hve.symm)).2 l hl _ ho,rfl,n,rfl⟩
 exact {
  fresh:=fun b hb=>by simp at hb; subst hb; exact hI
  obj:=hobj
  frame:=fun j h h' ⟨o,ho,r⟩ hk=>⟨o,hk I (by simp) o ho,r⟩
  self:=fun j s Q E st hQ=>wpAny_pyIter_listiter st hQ
  next:=fun j pv X ρ σ s tg _ hj e x st hw=>by
   obtain⟨v,hv',hvr⟩:=hr.get hj
   refine wpAny_pyNext_list_item st (keepL e hw) (by simpa using hv') fun h' hit' hs'=>⟨v,rfl,?_⟩
   obtain⟨o,ho,hcl,hd⟩:=id hit'
   exact letOwned_plain ho hcl (by decide) ⟨h',s.toks,rfl,sameBut_keep hs',hit',alter_vr (hobj j _ st) (sameBut_keep hs') (VR.evo e _ hvr)⟩
  done:=fun X ρ σ s e x st hw=>wpAny_pyNext_list_end hh st (keepL e hw) (by simp[hr.length]) fun h' he'=>⟨rfl,h',s.toks,rfl,extBut_keep he'⟩ }
end
section
variable {prog:Program}{w:World}{A:Around}{E:Value→Shared→Prop}{s:Shared}
noncomputable def Hands (prog:Program)(w:World)(A:Around)(it:Addr)(x:Value)(P:Heap→Prop)(s:Shared):Prop:=
 ∀ (E:Value→Shared→Prop) (Q:Value→Shared→Prop),(∀ h',P h'→Heap.SameBut it s.heap h'→Q x { s with heap:=h' })→wpAny (model prog w) A (Builtin.SmallTypes.nextOf (.ref it)) Q E s
theorem tuple_hands {it t:Addr}{i:Nat}{items:Array Value}{x:Value}(hit:s.heap.IsTupleIter it t i)(ht:s.heap.IsTuple t items)(hx:items[i]?=some x):
  Hands prog w A it x (fun h=>h.IsTupleIter it t (i+1)) s:=fun E Q hQ=>by
 obtain⟨o,ho,hc,hd⟩:=id hit
 obtain⟨ol,hol,_,nl,hdl⟩:=ht
 unfold Builtin.SmallTypes.nextOf
 refine wpAny_bind (wpAny_callSpecial?_slot (name:=Str.ofString "__next__") hit.typeIs F.slot_tuple_iterator_next
  (wpAny_call_entry F.slot_tuple_iterator_next hit.typeIs F.entry_tuple_iterator_next ?_ (F.args_tuple_iterator_next_1 _)))
 show wpAny _ _ (field (.ref it) 0 >>= _) _ _ s
 refine wpAny_bind (wpAny_field ho hd (x:= .ref t) rfl ?_)
 show wpAny _ _ (if (Value.ref t==Value.none)=true then _ else _) _ _ s
 rw[if_neg (show ¬ ((Value.ref t==Value.none)=true) from Bool.false_ne_true)]
 show wpAny _ _ (field (.ref it) 1 >>= _) _ _ s
 refine wpAny_bind (wpAny_field ho hd (x:= .int i 0) rfl ?_)
 show wpAny _ _ (seqItems? (.ref t) >>= _) _ _ s
 refine wpAny_bind (wpAny_seqItems hol hdl ?_)
 simp only[Int.toNat_natCast,hx]
 refine wpAny_bind (wpAny_setField ho hd (by simp -iota) (wpAny_pure ⟨x,rfl,wpAny_pure (hQ _ ?_ (Heap.SameBut.update ..))⟩))
 exact⟨_,Heap.get?_update_self _ ho (Obj.isFreed_of_fields (Obj.data_mapFields hd _)),(Obj.cls_mapFields ..).trans hc,by
  rw[Obj.data_mapFields hd]; simp -iota [rawInt]⟩
theorem enum_next {e it:Addr}{i:Nat}{x old:Value}{P:Heap→Prop}{Q:Option Value→Shared→Prop}
  (he:IsEnum s.heap e it i old) (hne:e≠it) (hin:∀ A',Hands prog w A' it x P s) (hP:∀ h h',P h→(∀ o,h.get? it=some o→h'.get? it=some o)→P h')
  (hQ:∀ h',IsEnumOut h' e it ((i:Int)+1) x s.heap.objs.size→P h'→h'.get? s.heap.objs.size=some { cls:= .type "tuple",data:= .seq #[.int i s.toks,x] }→
   (∀ b o,b≠e→b≠it→s.heap.get? b=some o→h'.get? b=some o)→Q (some (.ref s.heap.objs.size)) { s with heap:=h',toks:=s.toks+1 }):
  wpAny (model prog w) A (pyNext (.ref e)) Q E s:=by
 obtain⟨hp,g,d,tk,os⟩:=s
 have hT:(⟨hp,g,d,tk,os⟩:Shared).TypeIs (.ref e) "enumerate":=⟨_,he,rfl⟩
 unfold pyNext
 refine wpAny_bind (wpAny_attempt (wpAny_callSpecial?_slot (name:=Str.ofString "__next__") hT F.slot_enumerate_next
  (wpAny_call_entry F.slot_enumerate_next hT F.entry_enumerate_next ?_ (F.args_enumerate_next_1 _))))
 show wpAny _ _ (field (.ref e) 2 >>= _) _ _ _
 refine wpAny_bind (wpAny_field he rfl (x:= .ref it) rfl (wpAny_bind (hin _ _ _ fun h₁ hP₁ hs₁=>?_)))
 replace hs₁:Heap.SameBut it hp h₁:=hs₁
 have he₁:IsEnum h₁ e it i old:=(hs₁.2 e hne).trans he
 show wpAny _ _ (field (.ref e) 3 >>= _) _ _ ⟨h₁,g,d,tk,os⟩
 refine wpAny_bind (wpAny_field he₁ rfl (x:=rawInt i) rfl ?_)
 show wpAny _ _ (field (.ref e) 4 >>= _) _ _ ⟨h₁,g,d,tk,os⟩
 refine wpAny_bind (wpAny_field he₁ rfl (x:= .none) rfl ?_)
 show wpAny _ _ (mkInt i >>= _) _ _ ⟨h₁,g,d,tk,os⟩
 refine wpAny_bind (wpAny_mkInt ?_)
 show wpAny _ _ (setField (.ref e) 3 (rawInt ((i:Int)+1)) >>= _) _ _ ⟨h₁,g,d,tk+1,os⟩
 refine wpAny_bind (wpAny_setField_rec he₁ (by simp -iota) fun h₂ he₂ hs₂=>?_)
 replace hs₂:Heap.SameBut e h₁ h₂:=hs₂
 replace he₂:IsEnum h₂ e it ((i:Int)+1) old:=he₂
 show wpAny _ _ (setField (.ref e) 4 .none >>= _) _ _ ⟨h₂,g,d,tk+1,os⟩
 refine wpAny_bind (wpAny_setField_rec he₂ (by simp -iota) fun h₃ he₃ hs₃=>?_)
 replace hs₃:Heap.SameBut e h₂ h₃:=hs₃
 replace he₃:IsEnum h₃ e it ((i:Int)+1) old:=he₃
 show wpAny _ _ (newTuple [.int i tk,x] >>= _) _ _ ⟨h₃,g,d,tk+1,os⟩
 refine wpAny_bind (wpAny_newTuple ?_)
 have hsz:h₃.objs.size=hp.objs.size:=by rw[hs₃.1,hs₂.1,hs₁.1]
 have he₄:IsEnum (h₃.push { cls:= .type "tuple",data:= .seq #[.int i tk,x] }) e it ((i:Int)+1) old:=Heap.get?_push_of_some _ he₃
 have ht₄:(h₃.push { cls:= .type "tuple",data:= .seq #[.int i tk,x] }).get? hp.objs.size=some { cls:= .type "tuple",data:= .seq #[.int i tk,x] }:=by rw[← hsz]; exact Heap.get?_push_size _ rfl
 have hk₄:∀ b o,b≠e→b≠it→hp.get? b=some o→(h₃.push { cls:= .type "tuple",data:= .seq #[.int i tk,x] }).get? b=some o:=fun b o hbe hbi hb=>
  Heap.get?_push_of_some _ (hs₃.extBut b o hbe (hs₂.extBut b o hbe (hs₁.extBut b o hbi hb)))
 have hP₄:P (h₃.push { cls:= .type "tuple",data:= .seq #[.int i tk,x] }):=hP _ _ hP₁ fun o ho=>Heap.get?_push_of_some _ (hs₃.extBut it o (Ne.symm hne) (hs₂.extBut it o (Ne.symm hne) ho))
 generalize h₃.push { cls:= .type "tuple",data:= .seq #[.int i tk,x] }=h₄ at he₄ ht₄ hk₄ hP₄
 show wpAny _ _ (Builtin.SmallTypes.ownedTupleIsFree (.ref e) >>= _) _ _ ⟨h₄,g,d,tk+1,os⟩
 rw[hsz]
 clear he₃ hs₃ he₂ hs₂ he₁ hs₁ hP₁ hsz h₃ h₂ h₁
 have hel:e < hp.objs.size:=Heap.lt_size he
 refine wpAny_bind ?_
 unfold Builtin.SmallTypes.ownedTupleIsFree
 refine wpAny_bind (wpAny_field he₄ rfl (x:= .none) rfl (wpAny_pure ?_))
 simp -iota only[if_true]
 refine wpAny_bind (wpAny_rule ?_)
 refine wpAny_bind (wpAny_field he₄ rfl (x:=old) rfl ?_)
 refine wpAny_bind (wpAny_setField_rec he₄ (by simp -iota) fun h₅ he₅ hs₅=>?_)
 replace hs₅:Heap.SameBut e h₄ h₅:=hs₅
 replace he₅:IsEnum h₅ e it ((i:Int)+1) x:=he₅
 show wpAny _ _ (Builtin.SmallTypes.ownedTupleHandOut (.ref e) (.ref hp.objs.size) >>= _) _ _ ⟨h₅,g,d,tk+1,os⟩
 refine wpAny_bind ?_
 unfold Builtin.SmallTypes.ownedTupleHandOut
 refine wpAny_bind (wpAny_setField_rec he₅ (by simp -iota) fun h₆ he₆ hs₆=>?_)
 replace hs₆:Heap.SameBut e h₅ h₆:=hs₆
 replace he₆:IsEnumOut h₆ e it ((i:Int)+1) x hp.objs.size:=he₆
 refine wpAny_setField_rec he₆ (by simp -iota) fun h₇ he₇ hs₇=>?_
 replace hs₇:Heap.SameBut e h₆ h₇:=hs₇
 replace he₇:IsEnumOut h₇ e it ((i:Int)+1) x hp.objs.size:=he₇
 have up:∀ b o,b≠e→h₄.get? b=some o→h₇.get? b=some o:=fun b o hb ho=>hs₇.extBut b o hb (hs₆.extBut b o hb (hs₅.extBut b o hb ho))
 refine wpAny_bind (wpAny_letGo (wpAny_pure ⟨_,rfl,wpAny_pure (hQ h₇ he₇ (hP _ _ hP₄ fun o ho=>up it o (Ne.symm hne) ho) (up _ _ (Nat.ne_of_gt hel) ht₄) fun b o hbe hbi hb=>up b o hbe (hk₄ b o hbe hbi hb))⟩))
theorem enum_end {e it t:Addr}{i:Nat}{items:Array Value}{old:Value}{Q:Option Value→Shared→Prop}(hh:A.handled=none)
  (he:IsEnum s.heap e it i old) (hit:s.heap.IsTupleIter it t i) (ht:s.heap.IsTuple t items) (hx:items[i]?=none)
  (hQ:∀ h',Heap.ExtBut it s.heap h'→Q none { s with heap:=h' }):wpAny (model prog w) A (pyNext (.ref e)) Q E s:=by
 have hT:s.TypeIs (.ref e) "enumerate":=⟨_,he,rfl⟩
 unfold pyNext
 refine wpAny_bind (wpAny_attempt (wpAny_callSpecial?_slot (name:=Str.ofString "__next__") hT F.slot_enumerate_next
  (wpAny_call_entry F.slot_enumerate_next hT F.entry_enumerate_next ?_ (F.args_enumerate_next_1 _))))
 show wpAny _ _ (field (.ref e) 2 >>= _) _ _ _
 refine wpAny_bind (wpAny_field he rfl (x:= .ref it) rfl (wpAny_bind ?_))
 obtain⟨o,ho,hc,hd⟩:=id hit
 obtain⟨ol,hol,_,nl,hdl⟩:=ht
 unfold Builtin.SmallTypes.nextOf
 refine wpAny_bind (wpAny_callSpecial?_slot (name:=Str.ofString "__next__") hit.typeIs F.slot_tuple_iterator_next
  (wpAny_call_entry F.slot_tuple_iterator_next hit.typeIs F.entry_tuple_iterator_next ?_ (F.args_tuple_iterator_next_1 _)))
 show wpAny _ _ (field (.ref it) 0 >>= _) _ _ s
 refine wpAny_bind (wpAny_field ho hd (x:= .ref t) rfl ?_)
 show wpAny _ _ (if (Value.ref t==Value.none)=true then _ else _) _ _ s
 rw[if_neg (show ¬ ((Value.ref t==Value.none)=true) from Bool.false_ne_true)]
 show wpAny _ _ (field (.ref it) 1 >>= _) _ _ s
 refine wpAny_bind (wpAny_field ho hd (x:= .int i 0) rfl ?_)
 show wpAny _ _ (seqItems? (.ref t) >>= _) _ _ s
 refine wpAny_bind (wpAny_seqItems hol hdl ?_)
 rw[Int.toNat_natCast]
 dsimp only
 rw[hx]
 refine wpAny_bind (wpAny_rule (wpAny_bind (wpAny_setField ho hd (by simp -iota) ?_)))
 show wpAny _ _ (newExc (.type "StopIteration") [] >>= _) _ _ _
 refine wpAny_bind ?_
 delta newExc newTuple
 refine wpAny_bind (wpAny_newObj_type ?_ (by size_fits))
 refine wpAny_bind (m:=firstArgMember _ _) (wpAny_of_eq (a:=Value.none) (by first | rfl | (simp -iota only[firstArgMember]; rfl)) ?_)
 refine wpAny_newObj_type ?_ (by size_fits)
 delta raiseNew
 refine wpAny_bind (wpAny_handled ?_)
 first | rw[show A.in1.handled=none from hh] | rw[show A.in1.in1.handled=none from hh] | rw[hh]
 refine wpAny_bind (wpAny_pure (wpAny_throw ?_))
 refine wpAny_bind (wpAny_isInstance (T:="StopIteration") (b:=true) ⟨_,Heap.get?_push_size _ rfl,rfl⟩ isSubtype_stop ?_)
 exact wpAny_pure (hQ _ (((Heap.SameBut.update ..).extBut.push _).push _))
theorem wp_called {cls:Value}{Q:Bool→Shared→Prop}(h:∀ b,Q b s):wpAny M A (Builtin.SmallTypes.calledThroughType cls) Q E s:=by
 unfold Builtin.SmallTypes.calledThroughType
 exact wpAny_bind (wpAny_stack_any fun st=>wpAny_pure (h _))
open AutoSeq1 (wpAny_loadPart') in
theorem meets_enum_tuple (l:Addr)(items:Array Value)(n:Nat)(dct:Option Addr)(sl:Array (Option Value)):
  Meets (Builtin.«enumerate.__new__» ⟨[.type "enumerate",.ref l],[]⟩) (fun _ R s=>s.heap.get? l=some { cls:= .type "tuple",dict:=dct,data:= .seq items n,slots:=sl }∧
   R (.ok (.ret (.ref (s.heap.push { cls:= .type "tuple_iterator",data:= .fields #[.ref l,.int 0 0] }).objs.size)))
    { s with heap:=(s.heap.push { cls:= .type "tuple_iterator",data:= .fields #[.ref l,.int 0 0] }).push { cls:= .type "enumerate",data:= .fields #[.none,.bool false,.ref s.heap.objs.size,rawInt 0,.none,.none] } }):=
 .of_wp fun prog w A R s h=>by
  obtain⟨hp,g,d,tk,os⟩:=s; obtain⟨hl,h⟩:=h
  have hsub:=sub_enumerate
  have hL:Heap.IsTuple (Shared.heap ⟨hp,g,d,tk,os⟩) l items:=⟨_,hl,rfl,n,rfl⟩
  wp_walk using wpAny_loadPart' hl,wp_called
  intro b
  cases b
  ·wp_walk using wpAny_loadPart' hl,wpAny_pyIter_tuple hL
   exact⟨_,rfl,h⟩
  ·wp_walk using wpAny_loadPart' hl,wpAny_pyIter_tuple hL
   exact⟨_,rfl,h⟩
theorem call_enum_tuple {l:Addr}{items:Array Value}{Q:Value→Shared→Prop}(hL:s.heap.IsTuple l items)
  (h:∀ h',IsEnum h' (s.heap.objs.size+1) s.heap.objs.size 0 .none→h'.IsTupleIter s.heap.objs.size l 0→ 
   (∀ b o,s.heap.get? b=some o→h'.get? b=some o)→Q (.ref (s.heap.objs.size+1)) { s with heap:=h' }):
  wpAny (model prog w) A (call (.type "enumerate") [.ref l]) Q E s:=by
 obtain⟨⟨c,dct,dt,sl⟩,hl,hc,n,hd⟩:=hL
 replace hc:c= .type "tuple":=hc
 replace hd:dt= .seq items n:=hd
 subst hc hd
 refine callType_new F.called_enumerate (by decide) (F.typeCall_enumerate_1 _) (F.newCall_enumerate_1 _) (fun obj=>F.args_object_init_2 obj _) F.entry_enumerate_new
  (meets_enum_tuple l items n dct sl) ⟨hl,?_⟩
 have hz:(s.heap.push { cls:= .type "tuple_iterator",data:= .fields #[.ref l,.int 0 0] }).objs.size=s.heap.objs.size+1:=Heap.size_push ..
 show _∧_
 rw[hz]
 have he:IsEnum ((s.heap.push { cls:= .type "tuple_iterator",data:= .fields #[.ref l,.int 0 0] }).push
   { cls:= .type "enumerate",data:= .fields #[.none,.bool false,.ref s.heap.objs.size,rawInt 0,.none,.none] }) (s.heap.objs.size+1) s.heap.objs.size 0 .none:=by
  have:=Heap.get?_push_size (s.heap.push { cls:= .type "tuple_iterator",data:= .fields #[.ref l,.int 0 0] })
   (o:={ cls:= .type "enumerate",data:= .fields #[.none,.bool false,.ref s.heap.objs.size,rawInt 0,.none,.none] }) rfl
  rw[hz] at this; exact this
 exact⟨⟨_,he,rfl⟩,h _ he ⟨_,Heap.get?_push_of_some _ (Heap.get?_push_size _ rfl),rfl,rfl⟩ fun b o x=>Heap.get?_push_of_some _ (Heap.get?_push_of_some _ x)⟩
end
section
variable {B:Bs}{A:Around}{ρ₀:List Addr}{σ₀:Sto}{s₀:Shared}
theorem enumed_get:∀ {xs:List PV} {k j:Nat} {pv:PV},(enumed k xs)[j]?=some pv→∃ x,xs[j]?=some x∧pv= .tup [.int ((k+j:Nat):Int),x]
 | [],k,j,pv,h=>by cases h
 | x::xs,k,0,pv,h=>by cases h; exact⟨x,rfl,rfl⟩
 | x::xs,k,j+1,pv,h=>by
  obtain⟨y,h1,h2⟩:=enumed_get (xs:=xs) (k:=k+1) (j:=j) h
  refine⟨y,h1,?_⟩
  rw[h2,show k+1+j=k+(j+1) by lia]
theorem enumed_len:∀ {xs:List PV} {k:Nat},(enumed k xs).length=xs.length
 | [],k=>rfl
 | x::xs,k=>by show (enumed (k+1) xs).length+1=_; rw[enumed_len]; rfl
theorem Itr.enum (ok:BsOk B){e it t:Addr}{xs:List PV}{vs:Array Value}(hh:A.handled=none)(x₀:St B ρ₀ σ₀ s₀)(he0:s₀.heap.get? e=none)(hi0:s₀.heap.get? it=none)(hne:e≠it)
  (ht:s₀.heap.IsTuple t vs) (h1:t∉ρ₀) (h2:t∉B.Tb) (hr:VRs B ρ₀ s₀.heap xs vs.toList):
  Itr B A (.ref e) (enumed 0 xs) none (fun tg=>∃ elts k pos,tg= .Tuple elts k pos) ρ₀ σ₀ s₀ [e,it] (fun j h=>(∃ old,IsEnum h e it j old)∧h.IsTupleIter it t j):=by
 have hobj:∀ (j:Nat) (h:Heap),((∃ old,IsEnum h e it j old)∧h.IsTupleIter it t j)→∀ b∈[e,it],∃ o vs,h.get? b=some o∧o.data= .fields vs∧o.cls≠ .type "tuple"∧o.cls≠ .type "code":=fun j h ⟨⟨old,hE⟩,o,ho,hc,hd⟩ b hb=>by
  rcases List.mem_cons.mp hb with rfl | hb
  ·exact⟨_,_,hE,rfl,by simp,by simp⟩
  ·simp at hb; subst hb
   exact⟨o,_,ho,hd,by rw[hc]; decide,by rw[hc]; decide⟩
 have keepT:∀ {X ρ:List Addr} {σ:Sto} {h:Heap},Evo B X ρ₀ σ₀ s₀.heap ρ σ h→h.IsTuple t vs:=fun e=>by
  obtain⟨o,ho,hc,n,hd⟩:=id ht
  exact⟨o,(e.vk.tup t o vs n ho hc hd h1 h2).1,hc,n,hd⟩
 have hlen:vs.size=xs.length:=by have:=hr.length; simpa using this
 exact {
  fresh:=fun b hb=>by
   rcases List.mem_cons.mp hb with rfl | hb
   ·exact he0
   ·simp at hb; subst hb; exact hi0
  obj:=hobj
  frame:=fun j h h' ⟨⟨old,hE⟩,o,ho,r⟩ hk=>⟨⟨old,hk e (by simp) _ hE⟩,o,hk it (by simp) o ho,r⟩
  self:=fun j s Q E ⟨⟨old,hE⟩,_⟩ hQ=>wpAny_pyIter_enum hE hQ
  next:=fun j pv X ρ σ s tg hT hj ev x st hw=>by
   obtain⟨elts,k,pos,rfl⟩:=hT
   obtain⟨y,hy,rfl⟩:=enumed_get hj
   obtain⟨v,hv,hvr⟩:=hr.get hy
   obtain⟨⟨old,hE⟩,hit⟩:=id st
   refine enum_next hE hne (fun A'=>tuple_hands hit (keepT ev) (by simpa using hv)) (fun h h' ⟨o,ho,r⟩ hk=>⟨o,hk o ho,r⟩) fun h' hO hit' hT' hk=>⟨_,rfl,?_⟩
   refine wpAny_letOwnedTupleGo_enum hO fun h'' hE'' hs''=>⟨h'',s.toks+1,rfl,?_,⟨⟨v,?_⟩,?_⟩,?_⟩
   ·exact fun b o hb ho=>hs''.extBut b o (fun q=>hb (by simp[q])) (hk b o (fun q=>hb (by simp[q])) (fun q=>hb (by simp[q])) ho)
   ·have:((j:Int)+1)=((j+1:Nat):Int):=by push_cast; rfl
    rw[← this]; exact hE''
   ·obtain⟨o,ho,r⟩:=hit'; exact⟨o,hs''.extBut it o (Ne.symm hne) ho,r⟩
   ·have hTe:s.heap.objs.size≠e:=fun q=>by
     have:=Heap.lt_size hE
     rw[← q] at this; exact Nat.lt_irrefl _ this
    have all:∀ b o,b∉[e,it]→s.heap.get? b=some o→h''.get? b=some o:=fun b o hb ho=>hs''.extBut b o (fun q=>hb (by simp[q])) (hk b o (fun q=>hb (by simp[q])) (fun q=>hb (by simp[q])) ho)
    refine⟨s.heap.objs.size,_,rfl,fun hm=>?_,fun hm=>?_,⟨_,hs''.extBut _ _ hTe hT',rfl,_,rfl⟩,?_⟩
    ·obtain⟨o,ho⟩:=x.alive hm; rw[get?_size] at ho; cases ho
    ·obtain⟨o,ho⟩:=ok.tb _ x.inv _ hm; rw[get?_size] at ho; cases ho
    ·refine⟨_,_,rfl,⟨s.toks,by simp⟩,_,_,rfl,alter_vr (hobj j _ st) all (VR.evo ev _ hvr),rfl⟩
  done:=fun X ρ σ s ev x st hw=>by
   rw[enumed_len] at st
   obtain⟨⟨old,hE⟩,hit⟩:=st
   refine enum_end hh hE hit (keepT ev) (by simp[hlen]) fun h' he'=>⟨rfl,h',s.toks,rfl,fun b o hb ho=>he' b o (fun q=>hb (by simp[q])) ho⟩ }
variable {k:Nat}{G:Gl}{n:Nat}
variable {cx:Cx}{σ σ₁:Sto}{β:Type}{r:β}
theorem ev_notSet {e:Expr}{K:PV→Sto→Option β}(h:evK G n cx σ e K=some r):∀ es kk p,e≠ .Set es kk p:=fun es kk p e=>by
 subst e
 cases n with
 | zero=>exact nos h
 | succ n=>exact nos h
theorem folded_of {e:Expr}(h:∀ es kk p,e≠ .Set es kk p)(env:Env)(x:Value):foldedSetIterable e env x=pure x:=by
 cases e with
 | Set es kk p=>exact (h es kk p rfl).elim
 | _=>rfl
theorem pushed (ok:BsOk B){ρ:List Addr}{σ:Sto}{s:Shared}(x:St B ρ σ s)(o:Obj)(tk:Nat):St B ρ σ { s with heap:=s.heap.push o,toks:=tk }∧Evo B [] ρ σ s.heap ρ σ (s.heap.push o):=
 x.grow ok (s':={ s with heap:=s.heap.push o,toks:=tk }) rfl x.gens fun a o' ho=>Heap.get?_push_of_some _ ho
theorem it_str (ok:BsOk B){e:Expr}{q:Str}(hf:∀ env x,foldedSetIterable e env x=pure x)(H:E1 B k cx σ e (.str q) σ₁):It1 B k cx σ e (signs q) none σ₁:=⟨hf,fun A X env ρ s R x f Q E c=>
 H.use R x f fun va ρ₁ s₁ x₁ e₁ f₁ r₁=>c va s₁ ρ₁ s₁ x₁ e₁ fun E Q hQ=>by
  obtain⟨t,rfl⟩:=r₁
  cases ha:q.cps.all (· < 128)
  ·exact wpAny_pyIter_wide ha (hQ _ _ _ _ _ (Itr.str R.handled (.inr rfl) (get?_size _)) (fun _ _=>trivial) ⟨_,Heap.get?_push_size _ rfl,rfl,rfl⟩ (pushed ok x₁ _ _).1 (pushed ok x₁ _ s₁.toks).2)
  ·exact wpAny_pyIter_ascii ha (hQ _ _ _ _ _ (Itr.str R.handled (.inl rfl) (get?_size _)) (fun _ _=>trivial) ⟨_,Heap.get?_push_size _ rfl,rfl,rfl⟩ (pushed ok x₁ _ _).1 (pushed ok x₁ _ s₁.toks).2)⟩
theorem it_tup (ok:BsOk B){e:Expr}{xs:List PV}(hf:∀ env x,foldedSetIterable e env x=pure x)(H:E1 B k cx σ e (.tup xs) σ₁):It1 B k cx σ e xs none σ₁:=⟨hf,fun A X env ρ s R x f Q E c=>
 H.use R x f fun va ρ₁ s₁ x₁ e₁ f₁ r₁=>c va s₁ ρ₁ s₁ x₁ e₁ fun E Q hQ=>by
  obtain⟨t,vs,rfl,h1,h2,ht,hr⟩:=r₁
  exact wpAny_pyIter_tuple ht (hQ _ _ _ _ _ (Itr.tuple R.handled x₁ (get?_size _) ht h1 h2 hr) (fun _ _=>trivial) ⟨_,Heap.get?_push_size _ rfl,rfl,rfl⟩ (pushed ok x₁ _ _).1 (pushed ok x₁ _ s₁.toks).2)⟩
theorem it_lst (ok:BsOk B){e:Expr}{i:Nat}{c:Cell}{xs:List PV}(hc:σ₁[i]?=some c)(hd:c.d= .lst xs)(hf:∀ env x,foldedSetIterable e env x=pure x)(H:E1 B k cx σ e (.lst i) σ₁):It1 B k cx σ e xs (some (i,c.ver)) σ₁:=⟨hf,fun A X env ρ s R x f Q E q=>
 H.use R x f fun va ρ₁ s₁ x₁ e₁ f₁ r₁=>q va s₁ ρ₁ s₁ x₁ e₁ fun E Q hQ=>by
  obtain⟨l,rfl,hl⟩:=r₁
  have hcell:=x₁.cells i c l hc hl
  rw[hd] at hcell
  obtain⟨vs,hp,hr⟩:=hcell
  exact wpAny_pyIter_list hp.isList (hQ _ _ _ _ _ (Itr.list R.handled x₁ (get?_size _) hc rfl hl hp hr) (fun _ _=>trivial) ⟨_,Heap.get?_push_size _ rfl,rfl,rfl⟩ (pushed ok x₁ _ _).1 (pushed ok x₁ _ s₁.toks).2)⟩
theorem it_range (ok:BsOk B){mg mb}(gok:GlOk B k G mg mb){args:List Expr}{p pos:Pos}{vs:List PV}{a b c:Int}(hk:cx.names.lookup ("range":Str)=some .globalImplicit)(H:Es B k cx σ args vs σ₁)(habc:rangeArgs vs=some (a,b,c))
  (hc:c≠0∧c.natAbs < 1073741824∧Builtin.Range.small a b c=true∧0≤Builtin.Range.rangeSize a b c∧(Builtin.Range.rangeSize a b c).toNat≤1000):
  It1 B k cx σ (.Call (.Name "range" p) args [] pos) ((List.range (Builtin.Range.rangeSize a b c).toNat).map fun (k:Nat)=> .int (a+c * (k:Int))) none σ₁:=⟨fun env x=>rfl,fun A X env ρ s R x f Q E q=>by
 refine wpAny_Call_NameR (global_ok gok x f hk (by decide) (.inr (gok.bg _ (.type "range") rfl)) ?_)
 rw[back_all H.star]
 refine callable_type "range" A _ s pos [] args env _ (H.run.use R x f fun vals ρ₁ s₁ x₁ e₁ f₁ r₁=>⟨⟨ρ₁,_,x₁⟩,?_⟩)
 have fin:∀ (t u v:Tok) (tk:Nat),Q (.ref s₁.heap.objs.size) { s₁ with heap:=s₁.heap.push { cls:= .type "range",data:= .fields #[.int a t,.int b u,.int c v] },toks:=tk }:=fun t u v tk=>by
  obtain⟨x₂,e₂⟩:=pushed ok x₁ { cls:= .type "range",data:= .fields #[.int a t,.int b u,.int c v] } tk
  refine q _ _ ρ₁ _ x₂ (e₁.trans e₂) fun E Q hQ=>wpAny_pyIter_range (IsRange.new ..) hc.2.2.1 ?_
  obtain⟨x₃,e₃⟩:=pushed ok x₂ { cls:= .type "range_iterator",data:= .fields #[rawInt a,rawInt (Builtin.Range.rangeSize a b c),rawInt c] } tk
  refine hQ _ _ _ _ _ (Itr.range (a:=a) (c:=c) (n:=(Builtin.Range.rangeSize a b c).toNat) R.handled (get?_size _)) (fun _ _=>trivial) ?_ x₃ e₃
  show IsRangeIter _ _ _ _ _
  rw[show (((Builtin.Range.rangeSize a b c).toNat:Nat):Int) - ((0:Nat):Int)=Builtin.Range.rangeSize a b c by rw[Int.toNat_of_nonneg hc.2.2.2.1]; exact Int.sub_zero _,show a+((0:Nat):Int) * c=a by simp]
  exact Heap.get?_push_size _ rfl
 refine range_ind (P:=fun vs x=>VRs B ρ₁ s₁.heap vs vals→(∀ (t u v:Tok) (tk:Nat),Q (.ref s₁.heap.objs.size) { s₁ with heap:=s₁.heap.push { cls:= .type "range",data:= .fields #[.int x.1 t,.int x.2.1 u,.int x.2.2 v] },toks:=tk })→x.2.2≠0∧x.2.2.natAbs < 1073741824→wpAny (model B.prog B.w) A (call (.type "range") ([]++vals)) Q E s₁) habc ?_ ?_ ?_ r₁ fin ⟨hc.1,hc.2.1⟩
 ·intro b r₁ fin _
  obtain⟨_,us,rfl,⟨t,rfl⟩,h2⟩:=r₁
  obtain rfl:us=[]:=h2
  exact call_range_1 (fin _ _ _ _)
 ·intro a b r₁ fin _
  obtain⟨_,_,rfl,⟨t,rfl⟩,_,us,rfl,⟨u,rfl⟩,h3⟩:=r₁
  obtain rfl:us=[]:=h3
  exact call_range_2 (fin _ _ _ _)
 ·intro a b c r₁ fin hc
  obtain⟨_,_,rfl,⟨t,rfl⟩,_,_,rfl,⟨u,rfl⟩,_,us,rfl,⟨v,rfl⟩,h3⟩:=r₁
  obtain rfl:us=[]:=h3
  exact call_range_3 hc.1 (fin _ _ _ _) (.inl (PyProof.noPylong_small hc.2))⟩
theorem it_enum (ok:BsOk B){mg mb}(gok:GlOk B k G mg mb){args:List Expr}{p pos:Pos}{xs:List PV}(hk:cx.names.lookup ("enumerate":Str)=some .globalImplicit)(H:Es B k cx σ args [.tup xs] σ₁):
  It1 B k cx σ (.Call (.Name "enumerate" p) args [] pos) (enumed 0 xs) none σ₁:=⟨fun env x=>rfl,fun A X env ρ s R x f Q E q=>by
 refine wpAny_Call_NameR (global_ok gok x f hk (by decide) (.inr (gok.bg _ (.type "enumerate") rfl)) ?_)
 rw[back_all H.star]
 refine callable_type "enumerate" A _ s pos [] args env _ (H.run.use R x f fun vals ρ₁ s₁ x₁ e₁ f₁ r₁=>⟨⟨ρ₁,_,x₁⟩,?_⟩)
 obtain⟨_,ws,rfl,⟨t,us,rfl,h1,h2,ht,hr⟩,h3⟩:=r₁
 obtain rfl:ws=[]:=h3
 refine call_enum_tuple ht fun h' hE hit hk=>q _ _ ρ₁ s₁ x₁ e₁ fun E Q hQ=>?_
 obtain⟨x₂,e₂⟩:=x₁.grow ok (s':={ s₁ with heap:=h' }) rfl x₁.gens hk
 have none1:s₁.heap.get? (s₁.heap.objs.size+1)=none:=by
  cases e:s₁.heap.get? (s₁.heap.objs.size+1) with
  | none=>rfl
  | some o=>exact absurd (Heap.lt_size e) (Nat.not_lt.mpr (Nat.le_succ _))
 refine wpAny_pyIter_enum hE (hQ _ _ _ _ _ (Itr.enum ok R.handled x₁ none1 (get?_size _) (Nat.succ_ne_self _) ht h1 h2 hr) (fun tg htg=>?_) ⟨⟨_,hE⟩,hit⟩ x₂ e₂)
 cases tg with
 | Tuple a b c=>exact⟨a,b,c,rfl⟩
 | _=>cases htg⟩
theorem sound_evIt (ok:BsOk B){mg mb}(gok:GlOk B k G mg mb)(ih:EvS β B k G n)(ihs:EvsS β B k G n):EvItS β B k G (n+1):=fun {cx σ e K r C} h c=>by
 rcases iterK_some h with⟨args,p,pos,rfl,hk,h⟩ | ⟨args,p,pos,rfl,hk,h⟩ | h
 ·refine ihs h fun vs σ₁ h H=>opt_el h fun a ha h=>opt_el h fun l hl h=>?_
  obtain⟨hc,hl⟩:=grd_some (β:=List PV) hl
  obtain rfl:=Option.some.inj hl
  exact c _ _ _ h (it_range ok gok hk H ha hc)
 ·exact ihs h fun vs σ₁ h H=>one_ind (P:=fun vs=>Es B k _ _ args vs σ₁→C) h (fun v h H=>onTup_ind (P:=fun v=>Es B k _ _ args [v] σ₁→C) h (fun xs h H=>c _ _ _ h (it_enum ok gok hk H)) H) H
 ·have hf:=folded_of (ev_notSet h)
  refine ih h fun v σ₁ h H=>?_
  cases v with
  | str q=>exact c _ _ _ h (it_str ok hf H)
  | tup xs=>exact c _ _ _ h (it_tup ok hf H)
  | lst i=>
   unfold itV at h
   dsimp only at h
   cases hc:σ₁[i]? with
   | none=>rw[hc] at h; exact nos h
   | some cl=>
    rw[hc] at h
    dsimp only at h
    cases hd:cl.d with
    | lst xs=>rw[hd] at h; exact c _ _ _ h (it_lst ok hc hd hf H)
    | _=>rw[hd] at h; exact nos h
  | _=>exact nos h
end
section
variable {B:Bs}{k:Nat}{G:Gl}{n:Nat}{β:Type}
structure AllS (β:Type) (B:Bs) (k:Nat) (G:Gl) (n:Nat):Prop where
 ev:EvS β B k G n
 evs:EvsS β B k G n
 evO:EvOS β B k G n
 isT:IsTS β B k G n
 isTs:IsTsS β B k G n
 tests:TestsS β B k G n
 comp:CompS β B k G n
 it:EvItS β B k G n
theorem all_sound (ok:BsOk B){mg mb}(gok:GlOk B k G mg mb):∀ n,AllS β B k G n
 | 0=>⟨fun h=>nos h,fun h=>nos h,fun h=>nos h,fun h=>nos h,fun h=>nos h,fun h=>nos h,fun h=>nos h,fun h=>nos h⟩
 | n+1=>
  have ih:=all_sound ok gok n
  ⟨sound_ev ok gok ih.ev ih.evs ih.evO ih.isT ih.comp ih.it,sound_evs ih.ev ih.evs,sound_evO ih.ev,sound_isT ih.ev ih.isT ih.isTs,sound_isTs ih.isT ih.isTs,sound_tests ih.isT ih.tests,sound_comp ok ih.ev ih.tests ih.comp,sound_evIt ok gok ih.ev ih.evs⟩
noncomputable def FlR (B:Bs)(ρ:List Addr)(h:Heap)(fl:Fl)(f:Flow):Prop:=match fl with
 | .nxt=>f= .next
 | .brk=>f= .brk
 | .ret v=>∃ val,f= .ret val∧VR B ρ h v val
structure SEnd (B:Bs) (X:List Addr) (env:Env) (ρ:List Addr) (σ:Sto) (h:Heap) (fl:Fl) (cx':Cx) (σ':Sto) (f:Flow) (s':Shared) (ρ':List Addr):Prop where
 st:St B ρ' σ' s'
 evo:Evo B X ρ σ h ρ' σ' s'.heap
 fr:Fr B X cx' env ρ' s'.heap
 fl:FlR B ρ' s'.heap fl f
noncomputable def S1 (B:Bs)(k:Nat)(cx:Cx)(σ:Sto)(t:Env→Sem Flow)(fl:Fl)(cx':Cx)(σ':Sto):Prop:=
 ∀ {A X env ρ s} {Q:Flow→Shared→Prop} {E:Value→Shared→Prop},Room k A→St B ρ σ s→Fr B X cx env ρ s.heap→(∀ f s' ρ',SEnd B X env ρ σ s.heap fl cx' σ' f s' ρ'→Q f s')→wpAny (model B.prog B.w) A (t env) Q E s
theorem SEnd.after {X:List Addr}{env:Env}{ρ ρ₁ ρ':List Addr}{σ σ₁:Sto}{h h₁:Heap}{fl:Fl}{cx':Cx}{σ':Sto}{f:Flow}{s':Shared}(p:SEnd B X env ρ₁ σ₁ h₁ fl cx' σ' f s' ρ')(e:Evo B X ρ σ h ρ₁ σ₁ h₁):
  SEnd B X env ρ σ h fl cx' σ' f s' ρ':=⟨p.st,e.trans p.evo,p.fr,p.fl⟩
structure FSt (B:Bs) (X:List Addr) (cx:Cx) (env:Env) (ρ₀:List Addr) (σ₀:Sto) (h₀:Heap) (J:Nat→Heap→Prop) (all items:List PV) (j:Nat) (ρ:List Addr) (σ:Sto) (s:Shared):Prop where
 st:St B ρ σ s
 evo:Evo B X ρ₀ σ₀ h₀ ρ σ s.heap
 fr:Fr B X cx env ρ s.heap
 at_:J j s.heap
 le:j≤all.length
 drop:all.drop j=items
noncomputable def For1 (B:Bs)(k:Nat)(cx:Cx)(σ:Sto)(t:Expr)(body:List Stmt)(w:Option (Nat×Nat))(items:List PV)(fl:Fl)(cx':Cx)(σ':Sto):Prop:=
 ∀ A X env it all T ρ₀ σ₀ s₀ wr J (R:Result→Shared→Prop),Itr B A it all w T ρ₀ σ₀ s₀ wr J→T t→Room k A→St B ρ₀ σ₀ s₀→(∀ f s' ρ',SEnd B X env ρ₀ σ₀ s₀.heap fl cx' σ' f s' ρ'→R (.ok f) s')→
  ∀ j ρ s,FSt B X cx env ρ₀ σ₀ s₀.heap J all items j ρ σ s→codeAny (model B.prog B.w) A (.forLoop t it body [] env) R s
noncomputable def While1 (B:Bs)(k:Nat)(cx:Cx)(σ:Sto)(t:Expr)(body:List Stmt)(fl:Fl)(cx':Cx)(σ':Sto):Prop:=
 ∀ A X env ρ s (R:Result→Shared→Prop),Room k A→St B ρ σ s→Fr B X cx env ρ s.heap→(∀ f s' ρ',SEnd B X env ρ σ s.heap fl cx' σ' f s' ρ'→R (.ok f) s')→codeAny (model B.prog B.w) A (.whileLoop t body [] env) R s
noncomputable def ExS (β:Type)(B:Bs)(k:Nat)(G:Gl)(n:Nat):Prop:=∀ {cx σ st} {K:Fl→Cx→Sto→Option β} {r:β} {C:Prop},exK G n cx σ st K=some r→(∀ fl cx' σ',K fl cx' σ'=some r→S1 B k cx σ (exec st) fl cx' σ'→C)→C
noncomputable def ExsS (β:Type)(B:Bs)(k:Nat)(G:Gl)(n:Nat):Prop:=∀ {cx σ st} {K:Fl→Cx→Sto→Option β} {r:β} {C:Prop},exsK G n cx σ st K=some r→(∀ fl cx' σ',K fl cx' σ'=some r→S1 B k cx σ (execs st) fl cx' σ'→C)→C
noncomputable def ForS (β:Type)(B:Bs)(k:Nat)(G:Gl)(n:Nat):Prop:=∀ {cx σ t body w items} {K:Fl→Cx→Sto→Option β} {r:β} {C:Prop},exForK G n cx σ t body w items K=some r→(∀ fl cx' σ',K fl cx' σ'=some r→For1 B k cx σ t body w items fl cx' σ'→C)→C
noncomputable def WhileS (β:Type)(B:Bs)(k:Nat)(G:Gl)(n:Nat):Prop:=∀ {cx σ t body} {K:Fl→Cx→Sto→Option β} {r:β} {C:Prop},exWhileK G n cx σ t body K=some r→(∀ fl cx' σ',K fl cx' σ'=some r→While1 B k cx σ t body fl cx' σ'→C)→C
section
variable {cx cx₁ cx₂:Cx}{σ σ₁ σ₂:Sto}{st:Stmt}{rest body:List Stmt}{fl:Fl}{v pv:PV}{t:Expr}{w:Option (Nat×Nat)}{items:List PV}
theorem ex_nil:S1 B k cx σ (execs []) .nxt cx σ:=fun R x f q=>wpAny_execs_nil (q _ _ _ ⟨x,.refl ..,f,rfl⟩)
theorem ex_nxt (H1:S1 B k cx σ (exec st) .nxt cx₁ σ₁)(H2:S1 B k cx₁ σ₁ (execs rest) fl cx₂ σ₂):S1 B k cx σ (execs (st::rest)) fl cx₂ σ₂:=fun R x f q=>
 wpAny_execs_cons (H1 R x f fun f' s₁ ρ₁ p=>by
  obtain rfl:f'= .next:=p.fl
  exact H2 R p.st p.fr fun f'' s₂ ρ₂ p₂=>q f'' s₂ ρ₂ (p₂.after p.evo))
theorem ex_brk (H1:S1 B k cx σ (exec st) .brk cx₁ σ₁):S1 B k cx σ (execs (st::rest)) .brk cx₁ σ₁:=fun R x f q=>
 wpAny_execs_cons (H1 R x f fun f' s₁ ρ₁ p=>by
  obtain rfl:f'= .brk:=p.fl
  exact q _ _ _ p)
theorem ex_ret (H1:S1 B k cx σ (exec st) (.ret v) cx₁ σ₁):S1 B k cx σ (execs (st::rest)) (.ret v) cx₁ σ₁:=fun R x f q=>
 wpAny_execs_cons (H1 R x f fun f' s₁ ρ₁ p=>by
  obtain⟨val,hf,hv⟩:=p.fl
  subst hf
  exact q _ _ _ p)
theorem for_nil (ok:BsOk B)(hw:watch σ w=true):For1 B k cx σ t body w [] .nxt cx σ:=by
 intro A X env it all T ρ₀ σ₀ s₀ wr J R I hT Rm x₀ q j ρ s c
 have hj:j=all.length:=Nat.le_antisymm c.le (drop_nil c.drop)
 subst hj
 exact codeAny_for_turn (I.stop ok x₀ c.st c.evo c.fr c.at_ hw fun s' x' e' f' vk hk=>wpAny_execs_nil (q _ _ _ ⟨x',e',f',rfl⟩))
theorem for_turn (ok:BsOk B)(hw:watch σ w=true)(hb:bindT cx t pv=some cx₁){A:Around}{X:List Addr}{env:Env}{it:Value}{all:List PV}{T:Expr→Prop}{ρ₀:List Addr}{σ₀:Sto}{s₀:Shared}{wr:List Addr}{J:Nat→Heap→Prop}{R:Result→Shared→Prop}
  (I:Itr B A it all w T ρ₀ σ₀ s₀ wr J) (hT:T t) (Rm:Room k A) (x₀:St B ρ₀ σ₀ s₀) {j:Nat} {ρ:List Addr} {s:Shared} (c:FSt B X cx env ρ₀ σ₀ s₀.heap J all (pv::items) j ρ σ s) (H1:S1 B k cx₁ σ (execs body) fl cx₂ σ₁)
  (q:∀ f s' ρ',SEnd B X env ρ₀ σ₀ s₀.heap fl cx₂ σ₁ f s' ρ'→FSt B X cx₂ env ρ₀ σ₀ s₀.heap J all items (j+1) ρ' σ₁ s'→(match f with
   | .next | .cont=>codeAny (model B.prog B.w) A (.forLoop t it body [] env) R s'
   | .brk=>R (.ok .next) s'
   | .ret v=>R (.ok (.ret v)) s')):codeAny (model B.prog B.w) A (.forLoop t it body [] env) R s:=by
 obtain⟨hj,hrest⟩:=drop_cons c.drop
 refine codeAny_for_turn (I.turn ok Rm x₀ c.st c.evo c.fr hT hj c.at_ hw hb (fun v s' h=>h) fun s₃ d=>?_)
 exact H1 Rm d.st d.fr fun f s₄ ρ₄ p=>q f s₄ ρ₄ (p.after d.evo) ⟨p.st,d.evo.trans p.evo,p.fr,I.keepJ ok x₀ d.st d.j p.evo,(List.getElem?_eq_some_iff.mp hj).1,hrest⟩
theorem for_nxt (ok:BsOk B)(hw:watch σ w=true)(hb:bindT cx t pv=some cx₁)(H1:S1 B k cx₁ σ (execs body) .nxt cx₂ σ₁){cx₃:Cx}(H2:For1 B k cx₂ σ₁ t body w items fl cx₃ σ₂):For1 B k cx σ t body w (pv::items) fl cx₃ σ₂:=by
 intro A X env it all T ρ₀ σ₀ s₀ wr J R I hT Rm x₀ q j ρ s c
 refine for_turn ok hw hb I hT Rm x₀ c H1 fun f s' ρ' p d=>?_
 obtain rfl:f= .next:=p.fl
 exact H2 A X env it all T ρ₀ σ₀ s₀ wr J R I hT Rm x₀ q (j+1) ρ' s' d
theorem for_brk (ok:BsOk B)(hw:watch σ w=true)(hb:bindT cx t pv=some cx₁)(H1:S1 B k cx₁ σ (execs body) .brk cx₂ σ₁):For1 B k cx σ t body w (pv::items) .nxt cx₂ σ₁:=by
 intro A X env it all T ρ₀ σ₀ s₀ wr J R I hT Rm x₀ q j ρ s c
 refine for_turn ok hw hb I hT Rm x₀ c H1 fun f s' ρ' p d=>?_
 obtain rfl:f= .brk:=p.fl
 exact q _ _ _ ⟨p.st,p.evo,p.fr,rfl⟩
theorem for_ret (ok:BsOk B)(hw:watch σ w=true)(hb:bindT cx t pv=some cx₁)(H1:S1 B k cx₁ σ (execs body) (.ret v) cx₂ σ₁):For1 B k cx σ t body w (pv::items) (.ret v) cx₂ σ₁:=by
 intro A X env it all T ρ₀ σ₀ s₀ wr J R I hT Rm x₀ q j ρ s c
 refine for_turn ok hw hb I hT Rm x₀ c H1 fun f s' ρ' p d=>?_
 obtain⟨val,hf,hv⟩:=p.fl
 subst hf
 exact q _ _ _ p
theorem wh_turn (ht:Tr B k cx σ t true σ₁){A:Around}{X:List Addr}{env:Env}{R:Result→Shared→Prop}(Rm:Room k A){ρ:List Addr}{s:Shared}(x:St B ρ σ s)(f:Fr B X cx env ρ s.heap)(H1:S1 B k cx σ₁ (execs body) fl cx₂ σ₂)
  (q:∀ f s' ρ',SEnd B X env ρ σ s.heap fl cx₂ σ₂ f s' ρ'→(match f with
   | .next | .cont=>codeAny (model B.prog B.w) A (.whileLoop t body [] env) R s'
   | .brk=>R (.ok .next) s'
   | .ret v=>R (.ok (.ret v)) s')):codeAny (model B.prog B.w) A (.whileLoop t body [] env) R s:=
 codeAny_while_turn (ht.use Rm x f fun b ρ₁ s₁ x₁ e₁ f₁ hb=>by
  subst hb
  rw[if_pos rfl]
  exact H1 Rm x₁ f₁ fun f s₄ ρ₄ p=>q f s₄ ρ₄ (p.after e₁.weak))
theorem wh_nxt (ht:Tr B k cx σ t true σ₁)(H1:S1 B k cx σ₁ (execs body) .nxt cx₁ σ₂){σ₃:Sto}(H2:While1 B k cx₁ σ₂ t body fl cx₂ σ₃):While1 B k cx σ t body fl cx₂ σ₃:=by
 intro A X env ρ s R Rm x f q
 refine wh_turn ht Rm x f H1 fun f' s' ρ' p=>?_
 obtain rfl:f'= .next:=p.fl
 exact H2 A X env ρ' s' R Rm p.st p.fr fun g s'' ρ'' p'=>q g s'' ρ'' (p'.after p.evo)
theorem wh_brk (ht:Tr B k cx σ t true σ₁)(H1:S1 B k cx σ₁ (execs body) .brk cx₁ σ₂):While1 B k cx σ t body .nxt cx₁ σ₂:=by
 intro A X env ρ s R Rm x f q
 refine wh_turn ht Rm x f H1 fun f' s' ρ' p=>?_
 obtain rfl:f'= .brk:=p.fl
 exact q _ _ _ ⟨p.st,p.evo,p.fr,rfl⟩
theorem wh_ret (ht:Tr B k cx σ t true σ₁)(H1:S1 B k cx σ₁ (execs body) (.ret v) cx₁ σ₂):While1 B k cx σ t body (.ret v) cx₁ σ₂:=by
 intro A X env ρ s R Rm x f q
 refine wh_turn ht Rm x f H1 fun f' s' ρ' p=>?_
 obtain⟨val,hf,hv⟩:=p.fl
 subst hf
 exact q _ _ _ p
theorem wh_end (ht:Tr B k cx σ t false σ₁):While1 B k cx σ t body .nxt cx σ₁:=by
 intro A X env ρ s R Rm x f q
 refine codeAny_while_turn (ht.use Rm x f fun b ρ₁ s₁ x₁ e₁ f₁ hb=>?_)
 subst hb
 rw[if_neg Bool.false_ne_true]
 exact wpAny_execs_nil (q _ _ _ ⟨x₁,e₁.weak,f₁,rfl⟩)
end
theorem sound_exs (ih:ExS β B k G n)(ihs:ExsS β B k G n):ExsS β B k G (n+1):=fun {cx σ sts K r C} h c=>by
 cases sts with
 | nil=>exact c _ _ _ h ex_nil
 | cons st rest=>
  refine ih h fun fl cx₁ σ₁ h H1=>?_
  cases fl with
  | nxt=>exact ihs h fun _ _ _ h H2=>c _ _ _ h (ex_nxt H1 H2)
  | brk=>exact c _ _ _ h (ex_brk H1)
  | ret v=>exact c _ _ _ h (ex_ret H1)
theorem sound_for (ok:BsOk B)(ihs:ExsS β B k G n)(ihf:ForS β B k G n):ForS β B k G (n+1):=fun {cx σ t body w items K r C} h c=>by
 refine onBt_el h fun hw h=>?_
 cases items with
 | nil=>exact c _ _ _ h (for_nil ok hw)
 | cons pv rest=>
  refine opt_el h fun cx₁ hb h=>ihs h fun fl cx₂ σ₁ h H1=>?_
  cases fl with
  | nxt=>exact ihf h fun _ _ _ h H2=>c _ _ _ h (for_nxt ok hw hb H1 H2)
  | brk=>exact c _ _ _ h (for_brk ok hw hb H1)
  | ret v=>exact c _ _ _ h (for_ret ok hw hb H1)
theorem sound_while (iht:IsTS β B k G n)(ihs:ExsS β B k G n)(ihw:WhileS β B k G n):WhileS β B k G (n+1):=fun {cx σ t body K r C} h c=>by
 refine iht h fun b σ₁ h ht=>onB_el h (fun e h=>?_) fun e h=>c _ _ _ h (wh_end (e▸ht))
 refine ihs h fun fl cx₁ σ₂ h H1=>?_
 cases fl with
 | nxt=>exact ihw h fun _ _ _ h H2=>c _ _ _ h (wh_nxt (e▸ht) H1 H2)
 | brk=>exact c _ _ _ h (wh_brk (e▸ht) H1)
 | ret v=>exact c _ _ _ h (wh_ret (e▸ht) H1)
end
section
variable {B:Bs}{k:Nat}{G:Gl}{n:Nat}{β:Type}
noncomputable def putAll (l:LE)(nvs:List (Str×PV)):LE:=nvs.foldl (fun l p=>putLE l p.1 p.2) l
theorem putAll_lookup:∀ {nvs:List (Str×PV)} {l:LE} (y:Str),(nvs.map (·.1)).Nodup→(putAll l nvs).lookup y=(nvs.lookup y).or (l.lookup y)
 | [],l,y,_=>by simp[putAll]
 | (m,v)::r,l,y,hd=>by
  rw[List.map_cons,List.nodup_cons] at hd
  show (putAll (putLE l m v) r).lookup y=_
  rw[putAll_lookup y hd.2,List.lookup_cons]
  cases hy:y==m with
  | true=>
   have e:y=m:=by simpa using hy
   subst e
   have hn:r.lookup y=none:=by
    cases h:r.lookup y with
    | none=>rfl
    | some w=>exact absurd (List.mem_map.mpr ⟨(y,w),mem_of_lookup h,rfl⟩) hd.1
   rw[hn,putLE_self]; rfl
  | false=>
   have hne:y≠m:=by simpa using hy
   rw[putLE_ne _ _ hne]
theorem lookup_some_iff:∀ {nvs:List (Str×PV)} (y:Str) (v:PV),(nvs.map (·.1)).Nodup→(nvs.lookup y=some v↔(y,v)∈nvs)
 | [],y,v,_=>by simp
 | (m,w)::r,y,v,hd=>by
  rw[List.map_cons,List.nodup_cons] at hd
  rw[List.lookup_cons]
  cases hy:y==m with
  | true=>
   have e:y=m:=by simpa using hy
   subst e
   constructor
   ·intro h; cases h; exact List.mem_cons_self
   ·intro h
    rcases List.mem_cons.mp h with h | h
    ·cases h; rfl
    ·exact absurd (List.mem_map.mpr ⟨_,h,rfl⟩) hd.1
  | false=>
   have hne:y≠m:=by simpa using hy
   dsimp only
   rw[lookup_some_iff y v hd.2]
   constructor
   ·exact List.mem_cons_of_mem _
   ·intro h
    rcases List.mem_cons.mp h with h | h
    ·cases h; exact absurd rfl hne
    ·exact h
theorem lookup_reverse {nvs:List (Str×PV)}(y:Str)(hd:(nvs.map (·.1)).Nodup):nvs.reverse.lookup y=nvs.lookup y:=by
 have hd':(nvs.reverse.map (·.1)).Nodup:=by rw[List.map_reverse]; exact List.pairwise_reverse.mpr (List.Pairwise.imp (fun h=>Ne.symm h) hd)
 apply Option.ext
 intro v
 rw[lookup_some_iff y v hd',lookup_some_iff y v hd,List.mem_reverse]
theorem Fr.congr {X:List Addr}{cx cx':Cx}{env:Env}{ρ:List Addr}{h:Heap}(f:Fr B X cx env ρ h)(hn:cx'.names=cx.names)(hl:∀ y,cx'.le.lookup y=cx.le.lookup y):Fr B X cx' env ρ h where
 kind:=f.kind
 glob:=f.glob
 bt:=f.bt
 loc:=by rw[hn]; simp only[hl]; exact f.loc
 cel:=by rw[hn]; simp only[hl]; exact f.cel
 fre:=by rw[hn]; simp only[hl]; exact f.fre
 glb:=by rw[hn]; exact f.glb
 dom:=by rw[hn]; simp only[hl]; exact f.dom
 own:=f.own
 ofX:=f.ofX
 ofc:=f.ofc
 apart:=f.apart
theorem bindPairs_ok (ok:BsOk B){A:Around}{X:List Addr}{env:Env}{ρ:List Addr}{σ:Sto}{Q:Unit→Shared→Prop}{E:Value→Shared→Prop}:∀ {nvs:List (Str×PV×Value)} {cx:Cx} {s:Shared},(∀ p∈nvs,stores cx p.1=true)→St B ρ σ s→Fr B X cx env ρ s.heap→(∀ p∈nvs,VR B ρ s.heap p.2.1 p.2.2)→
  (∀ s',St B ρ σ s'→Evo B X ρ σ s.heap ρ σ s'.heap→Fr B X ⟨cx.names,putAll cx.le (nvs.map fun p=>(p.1,p.2.1))⟩ env ρ s'.heap→Q () s')→wpAny (model B.prog B.w) A (assignInOrder (nvs.map fun p=>bindName env p.1) (nvs.map fun p=>p.2.2)) Q E s
 | [],cx,s,_,x,f,_,q=>wpAny_pure (q _ x (.refl ..) f)
 | (m,v,val)::r,cx,s,hs,x,f,hr,q=>by
  have hb:bindN cx m v=some ⟨cx.names,putLE cx.le m v⟩:=if_pos (hs (m,v,val) List.mem_cons_self)
  exact assignInOrder_cons (wpAny_bindName (bind_ok ok hb x f (hr (m,v,val) List.mem_cons_self) fun s₁ x₁ e₁ f₁=>
   bindPairs_ok ok (nvs:=r) (cx:=⟨cx.names,putLE cx.le m v⟩) (fun p hp=>hs p (List.mem_cons_of_mem _ hp)) x₁ f₁ (fun p hp=>VR.evo e₁ _ (hr p (List.mem_cons_of_mem _ hp))) fun s₂ x₂ e₂ f₂=>q s₂ x₂ (e₁.trans e₂) f₂))
theorem bindNs_put:∀ {es:List Expr} {vs:List PV} {cx cx':Cx},bindNs cx es vs=some cx'→∃ names:List Str,es.map nameOf=names.map some∧names.length=vs.length∧(∀ m∈names,stores cx m=true)∧cx'=⟨cx.names,putAll cx.le (names.zip vs)⟩
 | [],[],cx,cx',h=>by obtain rfl:=Option.some.inj h; exact⟨[],rfl,rfl,fun _ h=>absurd h List.not_mem_nil,rfl⟩
 | e::es,v::vs,cx,cx',h=>by
  obtain⟨m,p,cx₁,rfl,h1,h2⟩:=bindNs_cons h
  obtain⟨hs,h1⟩:=grd_some (β:=Cx) h1
  obtain rfl:=Option.some.inj h1
  obtain⟨names,a,b,c,d⟩:=bindNs_put h2
  exact⟨m::names,congrArg (some m::·) a,congrArg (· +1) b,List.forall_mem_cons.mpr ⟨hs,c⟩,d⟩
 | [],_::_,_,_,h=>nos h
 | _::_,[],_,_,h=>nos h
theorem evK_noComp {value:Expr}{cx:Cx}{σ:Sto}{K:PV→Sto→Option β}{r:β}(h:evK G n cx σ value K=some r):(∀ a b c d,value≠ .SetComp a b c d)∧∀ a b c d e,value≠ .DictComp a b c d e:=by
 refine⟨fun a b c d e=>?_,fun a b c d e e'=>?_⟩
 ·subst e
  cases n with
  | zero=>exact nos h
  | succ n=>exact nos h
 ·subst e'
  cases n with
  | zero=>exact nos h
  | succ n=>exact nos h
theorem swaps_notComp {value:Expr}{t:Option Expr}{line:Nat}{env:Env}(h1:∀ a b c d,value≠ .SetComp a b c d)(h2:∀ a b c d e,value≠ .DictComp a b c d e):
  (∃ elt gens sc p,value= .ListComp elt gens sc p)∨swapsWith value t line env=pure false:=by
 cases value with
 | ListComp elt gens sc p=>exact .inl ⟨_,_,_,_,rfl⟩
 | SetComp a b c d=>exact (h1 _ _ _ _ rfl).elim
 | DictComp a b c d e=>exact (h2 _ _ _ _ _ rfl).elim
 | _=>exact .inr rfl
theorem swaps_tuple {value:Expr}{es:List Expr}{kk:Nat}{p:Pos}{line:Nat}{env:Env}:swapsWithSole [.Tuple es kk p] value line env=pure false:=by
 cases value <;> rfl
theorem swaps_name {elt:Expr}{gens:List Comprehension}{sc:Scope}{p q:Pos}{m:Str}{line:Nat}{env:Env}:∃ b:Bool,swapsWithSole [.Name m q] (.ListComp elt gens sc p) line env=pure b:=⟨_,rfl⟩
theorem filter_names (g:Expr→Option Str)(hg:∀ e m,g e=some m→nameOf e=some m):∀ ts:List Expr,(ts.filterMap g).length=ts.length→ts.map nameOf=(ts.filterMap g).map some
 | [],_=>rfl
 | e::es,h=>by
  cases hge:g e with
  | none=>
   rw[List.filterMap_cons,hge] at h
   have:=List.length_filterMap_le g es
   simp only[List.length_cons] at h
   lia
  | some m=>
   rw[List.filterMap_cons,hge] at h ⊢
   simp only[List.length_cons,List.map_cons] at h ⊢
   rw[hg e m hge,filter_names g hg es (by lia)]
theorem ite_ind {α:Type _}{P:α→Prop}{c:Prop} [Decidable c] {a b:α}(h1:c→P a)(h2:¬c→P b):P (if c then a else b):=by
 by_cases h:c
 ·rw[if_pos h]; exact h1 h
 ·rw[if_neg h]; exact h2 h
theorem swapped_cases {ts:List Expr}{kk:Nat}{p:Pos}{value:Expr}{env:Env}(hbad:storesOk (.Tuple ts kk p) value=true):
  swappedStores [.Tuple ts kk p] value env=pure none∨∃ names:List Str,ts.map nameOf=names.map some∧swappedStores [.Tuple ts kk p] value env=pure (some names):=by
 cases value with
 | Tuple vs kk' p'=>
  have hb:=(Bool.and_eq_true_iff.mp hbad).2
  unfold swappedStores
  dsimp only
  generalize hP:(fun X:Sem (Option (List Str))=>X=pure none∨∃ names:List Str,ts.map nameOf=names.map some∧X=pure (some names))=P
  have hn:P (pure none):=hP▸ .inl rfl
  suffices z:P _ by rw[← hP] at z; exact z
  refine ite_ind (fun _=>hn) fun _=>ite_ind (fun _=>hn) fun _=>ite_ind (fun _=>hn) fun h3=>ite_ind (fun _=>hn) fun h4=>ite_ind (fun h5=>?_) fun _=>?_
  ·exact absurd ((show (!(vs.all (constantsAlone 8)) || vs.all (foldedForSure 8))=true from hb)) (by rw[h5]; exact h4)
  ·rw[← hP]
   refine .inr ⟨_,filter_names _ (fun e m he=>?_) ts ?_,rfl⟩
   ·cases e with
    | Name=>exact (grd_some he).2
    | _=>exact nos he
   ·exact Classical.not_not.mp fun z=>h3 (Bool.or_eq_true_iff.mpr (.inl (bne_iff_ne.mpr z)))
 | _=>exact .inl rfl
end
section
variable {B:Bs}{k:Nat}{G:Gl}{n:Nat}{β:Type}{r:β}
theorem Fr.ext2 {X:List Addr}{cx:Cx}{env:Env}{ρ:List Addr}{h h':Heap}(f:Fr B X cx env ρ h)(vk:Vk B ρ h ρ h')(hX:∀ a∈X,∀ o,h.get? a=some o→h'.get? a=some o)(hc:∀ y c,env.cells.lookup y=some c→∀ o,h.get? c=some o→h'.get? c=some o):
  Fr B X cx env ρ h':=f.move vk fun a o hm h1 _ ho _=>⟨hm.elim (fun ha=>hX a ha o ho) fun h=>h.elim fun y hy=>hc y a hy o ho,h1⟩
theorem names_inj {as bs:List Str}(h:as.map some=bs.map some):as=bs:=by
 have:=congrArg (List.filterMap id) h
 simpa [List.filterMap_map] using this
theorem comp_use (ok:BsOk B){cx cx':Cx}{σ σ₁ σ₂:Sto}{elt tgt iter:Expr}{ifs:List Expr}{scope:Scope}{pos cpos q:Pos}{m:Str}{items:List PV}{w:Option (Nat×Nat)}{xs:List PV}
  (hsc:scopeOk cx scope=true) (hit:iterOk iter tgt=true) (hi:It1 B k cx σ iter items w σ₁) (hc:CompR B k ⟨scope.names,capt cx scope.names⟩ σ₁ elt tgt ifs w items xs σ₂) (hlen:xs.length≤100000)
  (hb:bindN cx m (.lst σ₂.length)=some cx') {A:Around} {X:List Addr} {env:Env} {ρ:List Addr} {s:Shared} (R:Room k A) (x:St B ρ σ s) (f:Fr B X cx env ρ s.heap) {Q:Value→Shared→Prop} {E:Value→Shared→Prop}
  (c:∀ v s' ρ',SEnd B X env ρ σ s.heap .nxt cx' (σ₂++[⟨0,.lst xs⟩]) .next s' ρ'→Q v s'):
  wpAny (model B.prog B.w) A (comprehension (.ListComp elt [⟨tgt,iter,ifs,0⟩] scope pos) scope env cpos (newList []) false (eval iter env) (some fun v=>assign (.Name m q) env v)) Q E s:=by
 refine comp_core ok hsc hit hi hc hlen R x f fun s' ρ' D C K=>?_
 obtain⟨mm,hm⟩:=K.ns
 obtain⟨vs,hp,hvs⟩:=K.acc
 obtain⟨x₂,e₂,hat,vk₂⟩:=comp_adopt ok K.st K.evo K.d0 K.dr K.dt K.db hp hvs
 have hCρ2:C∉ρ'++[D]:=fun hmem=>(List.mem_append.mp hmem).elim K.cr fun h=>K.ne (List.mem_singleton.mp h)
 show wpAny _ A (assign (.Name m q) env (.ref D)) _ _ s'
 refine assign_ok ok R (t:= .Name m q) (v:= .lst σ₂.length) hb x₂ (f.evo e₂) ⟨D,rfl,hat⟩ fun s₃ x₃ e₃ f₃=>?_
 have hCX:C∉X:=fun hx=>by obtain⟨_,_,_,o,ho,_⟩:=f.ofX C hx; rw[K.c0] at ho; exact nos ho
 have hm3:s₃.heap.Ns C mm:=hm.at' fun o ho=>e₃.kp.keep C o ho hCρ2 K.ct fun hx=>absurd hx hCX
 refine⟨mm,hm3,fun h' hs'=>?_⟩
 obtain⟨x₄,vk₄⟩:=comp_drop ok x₃ hm3 hCρ2 K.ct K.cb hs'
 refine c _ _ _ ⟨x₄,(e₂.weak.trans e₃).alter (wr:=[C]) (fun a ha=>by rw[List.mem_singleton.mp ha]; exact K.c0) (sing_keep hs'),f₃.ext2 vk₄ (fun a ha o ho=>hs'.extBut a o (fun e=>hCX (e▸ha)) ho) fun y c hc o ho=>hs'.extBut c o (fun e=>?_) ho,rfl⟩
 obtain⟨_,_,o',ho',_⟩:=f.ofc y c hc
 rw[e,K.c0] at ho'
 exact nos ho'
theorem asg_usual (ok:BsOk B){cx cx':Cx}{σ σ₁:Sto}{m:Str}{q pos:Pos}{value:Expr}{v:PV}(H:E1 B k cx σ value v σ₁)(hb:bindN cx m v=some cx'){A:Around}{X:List Addr}{env:Env}{ρ:List Addr}{s:Shared}(hs:swapsWith value (some (.Name m q)) pos.line env=pure false)
  (R:Room k A) (x:St B ρ σ s) (f:Fr B X cx env ρ s.heap) {Q:Flow→Shared→Prop} {E:Value→Shared→Prop} (c:∀ f s' ρ',SEnd B X env ρ σ s.heap .nxt cx' σ₁ f s' ρ'→Q f s'):wpAny (model B.prog B.w) A (exec (.Assign [.Name m q] value pos) env) Q E s:=
 wpAny_Assign_Name (H.use R x f fun va ρ₁ s₁ x₁ e₁ f₁ r₁=>bind_ok ok hb x₁ f₁ r₁ fun s₂ x₂ e₂ f₂=>c _ _ _ ⟨x₂,e₁.weak.trans e₂,f₂,rfl⟩) hs
theorem asg_comp (ok:BsOk B){cx cx':Cx}{σ σ₁ σ₂:Sto}{elt tgt iter:Expr}{ifs:List Expr}{scope:Scope}{pos p q:Pos}{m:Str}{items:List PV}{w:Option (Nat×Nat)}{xs:List PV}
  (hsc:scopeOk cx scope=true) (hit:iterOk iter tgt=true) (hi:It1 B k cx σ iter items w σ₁) (hc:CompR B k ⟨scope.names,capt cx scope.names⟩ σ₁ elt tgt ifs w items xs σ₂) (hlen:xs.length≤100000)
  (hb:bindN cx m (.lst σ₂.length)=some cx'):S1 B k cx σ (exec (.Assign [.Name m q] (.ListComp elt [⟨tgt,iter,ifs,0⟩] scope p) pos)) .nxt cx' (σ₂++[⟨0,.lst xs⟩]):=fun {A X env ρ s Q E} R x f c=>by
 obtain⟨b,hsb⟩:=@swaps_name elt [⟨tgt,iter,ifs,0⟩] scope p q m pos.line env
 cases b with
 | false=>exact asg_usual ok (sound_ListComp ok hsc hit hi hc hlen) hb hsb R x f c
 | true=>
  show wpAny _ A (exec _ env) _ _ s
  rw[PyProof.Rows.exec_Assign]
  refine wpAny_bind (wpAny_standAt ?_)
  rw[hsb]
  refine wpAny_bind (wpAny_pure ?_)
  rw[if_pos rfl]
  exact wpAny_bind (wpAny_bind (comp_use (q:=q) (cpos:=firstIterPos [⟨tgt,iter,ifs,0⟩] p) (pos:=p) ok hsc hit hi hc hlen hb R x f fun _ s' ρ' h=>wpAny_pure (wpAny_pure (c _ _ _ h))))
theorem sound_AssignName (ok:BsOk B)(all:∀ m,AllS β B k G m){cx:Cx}{σ:Sto}{m:Str}{q pos:Pos}{value:Expr}{K:Fl→Cx→Sto→Option β}{C:Prop}(h:(evK G n cx σ value fun v σ₁=>opt (bindN cx m v) fun cx'=>K .nxt cx' σ₁)=some r)
  (c:∀ fl cx' σ',K fl cx' σ'=some r→S1 B k cx σ (exec (.Assign [.Name m q] value pos)) fl cx' σ'→C):C:=by
 have hn:=evK_noComp h
 by_cases hl:∃ elt gens sc p,value= .ListComp elt gens sc p
 ·obtain⟨elt,gens,sc,p,rfl⟩:=hl
  cases n with
  | zero=>exact nos h
  | succ n=>
   refine inv_ListComp (all n).comp (all n).it h fun tgt iter ifs items w σ₁ xs σ₂ hg h1 h2 H1 H2 hlen h3=>opt_el h3 fun cx' hb h4=>?_
   subst hg
   exact c _ _ _ h4 (asg_comp ok h1 h2 H1 H2 hlen hb)
 ·exact (all n).ev h fun v σ₁ h H=>opt_el h fun cx' hb h=>c _ _ _ h fun R x f q=>asg_usual ok H hb ((swaps_notComp hn.1 hn.2).resolve_left hl) R x f q
theorem zip3_fst:∀ (ns:List Str) (as:List PV) (bs:List Value),ns.length=as.length→bs.length=as.length→(ns.zip (as.zip bs)).map (·.1)=ns∧(ns.zip (as.zip bs)).map (·.2.2)=bs∧(ns.zip (as.zip bs)).map (fun p=>(p.1,p.2.1))=ns.zip as
 | [],[],[],_,_=>⟨rfl,rfl,rfl⟩
 | n::ns,a::as,b::bs,h1,h2=>by
  obtain⟨i1,i2,i3⟩:=zip3_fst ns as bs (Nat.succ.inj h1) (Nat.succ.inj h2)
  exact⟨congrArg (n::·) i1,congrArg (b::·) i2,congrArg ((n,a)::·) i3⟩
theorem zip3_vr {ρ:List Addr}{h:Heap}:∀ (ns:List Str) {as:List PV} {bs:List Value},VRs B ρ h as bs→∀ p∈ns.zip (as.zip bs),VR B ρ h p.2.1 p.2.2
 | [],_,_,_,p,hp=>absurd hp List.not_mem_nil
 | n::ns,[],_,_,p,hp=>absurd hp List.not_mem_nil
 | n::ns,a::as,bs,r,p,hp=>by
  obtain⟨v,t,rfl,h1,h2⟩:=r
  rcases List.mem_cons.mp hp with rfl | hp
  ·exact h1
  ·exact zip3_vr ns h2 p hp
theorem sound_AssignTuple (ok:BsOk B){cx cx':Cx}{σ σ₁:Sto}{ts:List Expr}{kk:Nat}{q pos:Pos}{value:Expr}{vs:List PV}(hst:storesOk (.Tuple ts kk q) value=true)(H:E1 B k cx σ value (.tup vs) σ₁)
  (hb:bindNs cx ts vs=some cx'):S1 B k cx σ (exec (.Assign [.Tuple ts kk q] value pos)) .nxt cx' σ₁:=fun {A X env ρ s Q E} R x f c=>by
 rcases swapped_cases (env:=env) hst with hw | ⟨names,hnames,hw⟩
 ·exact Assign_Tuple (H.use R x f fun va ρ₁ s₁ x₁ e₁ f₁ r₁=>assign_ok (t:= .Tuple ts kk q) (v:= .tup vs) ok R (show bindT cx (.Tuple ts kk q) (.tup vs)=some cx' from hb) x₁ f₁ r₁ fun s₂ x₂ e₂ f₂=>c _ _ _ ⟨x₂,e₁.weak.trans e₂,f₂,rfl⟩) swaps_tuple hw
 ·refine Assign_Tuple_swapped (H.use R x f fun va ρ₁ s₁ x₁ e₁ f₁ r₁=>?_) swaps_tuple hw
  obtain⟨names',h1,h2,h3,rfl⟩:=bindNs_put hb
  obtain rfl:=names_inj (hnames.symm.trans h1)
  have hnd:names.Nodup:=by
   have:(ts.map nameOf).Nodup:=by
    unfold storesOk at hst
    rw[Bool.and_eq_true,decide_eq_true_eq] at hst
    exact hst.1
   rw[hnames] at this
   exact List.Pairwise.of_map _ (fun a b hab e=>hab (by rw[e])) this
  obtain⟨a,us,rfl,ha1,ha2,ht,hr⟩:=r₁
  have hlen:=hr.length
  have hsz:us.size=names.length:=by rw[h2]; exact hlen
  rw[← hsz]
  refine wpAny_unpackItems_tuple R.handled ht fun h' he'=>?_
  obtain⟨x₂,e₂⟩:=x₁.grow ok (s':={ s₁ with heap:=h' }) rfl x₁.gens fun b o ho=>he' b o (fun e=>by rw[e,get?_size] at ho; exact nos ho) ho
  obtain⟨t1,t2,t3⟩:=zip3_fst names vs us.toList h2 hlen
  have hr2:=zip3_vr names (VRs.evo e₂ _ hr)
  revert t1 t2 t3 hr2
  generalize names.zip (vs.zip us.toList)=trip
  intro t1 t2 t3 hr2
  have hk1:((names.zip vs).map (·.1)).Nodup:=by rw[List.map_fst_zip (Nat.le_of_eq h2)]; exact hnd
  have hA:(names.reverse.map fun n=>bindName env n)=trip.reverse.map (fun p=>bindName env p.1):=by rw[← t1,← List.map_reverse,List.map_map]; rfl
  have hB:us.toList.reverse=trip.reverse.map (fun p=>p.2.2):=by rw[← t2,List.map_reverse]
  rw[hA,hB]
  refine bindPairs_ok ok (nvs:=trip.reverse) (cx:=cx) (fun p hp=>h3 p.1 (t1▸List.mem_map.mpr ⟨p,List.mem_reverse.mp hp,rfl⟩)) x₂ (f₁.evo e₂) (fun p hp=>hr2 p (List.mem_reverse.mp hp)) fun s₃ x₃ e₃ f₃=>c _ _ _ ⟨x₃,(e₁.trans e₂).weak.trans e₃,f₃.congr rfl fun y=>?_,rfl⟩
  show (putAll _ _).lookup y=(putAll _ _).lookup y
  rw[List.map_reverse,t3,putAll_lookup y hk1,putAll_lookup y (by rw[List.map_reverse]; exact List.pairwise_reverse.mpr (List.Pairwise.imp (fun h=>Ne.symm h) hk1)),lookup_reverse y hk1]
end
section
variable {B:Bs}{k:Nat}{G:Gl}{n:Nat}{β:Type}
theorem erase_vrs {ρ:List Addr}{h:Heap}:∀ {xs:List PV} {vs:List Value} (i:Nat),VRs B ρ h xs vs→VRs B ρ h (xs.eraseIdx i) (vs.eraseIdx i)
 | [],vs,i,r=>by rw[show vs=[] from r]; exact rfl
 | x::xs,vs,0,r=>by obtain⟨v,t,rfl,h1,h2⟩:=r; exact h2
 | x::xs,vs,i+1,r=>by obtain⟨v,t,rfl,h1,h2⟩:=r; exact⟨v,_,rfl,h1,erase_vrs i h2⟩
theorem delete_Subscript {o i:Expr}{pos:Pos}{env:Env}:delete (.Subscript o i pos) env=(do
  let ov ← eval o env
  let iv ← holding [ov] (eval i env)
  standAt pos
  holding [ov,iv] (delItem ov iv)
  release [ov,iv] []):=rfl
section
variable {cx cx':Cx}{σ σ₁ σ₂:Sto}{a b:List Stmt}{t e:Expr}{v u:PV}{fl:Fl}{pos:Pos}
theorem st_if {bb:Bool}(H:Tr B k cx σ t bb σ₁)(H2:S1 B k cx σ₁ (execs (if bb then a else b)) fl cx' σ₂):S1 B k cx σ (exec (.If t a b pos)) fl cx' σ₂:=fun R x f q=>
 wpAny_If (H.use R x f fun b' ρ₁ s₁ x₁ e₁ f₁ hb=>by
  have e:b'=bb:=hb
  subst e
  cases b' with
  | true=>exact H2 R x₁ f₁ fun f s' ρ' p=>q f s' ρ' (p.after e₁.weak)
  | false=>exact H2 R x₁ f₁ fun f s' ρ' p=>q f s' ρ' (p.after e₁.weak))
theorem st_ret (H:E1 B k cx σ e v σ₁):S1 B k cx σ (exec (.Return (some e) pos)) (.ret v) cx σ₁:=fun R x f q=>
 wpAny_Return_some (H.use R x f fun va ρ₁ s₁ x₁ e₁ f₁ r₁=>q _ _ _ ⟨x₁,e₁.weak,f₁,va,rfl,r₁⟩)
theorem st_expr (hs:∀ env,swapsWith e none pos.line env=pure false)(H:E1 B k cx σ e v σ₁):S1 B k cx σ (exec (.Expr e pos)) .nxt cx σ₁:=fun {A X env ρ s Q E} R x f q=>
 wpAny_Expr_any (H.use R x f fun va ρ₁ s₁ x₁ e₁ f₁ r₁=>q _ _ _ ⟨x₁,e₁.weak,f₁,rfl⟩) (by unfold interactive; rw[f.kind]; rfl) (hs env)
theorem st_assert {m:Option Expr}(H:Tr B k cx σ t true σ₁):S1 B k cx σ (exec (.Assert t m pos)) .nxt cx σ₁:=fun R x f q=>
 wpAny_Assert_holds (H.use R x f fun b' ρ₁ s₁ x₁ e₁ f₁ hb=>⟨hb,q _ _ _ ⟨x₁,e₁.weak,f₁,rfl⟩⟩)
theorem st_break:S1 B k cx σ (exec (.Break pos)) .brk cx σ:=fun R x f q=>wpAny_Break (q _ _ _ ⟨x,.refl ..,f,rfl⟩)
theorem st_aug (ok:BsOk B){y:Str}{q:Pos}{op:Operator}{r:PV}(ha:cx.le.lookup y=some u)(H:E1 B k cx σ e v σ₁)(hr:AugS B op u v r)(hbd:bindN cx y r=some cx'):S1 B k cx σ (exec (.AugAssign (.Name y q) op e pos)) .nxt cx' σ₁:=fun {A X env ρ s Q E} R x f c=>by
 refine wpAny_AugAssign_Name ?_
 have fin:∀ va,VR B ρ s.heap u va→wpAny (model B.prog B.w) A (eval e env) (fun v s₂=>wpAny (model B.prog B.w) A (inplaceOp op va v) (fun r s₃=>wpAny (model B.prog B.w) A (storeName env y r) (fun _=>Q .next) E s₃) E s₂) E s:=fun va hva=>
  H.use R x f fun vb ρ₁ s₁ x₁ e₁ f₁ r₁=>(hr A ρ₁ σ₁ s₁ va vb x₁ (VR.evo e₁ _ hva) r₁).use fun vr ρ₂ s₂ x₂ e₂ r₂=>
   bind_ok ok hbd x₂ (f₁.evo e₂) r₂ fun s₃ x₃ e₃ f₃=>c _ _ _ ⟨x₃,(e₁.trans e₂).weak.trans e₃,f₃,rfl⟩
 rcases stores_some (grd_some (β:=Cx) hbd).1 with hl | hl
 ·obtain⟨m,hns,hm⟩:=f.loc
  obtain⟨hk,hv⟩:=hm y hl
  obtain⟨val,e1,e2⟩:=hv u ha
  exact wpAny_loadName_local f.kind hk hns e1 (fin val e2)
 ·obtain⟨hk,c',w,hc,_,hw,hv⟩:=f.cel y hl
  obtain⟨val,rfl,e2⟩:=hv u ha
  exact wpAny_loadName_cell f.kind hk hc hw (fin val e2)
theorem fits_of {xs:List PV}{j:Int}{p:Nat}(hlen:xs.length≤10000)(hp:seqIndex? j xs.length=some p):Builtin.List.listFitsIndex j=true∧p < xs.length:=by
 have:(-(2:Int) ^ 63≤j∧j < 2 ^ 63)∧p < xs.length:=by
  rcases seqIndex_cases hp with⟨h0,h1,rfl⟩ | ⟨h0,h1,rfl⟩ <;> lia
 refine⟨?_,this.2⟩
 unfold Builtin.List.listFitsIndex
 exact Bool.and_eq_true _ _▸⟨decide_eq_true this.1.1,decide_eq_true this.1.2⟩
theorem st_del (ok:BsOk B){l jx:Expr}{q:Pos}{i p:Nat}{j:Int}{xs:List PV}(H1:E1 B k cx σ l (.lst i) σ₁)(H2:E1 B k cx σ₁ jx (.int j) σ₂)(hxs:getL σ₂ i=some xs)(hlen:xs.length≤10000)(hp:seqIndex? j xs.length=some p):
  S1 B k cx σ (exec (.Delete [.Subscript l jx q] pos)) .nxt cx (setCell σ₂ i (.lst (xs.eraseIdx p))):=fun {A X env ρ s Q E} R x f c=>by
 refine wpAny_Delete (wpAny_deleteEach_cons ?_)
 rw[delete_Subscript]
 refine wpAny_bind (H1.use R x f fun va ρ₁ s₁ x₁ e₁ f₁ r₁=>wpAny_bind (wpAny_holding (H2.use R x₁ f₁ fun vk ρ₂ s₂ x₂ e₂ f₂ r₂=>?_)))
 obtain⟨a,rfl,ha⟩:=VR.evo e₂ _ r₁
 obtain⟨u,rfl⟩:=r₂
 obtain⟨vs,hpl,hr⟩:=x₂.list hxs ha
 have hsz:vs.toArray.size=xs.length:=hr.length
 obtain⟨hfit,hpi⟩:=fits_of hlen hp
 have hpv:p < vs.toArray.size:=hsz.symm▸hpi
 refine wpAny_bind (wpAny_standAt (wpAny_bind (wpAny_holding (wpAny_delItem_plain hpl hfit (by rw[hsz]; exact hp) (fun h' hp' hs'=>?_) (by rw[hsz]; exact Nat.le_trans hlen (by decide))))))
 refine PyProof.Rows.wpAny_release' (wpAny_deleteEach_nil ?_)
 have hp'':h'.PlainList a (vs.eraseIdx p).toArray:=by
  have e:vs.toArray.eraseIdxIfInBounds p=(vs.eraseIdx p).toArray:=by
   unfold Array.eraseIdxIfInBounds
   rw[dif_pos hpv]
   exact List.eraseIdx_toArray ..
  rw[← e]; exact hp'
 obtain⟨mm,ho'⟩:=id hp''
 obtain⟨x₃,e₃⟩:=x₂.set ok (s':={ s₂ with heap:=h' }) (d:= .lst (xs.eraseIdx p)) rfl rfl ha (fun b o hb ho=>hs'.extBut b o hb ho)
  (fun σ' e=>⟨vs.eraseIdx p,hp'',erase_vrs p (VRs.evo e _ hr)⟩) ⟨_,ho',fun vs h=>by cases h⟩
 have e123:=(e₁.trans e₂).trans e₃
 exact c _ _ _ ⟨x₃,e123.weak,f.evo e123,rfl⟩
theorem st_for {it:Expr}{body:List Stmt}{items:List PV}{w:Option (Nat×Nat)}(hok:iterOk it t=true)(hi:It1 B k cx σ it items w σ₁)(H:For1 B k cx σ₁ t body w items fl cx' σ₂):S1 B k cx σ (exec (.For t it body [] pos)) fl cx' σ₂:=fun {A X env ρ s Q E} R x f q=>
 wpAny_For (hi.run A X env ρ s R x f _ _ fun val s₁' ρ₁ s₁ x₁ e₁ hiter=>hiter _ _ fun itv s₂ wr J T I hT hJ x₂ e₂=>
  H A X env itv items T ρ₁ σ₁ s₁ wr J _ I (hT t hok) R x₁ (fun f s' ρ' p=>q f s' ρ' (p.after e₁.weak)) 0 ρ₁ s₂ ⟨x₂,e₂.weak,f.evo (e₁.trans e₂),hJ,Nat.zero_le _,rfl⟩) (hi.fold env)
theorem st_while {body:List Stmt}(H:While1 B k cx σ t body fl cx' σ₂):S1 B k cx σ (exec (.While t body [] pos)) fl cx' σ₂:=fun {A X env ρ s Q E} R x f q=>
 wpAny_While (H A X env ρ s _ R x f fun f s' ρ' p=>q f s' ρ' p)
end
section
variable {cx:Cx}{σ:Sto}{K:Fl→Cx→Sto→Option β}{r:β}{C:Prop}
theorem bindT_tup {cx cx':Cx}{t:Expr}{v:PV}(h:bindT cx t v=some cx'):(¬ ∃ m q,t= .Name m q)→∃ es kk q vs,t= .Tuple es kk q∧v= .tup vs∧bindNs cx es vs=some cx':=
 bindT_ind (P:=fun t v=>(¬ ∃ m q,t= .Name m q)→∃ es kk q vs,t= .Tuple es kk q∧v= .tup vs∧bindNs cx es vs=some cx') h (fun n p v h hn=>(hn ⟨n,p,rfl⟩).elim) fun es kk p vs h _=>⟨es,kk,p,vs,rfl,rfl,h⟩
theorem el_assign (ok:BsOk B)(all:∀ m,AllS β B k G m){ts:List Expr}{v:Expr}{pos:Pos}(h:exK G (n+1) cx σ (.Assign ts v pos) K=some r)(c:∀ fl cx' σ',K fl cx' σ'=some r→S1 B k cx σ (exec (.Assign ts v pos)) fl cx' σ'→C):C:=by
 obtain⟨t,e,h⟩:=one_some h
 subst e
 refine onBt_el h fun hok h=>?_
 by_cases hn:∃ m q,t= .Name m q
 ·obtain⟨m,q,rfl⟩:=hn
  exact sound_AssignName ok all h c
 ·refine (all n).ev h fun x σ₁ h H=>opt_el h fun cx' hb h2=>?_
  obtain⟨es,kk,q,vs,rfl,rfl,hb⟩:=bindT_tup hb hn
  exact c _ _ _ h2 (sound_AssignTuple ok hok H hb)
theorem el_aug (ok:BsOk B)(ih:EvS β B k G n){t:Expr}{op:Operator}{v:Expr}{pos:Pos}(h:exK G (n+1) cx σ (.AugAssign t op v pos) K=some r)(c:∀ fl cx' σ',K fl cx' σ'=some r→S1 B k cx σ (exec (.AugAssign t op v pos)) fl cx' σ'→C):C:=by
 cases t with
 | Name y q=>
   refine opt_el h fun u ha h=>ih h fun b σ₁ h H=>?_
   obtain⟨v,h,hr⟩:=augK_some (B:=B) h
   exact opt_el h fun cx' hb h=>c _ _ _ h (st_aug ok ha H hr hb)
 | _=>exact nos h
theorem el_expr (ih:EvS β B k G n){e:Expr}{pos:Pos}(h:exK G (n+1) cx σ (.Expr e pos) K=some r)(c:∀ fl cx' σ',K fl cx' σ'=some r→S1 B k cx σ (exec (.Expr e pos)) fl cx' σ'→C):C:=by
 cases e with
 | Call a b d p=>exact ih h fun v σ₁ h H=>c _ _ _ h (st_expr (fun _=>rfl) H)
 | _=>exact nos h
theorem delK_some {ts:List Expr}{f:Expr→Expr→Option β}(h:delK ts f=some r):∃ l j q,ts=[.Subscript l j q]∧f l j=some r:=by
 obtain⟨t,e,h⟩:=one_some h
 subst e
 cases t with
 | Subscript l j q=>exact⟨l,j,q,rfl,h⟩
 | _=>exact nos h
theorem el_del (ok:BsOk B)(ih:EvS β B k G n){ts:List Expr}{pos:Pos}(h:exK G (n+1) cx σ (.Delete ts pos) K=some r)(c:∀ fl cx' σ',K fl cx' σ'=some r→S1 B k cx σ (exec (.Delete ts pos)) fl cx' σ'→C):C:=by
 obtain⟨l,jx,q,e,h⟩:=delK_some h
 subst e
 refine ih h fun a σ₁ h H1=>?_
 obtain⟨i,e,h⟩:=onLst_some h
 subst e
 refine ih h fun b σ₂ h H2=>?_
 obtain⟨j,e,h⟩:=onInt_some h
 subst e
 exact opt_el h fun xs hxs h=>grd_el h fun hlen h=>opt_el h fun p hp h=>c _ _ _ h (st_del ok H1 H2 hxs (Nat.le_of_not_lt hlen) hp)
end
theorem sound_ex (ok:BsOk B)(all:∀ m,AllS β B k G m)(ihs:ExsS β B k G n)(ihf:ForS β B k G n)(ihw:WhileS β B k G n):ExS β B k G (n+1):=fun {cx σ st K r C} h c=>by
 cases st with
 | Assign ts v pos=>exact el_assign ok all h c
 | AugAssign t op v pos=>exact el_aug ok (all n).ev h c
 | If t a b pos=>exact (all n).isT h fun bb σ₁ h H=>onB_el h (fun e h=>ihs h fun _ _ _ h H2=>c _ _ _ h (st_if (e▸H) H2)) fun e h=>ihs h fun _ _ _ h H2=>c _ _ _ h (st_if (e▸H) H2)
 | Return v pos=>exact opt_el h fun e he h=>(all n).ev h fun v σ₁ h H=>c _ _ _ h (he▸st_ret H)
 | Expr e pos=>exact el_expr (all n).ev h c
 | Assert t m pos=>cases m with
  | none=>exact (all n).isT h fun bb σ₁ h H=>onBt_el h fun e h=>c _ _ _ h (st_assert (e▸H))
  | some _=>exact nos h
 | Break pos=>exact c _ _ _ h st_break
 | Delete ts pos=>exact el_del ok (all n).ev h c
 | For t it body els pos=> 
  obtain⟨e,h⟩:=noneL_some h
  subst e
  exact onBt_el h fun hok h=>(all n).it h fun items w σ₁ h H=>ihf h fun _ _ _ h H2=>c _ _ _ h (st_for hok H H2)
 | While t body els pos=>
  obtain⟨e,h⟩:=noneL_some h
  subst e
  exact ihw h fun _ _ _ h H2=>c _ _ _ h (st_while H2)
 | _=>exact nos h
structure AllX (β:Type) (B:Bs) (k:Nat) (G:Gl) (n:Nat):Prop where
 ex:ExS β B k G n
 exs:ExsS β B k G n
 fr:ForS β B k G n
 wh:WhileS β B k G n
theorem all_run (ok:BsOk B){mg mb}(gok:GlOk B k G mg mb):∀ n,AllX β B k G n
 | 0=>⟨fun h=>nos h,fun h=>nos h,fun h=>nos h,fun h=>nos h⟩
 | n+1=>
  have ih:=all_run ok gok n
  have all:=all_sound (β:=β) ok gok
  ⟨sound_ex ok all ih.exs ih.fr ih.wh,sound_exs ih.ex ih.exs,sound_for ok ih.exs ih.fr,sound_while (all n).isT ih.exs ih.wh⟩
end
theorem bindL_get {kindOf:Str→Option NameKind}{x:Str}(hx:kindOf x=some .local):∀ {binds:List (Str×Value)} {m:Str→Option Value},(binds.map (·.1)).Nodup→bindL kindOf binds m x=(binds.lookup x).or (m x)
 | [],m,_=>by simp[bindL]
 | (n,v)::r,m,hd=>by
  rw[List.map_cons,List.nodup_cons] at hd
  unfold bindL
  rw[bindL_get hx hd.2,List.lookup_cons]
  cases hxn:x==n with
  | true=>
   have e:x=n:=by simpa using hxn
   subst e
   have hn:r.lookup x=none:=by
    cases h:r.lookup x with
    | none=>rfl
    | some w=>exact absurd (List.mem_map.mpr ⟨(x,w),mem_of_lookup h,rfl⟩) hd.1
   rw[hn,if_pos hx]; simp
  | false=>
   have hne:x≠n:=by simpa using hxn
   split
   ·simp[hne]
   ·rfl
theorem bindC_get {kindOf:Str→Option NameKind}{x:Str}(hx:kindOf x≠some .local):∀ {binds:List (Str×Value)} {m:Str→Option Value},(binds.map (·.1)).Nodup→bindC kindOf binds m x=(binds.lookup x).or (m x)
 | [],m,_=>by simp[bindC]
 | (n,v)::r,m,hd=>by
  rw[List.map_cons,List.nodup_cons] at hd
  unfold bindC
  rw[bindC_get hx hd.2,List.lookup_cons]
  cases hxn:x==n with
  | true=>
   have e:x=n:=by simpa using hxn
   subst e
   have hn:r.lookup x=none:=by
    cases h:r.lookup x with
    | none=>rfl
    | some w=>exact absurd (List.mem_map.mpr ⟨(x,w),mem_of_lookup h,rfl⟩) hd.1
   rw[hn,if_neg hx]; simp
  | false=>
   have hne:x≠n:=by simpa using hxn
   split
   ·rfl
   ·simp[hne]
theorem cellsFrom_has {x:Str}:∀ {names:List (Str×NameKind)} {n:Nat} {acc:List (Str×Addr)},((x,NameKind.cell)∈names∨(acc.lookup x).isSome=true)→((cellsFrom n names acc).lookup x).isSome=true
 | [],n,acc,h=>h.elim (fun h=>nomatch h) fun h=>h
 | (m,kd)::r,n,acc,h=>by
  unfold cellsFrom
  split
  ·rename_i hk
   refine cellsFrom_has ?_
   rcases h with h | h
   ·rcases List.mem_cons.mp h with e | h
    ·cases e; right; simp[List.lookup_cons]
    ·exact .inl h
   ·right
    rw[List.lookup_cons]
    cases x==m
    ·exact h
    ·rfl
  ·rename_i hk
   refine cellsFrom_has ?_
   rcases h with h | h
   ·rcases List.mem_cons.mp h with e | h
    ·cases e; simp at hk
    ·exact .inl h
   ·exact .inr h
section
variable {B:Bs}{k:Nat}{G:Gl}
theorem zip_lookup_vr {ρ:List Addr}{h:Heap}{x:Str}{v:PV}:∀ {ps:List Str} {args:List PV} {vals:List Value},VRs B ρ h args vals→(ps.zip args).lookup x=some v→∃ val,(ps.zip vals).lookup x=some val∧VR B ρ h v val
 | [],args,vals,r,e=>by simp at e
 | p::ps,[],vals,r,e=>by simp at e
 | p::ps,a::args,vals,r,e=>by
  obtain⟨w,ws,rfl,h1,h2⟩:=r
  rw[List.zip_cons_cons,List.lookup_cons] at e ⊢
  cases hx:x==p with
  | true=>rw[hx] at e; cases e; exact⟨w,rfl,h1⟩
  | false=>rw[hx] at e; exact zip_lookup_vr h2 e
structure DefAt (B:Bs) (a:Addr) (fd:FuncData) (names:List (Str×NameKind)) (params:List Str) (body:List Stmt):Prop where
 obj:∃ o,B.h₀.get? a=some o∧o.data= .func fd
 tb:a∉B.Tb
 code:∃ c o vs t,fd.code= .ref c∧c∉B.Tb∧B.h₀.get? c=some o∧o.data= .fields vs∧vs[1]?=some (.str fd.qualname t)
 body:fd.body= .stmts body
 clo:fd.closure=[]
 nms:fd.scope.names=names
 kind:fd.scope.kind= .function
 gen:fd.scope.isGenerator=false
 co:fd.scope.isCoroutine=false
 glob:fd.globals=mainNs
 bt:fd.builtins=builtinsNs
 bind:∀ vals:List Value,vals.length=params.length→bindArgs fd ⟨vals,[]⟩=pure (params.zip vals)
 nodup:params.Nodup
 pk:∀ p∈params,names.lookup p=some .local∨names.lookup p=some .cell
theorem fn_ok (ok:BsOk B){mg mb}(gok:GlOk B k G mg mb){a:Addr}{fd:FuncData}{names:List (Str×NameKind)}{params:List Str}{body:List Stmt}(D:DefAt B a fd names params body)(n:Nat):
  FnOk B (k+1) (.ref a) (runK G n names params body) where
 able:=let ⟨o,ho,hd⟩:=D.obj; callable_fn ho D.tb hd
 run:=fun A ρ σ s args vals v σ' R x hr h=>Ok.intro fun Q q=>by
  obtain⟨o,ho,hd⟩:=D.obj
  obtain⟨hlen,h⟩:=grd_some h
  have hvl:vals.length=params.length:=by rw[hr.length,hlen]
  have hkp:∀ b o,B.h₀.get? b=some o→b∉B.Tb→s.heap.get? b=some o:=x.base
  have hlim:s.heap.NoLimit:=let ⟨mc,hn,hz⟩:=ok.lim; ⟨mc,hn.at' fun o ho=>x.base _ o ho ok.stat,hz⟩
  obtain⟨c,oc,vs,t,hc,hct,hco,hcd,hcq⟩:=D.code
  have hcode:s.heap.CodeRec fd.code fd.qualname:=⟨c,oc,vs,t,hc,x.base c oc hco hct,hcd,hcq⟩
  have hmap:(params.zip vals).map (·.1)=params:=List.map_fst_zip (by lia)
  have hnd:((params.zip vals).map (·.1)).Nodup:=by rw[hmap]; exact D.nodup
  have hpk:∀ y∈params.zip vals,fd.scope.names.lookup y.1=some .local∨(fd.scope.names.lookup y.1=some .cell∧((cellsFrom (s.heap.objs.size+1) fd.scope.names []).lookup y.1).isSome=true):=fun y hy=>by
   have hy':y.1∈params:=by rw[← hmap]; exact List.mem_map.mpr ⟨y,hy,rfl⟩
   rw[D.nms]
   rcases D.pk y.1 hy' with h | h
   ·exact .inl h
   ·exact .inr ⟨h,cellsFrom_has (.inl (mem_of_lookup h))⟩
  refine wpAny_call (codeAny_call_cells R.lim (x.base a o ho D.tb) hd hlim hcode D.body (D.bind vals hvl) D.clo hpk (fun s₁ ic=>?_) D.co D.gen D.kind)
  generalize hE:callEnvC fd s.heap.objs.size a=env at ic ⊢
  have hloc:env.locals=s.heap.objs.size:=by rw[← hE]; rfl
  have hnames:env.scope.names=names:=by rw[← hE]; exact D.nms
  have hcells:env.cells=cellsFrom (s.heap.objs.size+1) names []:=by rw[← hE]; show cellsFrom _ fd.scope.names []=_; rw[D.nms]
  have hkindOf:∀ y,env.kindOf y=names.lookup y:=fun y=>by show env.scope.names.lookup y=_; rw[hnames]
  have dead:∀ b,s.heap.objs.size≤b→s.heap.get? b=none:=fun b hb=>by
   cases e:s.heap.get? b with
   | none=>rfl
   | some o=>exact absurd (Heap.lt_size e) (Nat.not_lt.mpr hb)
  have fresh:∀ b,s.heap.objs.size≤b→b∉ρ∧b∉B.Tb∧B.h₀.get? b=none:=fun b hb=>by
   have hb':=dead b hb
   refine⟨fun hm=>?_,fun hm=>?_,?_⟩
   ·obtain⟨o,ho⟩:=x.alive hm; rw[hb'] at ho; cases ho
   ·obtain⟨o,ho⟩:=ok.tb _ x.inv _ hm; rw[hb'] at ho; cases ho
   ·cases h0:B.h₀.get? b with
    | none=>rfl
    | some o=>
     by_cases ht:b∈B.Tb
     ·obtain⟨o',ho'⟩:=ok.tb _ x.inv _ ht; rw[hb'] at ho'; cases ho'
     ·rw[x.base b o h0 ht] at hb'; cases hb'
  obtain⟨h₁,tk,hs₁⟩:=ic.toInCall.same
  obtain⟨x₁,e₁⟩:=x.grow ok (s':=s₁) (by rw[hs₁]) (by rw[hs₁]; exact x.gens) ic.toInCall.keep
  have hr₁:=VRs.evo e₁ _ hr
  let X:List Addr:=env.locals::names.filterMap fun y=>env.cells.lookup y.1
  have hcab:∀ y c,env.cells.lookup y=some c→s.heap.objs.size≤c:=fun y c hc=>by
   have:=ic.above y c (mem_of_lookup hc)
   rw[hloc] at this
   exact Nat.le_of_lt this
  have fr:Fr B X ⟨names,params.zip args⟩ env ρ s₁.heap:={
   kind:=by rw[← hE]; exact D.kind
   glob:=by rw[← hE]; exact D.glob
   bt:=by rw[← hE]; exact D.bt
   loc:=⟨_,ic.toInCall.ns,fun y hy=>⟨by rw[hkindOf]; exact hy,fun u hu=>by
    obtain⟨val,hv,hvr⟩:=zip_lookup_vr hr₁ hu
    exact⟨val,by rw[bindL_get (by rw[hkindOf]; exact hy) hnd,hv]; rfl,hvr⟩⟩⟩
   cel:=fun y hy=>by
    have hs:=cellsFrom_has (n:=s.heap.objs.size+1) (acc:=[]) (.inl (mem_of_lookup hy))
    obtain⟨c,hc⟩:=Option.isSome_iff_exists.mp hs
    rw[← hcells] at hc
    refine⟨by rw[hkindOf]; exact hy,c,_,hc,List.mem_cons_of_mem _ (List.mem_filterMap.mpr ⟨(y,.cell),mem_of_lookup hy,hc⟩),ic.cell y c hc,fun u hu=>?_⟩
    obtain⟨val,hv,hvr⟩:=zip_lookup_vr hr₁ hu
    have hnl:env.kindOf y≠some .local:=by rw[hkindOf,show names.lookup y=some .cell from hy]; decide
    exact⟨val,by rw[bindC_get hnl hnd,hv]; rfl,hvr⟩
   fre:=fun y hy u hu=>by
    obtain⟨val,hv,hvr⟩:=zip_lookup_vr hr₁ hu
    have:y∈params:=by rw[← hmap]; exact List.mem_map.mpr ⟨_,mem_of_lookup hv,rfl⟩
    dsimp only at hy
    rcases D.pk y this with h | h <;> rw[h] at hy <;> cases hy
   glb:=fun y hy=>by rw[hkindOf]; exact hy
   dom:=fun y u hu=>by
    obtain⟨val,hv,hvr⟩:=zip_lookup_vr hr₁ hu
    have:y∈params:=by rw[← hmap]; exact List.mem_map.mpr ⟨_,mem_of_lookup hv,rfl⟩
    rcases D.pk y this with h | h
    ·exact .inl h
    ·exact .inr (.inl h)
   own:=List.mem_cons_self
   ofX:=fun b hb=>by
    rcases List.mem_cons.mp hb with rfl | hb
    ·obtain⟨h1,h2,h3⟩:=fresh env.locals (by rw[hloc]; exact Nat.le_refl _)
     obtain⟨o',es,ep,ho',hd',_⟩:=ic.toInCall.ns
     exact⟨h1,h2,h3,o',ho',.inl ⟨_,_,hd'⟩⟩
    ·obtain⟨⟨y,kd⟩,hy,hc⟩:=List.mem_filterMap.mp hb
     obtain⟨h1,h2,h3⟩:=fresh b (hcab y b hc)
     obtain⟨o',ho',hd'⟩:=ic.cell y b hc
     exact⟨h1,h2,h3,o',ho',.inr ⟨_,hd'⟩⟩
   ofc:=fun y c hc=>by
    obtain⟨h1,h2,h3⟩:=fresh c (hcab y c hc)
    obtain⟨o',ho',hd'⟩:=ic.cell y c hc
    exact⟨h1,h2,o',ho',.inr ⟨_,hd'⟩⟩
   apart:=fun y z c hy hz=>name_of_addr ic.apart (mem_of_lookup hy) (mem_of_lookup hz) }
  have Xdead:∀ b∈X,s.heap.get? b=none:=fun b hb=>by
   rcases List.mem_cons.mp hb with rfl | hb
   ·exact dead _ (by rw[hloc]; exact Nat.le_refl _)
   ·obtain⟨⟨y,kd⟩,hy,hc⟩:=List.mem_filterMap.mp hb
    exact dead _ (hcab y b hc)
  refine (all_run (β:=PV×Sto) ok gok n).exs h fun fl cx' σ₂ hK H=>H (R.deeper env) x₁ fr fun f s' ρ' p=>?_
  cases fl with
  | ret u=> 
   obtain⟨rfl,rfl⟩:=Prod.mk.inj (Option.some.inj hK)
   obtain⟨val,hf,hv⟩:=p.fl
   subst hf
   exact q _ _ ρ' p.st ((e₁.weak.trans p.evo).forget Xdead) hv
  | nxt=> 
   obtain⟨rfl,rfl⟩:=Prod.mk.inj (Option.some.inj hK)
   have hf:f= .next:=p.fl
   subst hf
   exact q _ _ ρ' p.st ((e₁.weak.trans p.evo).forget Xdead) rfl
  | brk=>exact nos hK
end
section
variable {B:Bs}{A:Around}{ρ:List Addr}{σ:Sto}{s:Shared}
theorem insOk_t {d:CD}(h:insOk d=true):∃ k:Int,d= .ins [("_initial_size",.int k)]:=by
 cases d with
 | ins kvs=>
  cases kvs with
  | nil=>exact Bool.noConfusion h
  | cons p l=>
   cases l with
   | cons _ _=>exact Bool.noConfusion h
   | nil=>
    obtain⟨n,v⟩:=p
    cases v with
    | int k=>exact⟨k,congrArg (fun n=>CD.ins [(n,.int k)]) (of_decide_eq_true h)⟩
    | _=>exact Bool.noConfusion h
 | _=>exact Bool.noConfusion h
theorem accOk_ins {i di:Nat}{c:Cell}{xs:List PV}(hc:σ[i]?=some c)(hd:c.d= .acc di xs)(h:accOk σ (.lst i)=true):∃ (c':Cell) (k:Int),σ[di]?=some c'∧c'.d= .ins [("_initial_size",.int k)]:=by
 have h:optB σ[i]? true (fun c=>accC σ c.d)=true:=h
 rw[hc] at h
 have h:accC σ c.d=true:=h
 rw[hd] at h
 obtain⟨c',hc',h⟩:=optB_t h
 exact⟨c',(insOk_t h).imp fun k e=>And.intro hc' e⟩
theorem acc_inst (x:St B ρ σ s){i di:Nat}{c:Cell}{xs:List PV}{a:Addr}(hc:σ[i]?=some c)(hd:c.d= .acc di xs)(ha:ρ[i]?=some a)(hok:accOk σ (.lst i)=true):
  ∃ (vs:List Value) (n:Nat) (D:Addr) (oD:Obj) (k:Int) (t:Tok),ρ[di]?=some D∧s.heap.get? a=some { cls:= .ref B.cls,data:= .seq vs.toArray n,dict:=some D }∧VRs B ρ s.heap xs vs∧s.heap.get? D=some oD∧
   InstAt s.heap a { cls:= .ref B.cls,data:= .seq vs.toArray n,dict:=some D } B.cls (some oD)∧
   lookIn "_initial_size" oD=some (some (.int k t))∧(∀ name:Str,name≠"_initial_size"→lookIn name oD=some none):=by
 have hcell:=x.cells i c a hc ha
 rw[hd] at hcell
 obtain⟨vs,n,D,ho,hr,hD⟩:=hcell
 obtain⟨c',k,hc',hd'⟩:=accOk_ins hc hd hok
 have hins:=x.cells di c' D hc' hD
 rw[hd'] at hins
 obtain⟨m,⟨oD,es,ep,hoD,hdD,hk,hm⟩,hl⟩:=hins
 have hany:es.toList.any (·.refKey)=false:=by
  rw[List.any_eq_false]; intro e he; obtain⟨y,t,h⟩:=hk e (by simpa using he); simp[DictEntry.refKey,h]
 have look:∀ name,lookIn name oD=some (m name):=fun name=>by
  rw[← hm name]
  unfold lookIn nsFind findBy
  rw[hdD]
  dsimp only
  rw[← Array.find?_toList]
  cases es.toList.find? (·.key.isStr name) with
  | some e=>rfl
  | none=>simp[hany]
 have h1:=hl "_initial_size"
 simp only[List.lookup_cons,beq_self_eq_true] at h1
 obtain⟨v,hv,t,rfl⟩:=h1
 refine⟨vs,n,D,oD,k,t,hD,ho,hr,hoD,⟨ho,rfl,rfl,hoD⟩,by rw[look,hv],fun name hne=>?_⟩
 have h2:=hl name
 have hb:(name==("_initial_size":Str))=false:=by simpa using hne
 simp only[List.lookup_cons,hb,List.lookup_nil] at h2
 rw[look,h2]
theorem canon_list_ga:(Manifest.canonical "list.__getattribute__" !="object.__getattribute__")=false:=by decide+kernel
theorem acc_getMethod (x:St B ρ σ s){K:Frag}(hK:∀ b o,K.lookup b=some o→B.h₀.get? b=some o∧b∉B.Tb){i di:Nat}{c:Cell}{xs:List PV}{a f:Addr}{name:Str}{pl:Sem Bool}{E:Value→Shared→Prop}{Q:Value×List Value→Shared→Prop}
  (hc:σ[i]?=some c) (hd:c.d= .acc di xs) (ha:ρ[i]?=some a) (hok:accOk σ (.lst i)=true)
  (hga:findIn K (.ref B.cls) "__getattribute__"=some (some (.builtin "list.__getattribute__"))) (hk:findIn K (.ref B.cls) "__getattr__"=some none) (hf:findIn K (.ref B.cls) name=some (some (.ref f)))
  (ht:typeIn K (.ref f)=some (.type "function")) (hne:name≠"_initial_size") (h:Q (.ref f,[.ref a]) s):
  wpAny (model B.prog B.w) A (getMethod (.ref a) name pl) Q E s:=by
 obtain⟨vs,n,D,oD,k,t,hD,ho,hr,hoD,I,h1,h2⟩:=acc_inst x hc hd ha hok
 have X:K.In s.heap:=fun b o e=>x.base b o (hK b o e).1 (hK b o e).2
 unfold getMethod specialOf
 refine wpAny_bind (wpAny_bind (I.type.here ((looks_findIn X hga).here ?_)))
 dsimp only
 rw[canon_list_ga,if_neg (by decide)]
 refine wpAny_bind (wpAny_bind (I.type.here ((looks_findIn X hk).here ?_)))
 refine wpAny_bind (wpAny_bind (I.type.here ((looks_findIn X hf).here (wpAny_bind ((looks_typeIn X ht).here ?_)))))
 rw[if_neg (by decide+kernel)]
 refine wpAny_bind (wpAny_loadPart ho ?_)
 refine wpAny_bind (wpAny_bind (wpAny_loadPart hoD ?_))
 rw[nsLook_of (h2 name hne)]
 exact wpAny_pure (wpAny_bind (wpAny_rule (wpAny_pure h)))
end
section
variable {prog:Program}{w:World}{A:Around}{E:Value→Shared→Prop}{s:Shared}
theorem sub_call {owner n id:String}{b:Builtin}{self:Value}{rest:List Value}{Q:Value→Shared→Prop}
  (hsplit:splitId id=some (owner,n)) (hkind:(Manifest.find? owner).bind (·.attrs.lookup n)=some .slot∨(Manifest.find? owner).bind (·.attrs.lookup n)=some .method) (hq:plainId id=true)
  (hinst:∀ (A:Around) (E:Value→Shared→Prop) (Q:Bool→Shared→Prop),Q true s→wpAny (model prog w) A (isInstance self (.type owner)) Q E s)
  (hb:entryFor table id=some b) (ha:argsOk id ⟨self::rest,[]⟩)
  (hc:wpAny (model prog w) A.in1 (b ⟨self::rest,[]⟩) (fun fin s'=>∃ v,fin= .done (.ret v)∧Q v s') E s):wpAny (model prog w) A (call (.builtin id) (self::rest)) Q E s:=by
 have hk:builtinKind id=(Manifest.find? owner).bind (·.attrs.lookup n):=by simp only[builtinKind,hsplit]
 refine wpAny_call (codeAny_call_builtin hq hb ?_)
 have fin:wpAny (model prog w) A.in1 (b ⟨self::rest,[]⟩) _ _ s:=wpAny_mono hc (Q':=fun fin s'=>match fin with
   | .done f=>(match (Except.ok f:Result) with | .ok (.ret v)=>Q v s' | .ok _=>False | .error e=>E e s')
   | .again c'=>c'.quiet=true∧codeAny (model prog w) A c' (fun r s'=>match r with | .ok (.ret v)=>Q v s' | .ok _=>False | .error e=>E e s') s')
  (fun fin s' h'=>by obtain⟨v,rfl,hv⟩:=h'; exact hv) fun _ _ h'=>h'
 rcases hkind with h | h <;>
 ·unfold checkBuiltinCall
  rw[hk,h,hsplit]
  dsimp only
  refine wpAny_bind (hinst _ _ _ ?_)
  refine if_f Bool.false_ne_true ?_
  cases hsig:Manifest.signature? id with
  | none=>exact wpAny_pure fin
  | some sig=>
   simp only[argsOk,hsig] at ha
   have h2:Bind.checkArgs id sig ⟨self::rest,[]⟩=pure ():=ha
   show wpAny _ A.in1 (Bind.checkArgs id sig ⟨self::rest,[]⟩) _ _ s
   rw[h2]; exact wpAny_pure fin
end
section
variable {B:Bs}{A:Around}{ρ:List Addr}{σ:Sto}{s:Shared}
structure ClsOk (B:Bs) (K:Frag):Prop where
 at_:∀ b o,K.lookup b=some o→B.h₀.get? b=some o∧b∉B.Tb
 ga:findIn K (.ref B.cls) "__getattribute__"=some (some (.builtin "list.__getattribute__"))
 gattr:findIn K (.ref B.cls) "__getattr__"=some none
 sub:mroIn K B.cls (.type "list")=some true
theorem ClsOk.in {K:Frag}(C:ClsOk B K)(x:St B ρ σ s):K.In s.heap:=fun b o e=>x.base b o (C.at_ b o e).1 (C.at_ b o e).2
theorem acc_isList {K:Frag}(C:ClsOk B K)(x:St B ρ σ s){a:Addr}{o:Obj}(ho:s.heap.get? a=some o)(hc:o.cls= .ref B.cls){E:Value→Shared→Prop}{Q:Bool→Shared→Prop}(h:Q true s):
  wpAny (model B.prog B.w) A (isInstance (.ref a) (.type "list")) Q E s:=by
 unfold isInstance
 have hT:Looks (model B.prog B.w) s.heap (typeOf (.ref a)) (.ref B.cls):=hc▸(Looks.ld ho).andThen .now
 exact wpAny_bind (hT.here ((looks_mroIn (C.in x) C.sub).here h))
theorem acc_getBuiltin {K:Frag}(C:ClsOk B K)(x:St B ρ σ s){i di:Nat}{c:Cell}{xs:List PV}{a:Addr}{name:Str}{id:String}{pl:Sem Bool}{E:Value→Shared→Prop}{Q:Value×List Value→Shared→Prop}
  (hc:σ[i]?=some c) (hd:c.d= .acc di xs) (ha:ρ[i]?=some a) (hok:accOk σ (.lst i)=true)
  (hf:findIn K (.ref B.cls) name=some (some (.builtin id))) (hty:typeOf (.builtin id)=pure (.type "method_descriptor")) (hne:name≠"_initial_size") (h:Q (.builtin id,[.ref a]) s):
  wpAny (model B.prog B.w) A (getMethod (.ref a) name pl) Q E s:=by
 obtain⟨vs,n,D,oD,k,t,hD,ho,hr,hoD,I,h1,h2⟩:=acc_inst x hc hd ha hok
 have X:=C.in x
 unfold getMethod specialOf
 refine wpAny_bind (wpAny_bind (I.type.here ((looks_findIn X C.ga).here ?_)))
 dsimp only
 rw[canon_list_ga,if_neg (by decide)]
 refine wpAny_bind (wpAny_bind (I.type.here ((looks_findIn X C.gattr).here ?_)))
 refine wpAny_bind (wpAny_bind (I.type.here ((looks_findIn X hf).here (wpAny_bind (wpAny_of_eq hty ?_)))))
 rw[if_neg (by decide+kernel)]
 refine wpAny_bind (wpAny_loadPart ho ?_)
 refine wpAny_bind (wpAny_bind (wpAny_loadPart hoD ?_))
 rw[nsLook_of (h2 name hne)]
 exact wpAny_pure (wpAny_bind (wpAny_rule (wpAny_pure h)))
noncomputable def appendF:Fn:=fun args σ=>two args fun a v=>onLst a fun i=>opt σ[i]? fun c=>accD c.d fun di xs=>grd (xs.length≤10000) (some (.none,setCell σ i (.acc di (xs++[v]))))
theorem acc_append (ok:BsOk B){K:Frag}(C:ClsOk B K){k:Nat}:FnOk B k (.builtin "list.append") appendF where
 able:=callable_builtin _
 run:=fun A ρ σ s args vals v σ' R x r h=>Ok.intro fun Q q=>by
  obtain⟨a0,u,e1,i1⟩:=two_some h
  obtain⟨i,e2,i2⟩:=onLst_some i1
  obtain⟨c,hc,i3⟩:=opt_some i2
  obtain⟨di,xs,hd,i4⟩:=accD_some i3
  obtain⟨hlen,i5⟩:=grd_some i4
  obtain⟨rfl,rfl⟩:=Prod.mk.inj (Option.some.inj i5)
  subst e1 e2
  obtain⟨_,_,rfl,⟨a,rfl,ha⟩,va,_,rfl,r2,r3⟩:=r
  rw[show _=[] from r3]
  have hcell:=x.cells i c a hc ha
  rw[hd] at hcell
  obtain⟨vs,n,D,ho,hr,hD⟩:=hcell
  have hl:vs.toArray.size≤10000:=by rw[List.size_toArray,hr.length]; exact hlen
  refine sub_call (owner:="list") (n:="append") (by decide+kernel) (by first | exact .inl (by decide+kernel) | exact .inr (by decide+kernel)) (by decide+kernel) (fun A E Q q=>acc_isList C x ho rfl q) entry_list_append (args_list_append _ _) ?_
  show wpAny _ _ (updateSeq a (·.push va) >>= fun _=>ret .none) _ _ s
  refine wpAny_bind ?_
  refine wpAny_updateSeq ho rfl (wpAny_pure ⟨.none,rfl,?_⟩) (Nat.le_trans hl (by decide)) (by rw[Array.size_push]; exact Nat.le_trans (Nat.succ_le_succ hl) (by decide))
  have ho':(s.heap.update a (Obj.mapSeq (·.push va))).get? a=some { cls:= .ref B.cls,data:= .seq (vs++[va]).toArray (n+1),dict:=some D }:=by
   rw[Heap.get?_update_self _ ho (by simp[Obj.mapSeq,Obj.isFreed])]
   simp[Obj.mapSeq]
  obtain⟨x',e'⟩:=x.set ok (s':={ s with heap:=s.heap.update a (Obj.mapSeq (·.push va)) }) (d:= .acc di (xs++[u])) rfl rfl ha (fun b o hb ho=>(Heap.get?_update_other _ _ (Ne.symm hb)).trans ho)
   (fun σ' e=>⟨vs++[va],n+1,D,ho',VRs.append (VRs.evo e _ hr) ⟨va,[],rfl,VR.evo e _ r2,rfl⟩,hD⟩) ⟨_,ho',fun vs h=>by cases h⟩
  exact q _ _ ρ x' e' rfl
end
section
variable {prog:Program}{w:World}{A:Around}{E:Value→Shared→Prop}{s:Shared}
end
section
variable {B:Bs}{A:Around}{ρ:List Addr}{σ:Sto}{s:Shared}
theorem cls_type {o:Obj}{a:Addr}{h:Heap}{C:Addr}{M:Model}(ho:h.get? a=some o)(hc:o.cls= .ref C):Looks M h (typeOf (.ref a)) (.ref C):=hc▸(Looks.ld ho).andThen .now
theorem acc_pyIter {K:Frag}(C:ClsOk B K)(hf:findIn K (.ref B.cls) "__iter__"=some (some (.builtin "list.__iter__")))(x:St B ρ σ s){a:Addr}{o:Obj}(ho:s.heap.get? a=some o)(hc:o.cls= .ref B.cls)
  {E:Value→Shared→Prop} {Q:Value→Shared→Prop}
  (hQ:Q (.ref s.heap.objs.size) { s with heap:=s.heap.push { cls:= .type "list_iterator",data:= .fields #[.ref a,.int 0 0] } }):
  wpAny (model B.prog B.w) A (pyIter (.ref a)) Q E s:=by
 have X:=C.in x
 have hcall:∀ Q':Value→Shared→Prop,Q' (.ref s.heap.objs.size) { s with heap:=s.heap.push { cls:= .type "list_iterator",data:= .fields #[.ref a,.int 0 0] } }→
   wpAny (model B.prog B.w) A (call (.builtin "list.__iter__") [.ref a]) Q' E s:=fun Q' h=>by
  refine sub_call (owner:="list") (n:="__iter__") (by decide+kernel) (by first | exact .inl (by decide+kernel) | exact .inr (by decide+kernel)) (by decide+kernel) (fun A E Q q=>acc_isList C x ho hc q) entry_list_iter (args_list_iter _) ?_
  show wpAny _ _ (do ret (← newFields "list_iterator" [.ref a,rawInt 0])) _ _ s
  exact wpAny_bind (wpAny_newObj_type (wpAny_pure ⟨_,rfl,h⟩))
 have sp:∀ {Q':Option Value→Shared→Prop},Q' (some (.builtin "list.__iter__")) s→wpAny (model B.prog B.w) A (specialOf (.ref a) "__iter__") Q' E s:=fun h=>
  wpAny_bind ((cls_type ho hc).here ((looks_findIn X hf).here h))
 unfold pyIter
 refine wpAny_bind (sp ?_)
 show wpAny _ A (callSpecialIfBoundUnlessNone? (.ref a) "__iter__" _ >>= _) Q E s
 have nxt:∀ Q':Value→Shared→Prop,Q' (.ref s.heap.objs.size) { s with heap:=s.heap.push { cls:= .type "list_iterator",data:= .fields #[.ref a,.int 0 0] } }→
   wpAny (model B.prog B.w) A (specialOf (.ref s.heap.objs.size) "__next__" >>= fun r=>match r with
    | none=>do rule "iter.non-iterator"; raiseError "TypeError" s!"iter() returned non-iterator of type '{← typeNameOf (.ref s.heap.objs.size)}'"
    | some _=>pure (.ref s.heap.objs.size)) Q' E { s with heap:=s.heap.push { cls:= .type "list_iterator",data:= .fields #[.ref a,.int 0 0] } }:=fun Q' h=>
  wpAny_bind (wpAny_specialOf (T:="list_iterator") ⟨_,Heap.get?_push_size _ rfl,rfl⟩ slot_listiter_next.lookup (wpAny_pure h))
 refine wpAny_bind ?_
 simp -iota only[callSpecialIfBoundUnlessNone?,bindSpecialIfBound?]
 refine wpAny_holding (wpAny_bind (wpAny_bind (sp ?_)))
 simp only[slot_list_iter.bind]
 refine wpAny_bind (wpAny_askSetting (wpAny_ite ?_))
 have fin:∀ (Q':Option Value→Shared→Prop) (refuse:Sem Value),Q' (some (.ref s.heap.objs.size)) { s with heap:=s.heap.push { cls:= .type "list_iterator",data:= .fields #[.ref a,.int 0 0] } }→
   wpAny (model B.prog B.w) A (if (Value.builtin "list.__iter__"==Value.none)=true then (refuse >>= fun v=>pure (some v)) else (call (.builtin "list.__iter__") [.ref a] >>= fun v=>pure (some v))) Q' E s:=fun Q' refuse h=>by
  simp -iota only[builtin_beq_none,Bool.false_eq_true,if_false]
  exact wpAny_bind (hcall _ (wpAny_pure h))
 split
 ·exact wpAny_bind (wpAny_pure (wpAny_pure (fin _ _ (nxt _ hQ))))
 ·exact wpAny_tryCatch (wpAny_bind (wpAny_pure (wpAny_pure (fin _ _ (nxt _ hQ)))))
end
section
variable {prog:Program}{w:World}{A:Around}{E:Value→Shared→Prop}{s:Shared}
end
section
variable {prog:Program}{w:World}{A:Around}{E:Value→Shared→Prop}{s:Shared}
end
structure CodesOk (B:Bs) (codes:List (Addr×Addr)):Prop where
 inv:∀ h,B.inv h↔∀ cp∈codes,∃ ps,h.IsCode cp.1 cp.2 ps∧h.TableAt cp.1 cp.2 ps
 tb:∀ a,a∈B.Tb↔∃ c,(c,a)∈codes
 off:∀ cp∈codes,cp.1∉B.Tb
 lim:B.h₀.NoLimit
 stat:cStatics∉B.Tb
theorem CodesOk.ok {B:Bs}{codes:List (Addr×Addr)}(C:CodesOk B codes):BsOk B where
 tb:=fun h hi a ha=>by
  obtain⟨c,hc⟩:=(C.tb a).mp ha
  obtain⟨ps,_,ht⟩:=(C.inv h).mp hi _ hc
  exact⟨_,ht.2⟩
 lim:=C.lim
 stat:=C.stat
 inv:=fun h h' hi hk hc=>(C.inv h').mpr fun cp hcp=>by
  obtain⟨ps,⟨o,vs,file,tf,flags,tg,inF,text,tt,op,g1,g2,r1,r2,r3,r4,r5,g3,r⟩,⟨o',vs',t1,t2,t3,t4⟩,t5⟩:=(C.inv h).mp hi cp hcp
  have hc':=hc cp.1 o' vs' t1 t2 t3
  have hp:=hk cp.2 ((C.tb cp.2).mpr ⟨cp.1,hcp⟩)
  have e:o=o':=by rw[g1] at t1; exact Option.some.inj t1
  exact⟨ps,⟨o,vs,file,tf,flags,tg,inF,text,tt,op,e▸hc',g2,r1,r2,r3,r4,r5,hp _ g3,r⟩,⟨o',vs',hc',t2,t3,t4⟩,hp _ t5⟩
section
variable {B:Bs}{A:Around}{ρ:List Addr}{σ:Sto}{s:Shared}{E:Value→Shared→Prop}
end
structure MethDef (B:Bs) (a:Addr) (fd:FuncData) (names:List (Str×NameKind)) (params:List Str) (body:List Stmt) (clo:List (Str×Addr)):Prop where
 obj:∃ o,B.h₀.get? a=some o∧o.data= .func fd
 tb:a∉B.Tb
 code:∃ c o vs t,fd.code= .ref c∧c∉B.Tb∧B.h₀.get? c=some o∧o.data= .fields vs∧vs[1]?=some (.str fd.qualname t)
 body:fd.body= .stmts body
 closure:fd.closure=clo
 cell:∀ x c,clo.lookup x=some c→c∉B.Tb∧∃ o w,B.h₀.get? c=some o∧o.data= .cell w
 apart:∀ x y c,clo.lookup x=some c→clo.lookup y=some c→x=y
 nms:fd.scope.names=names
 nocell:∀ y∈names,y.2≠ .cell
 kind:fd.scope.kind= .function
 gen:fd.scope.isGenerator=false
 co:fd.scope.isCoroutine=false
 glob:fd.globals=mainNs
 bt:fd.builtins=builtinsNs
 nodup:params.Nodup
 pk:∀ p∈params,names.lookup p=some .local
theorem lookup_none_of {α:Type}:∀ {l:List (Str×α)} {x:Str},(∀ y∈l,y.1≠x)→l.lookup x=none
 | [],_,_=>rfl
 | (n,v)::r,x,h=>by
  rw[List.lookup_cons]
  have:(x==n)=false:=by simpa using fun e=>h (n,v) List.mem_cons_self e.symm
  rw[this]
  exact lookup_none_of fun y hy=>h y (List.mem_cons_of_mem _ hy)
theorem lookup_rev' {α:Type}{l:List (Str×α)}(hn:(l.map (·.1)).Nodup)(x:Str):l.reverse.lookup x=l.lookup x:=by
 induction l with
 | nil=>rfl
 | cons p r ih=>
  obtain⟨n,v⟩:=p
  rw[List.map_cons,List.nodup_cons] at hn
  have app:∀ (a b:List (Str×α)),(a++b).lookup x=(a.lookup x).or (b.lookup x):=fun a b=>by
   induction a with
   | nil=>rfl
   | cons p a ih'=>
    obtain⟨m,u⟩:=p
    rw[List.cons_append,List.lookup_cons,List.lookup_cons]
    cases x==m with
    | true=>rfl
    | false=>exact ih'
  rw[List.reverse_cons,app,ih hn.2,List.lookup_cons,List.lookup_cons]
  cases hx:x==n with
  | false=>simp
  | true=>
   have e:x=n:=by simpa using hx
   subst e
   rw[lookup_none_of fun y hy e=>hn.1 (List.mem_map.mpr ⟨y,hy,e⟩)]
   rfl
section
variable {B:Bs}{k:Nat}{A:Around}{ρ:List Addr}{σ:Sto}{s:Shared}
theorem St.dead {B:Bs}(ok:BsOk B){ρ:List Addr}{σ:Sto}{s:Shared}(x:St B ρ σ s){b:Addr}(hb:s.heap.get? b=none):b∉ρ∧b∉B.Tb∧B.h₀.get? b=none:=by
 refine⟨fun hm=>?_,fun hm=>?_,?_⟩
 ·obtain⟨o,ho⟩:=x.alive hm; rw[hb] at ho; cases ho
 ·obtain⟨o,ho⟩:=ok.tb _ x.inv _ hm; rw[hb] at ho; cases ho
 ·cases h0:B.h₀.get? b with
  | none=>rfl
  | some o=>
   by_cases ht:b∈B.Tb
   ·obtain⟨o',ho'⟩:=ok.tb _ x.inv _ ht; rw[hb] at ho'; cases ho'
   ·rw[x.base b o h0 ht] at hb; cases hb
theorem St.noLimit {B:Bs}(ok:BsOk B){ρ:List Addr}{σ:Sto}{s:Shared}(x:St B ρ σ s):s.heap.NoLimit:=
 let ⟨mc,hn,hz⟩:=ok.lim; ⟨mc,hn.at' fun o ho=>x.base _ o ho ok.stat,hz⟩
theorem meth_code (ok:BsOk B){a:Addr}{fd:FuncData}{names:List (Str×NameKind)}{params:List Str}{body:List Stmt}{clo:List (Str×Addr)}(D:MethDef B a fd names params body clo)
  (R:Room (k+1) A) (x:St B ρ σ s) {vals vals':List Value} {args:List PV} (hb:BindsTo s fd ⟨vals,[]⟩ (params.zip vals')) (hr:VRs B ρ s.heap args vals') (hlen:args.length=params.length) {v:PV} {σ':Sto}
  (h:∀ s₁,St B ρ σ s₁→Evo B [] ρ σ s.heap ρ σ s₁.heap→Fr B [s.heap.objs.size] ⟨names,params.zip args⟩ (callEnv fd s.heap.objs.size a) ρ s₁.heap→VRs B ρ s₁.heap args vals'→
   s₁.heap.Ns s.heap.objs.size (fun y=>(params.zip vals').lookup y)→
   _root_.PySem.wpAt (model B.prog B.w) (A.deeper (callEnv fd s.heap.objs.size a)) (.func body (callEnv fd s.heap.objs.size a)) (execs body (callEnv fd s.heap.objs.size a))
    (fun f s'=>∃ ρ',St B ρ' σ' s'∧Evo B [s.heap.objs.size] ρ σ s₁.heap ρ' σ' s'.heap∧VR B ρ' s'.heap v (match f with | .ret v=>v | _=> .none)) (fun _ _=>False) s₁):
  codeAny (model B.prog B.w) A (.call (.ref a) ⟨vals,[]⟩) (fun r s'=>match r with
   | .ok (.ret val)=>∃ ρ',St B ρ' σ' s'∧Evo B [] ρ σ s.heap ρ' σ' s'.heap∧VR B ρ' s'.heap v val
   | _=>False) s:=by
 obtain⟨o,ho,hd⟩:=D.obj
 have hvl:vals'.length=params.length:=by rw[hr.length,hlen]
 obtain⟨c,oc,vs,t,hc,hct,hco,hcd,hcq⟩:=D.code
 have hcode:s.heap.CodeRec fd.code fd.qualname:=⟨c,oc,vs,t,hc,x.base c oc hco hct,hcd,hcq⟩
 have hmap:(params.zip vals').map (·.1)=params:=List.map_fst_zip (by omega)
 have hnd:((params.zip vals').map (·.1)).Nodup:=by rw[hmap]; exact D.nodup
 have hdead:=get?_size s.heap
 obtain⟨f1,f2,f3⟩:=x.dead ok hdead
 have hkindOf:∀ y,(callEnv fd s.heap.objs.size a).kindOf y=names.lookup y:=fun y=>by show fd.scope.names.lookup y=_; rw[D.nms]
 have hcells:(callEnv fd s.heap.objs.size a).cells=clo:=D.closure
 refine (ks_codeAny_call_defAt R.lim (x.base a o ho D.tb) hd (x.noLimit ok) hcode D.body hb (by rw[D.nms]; exact D.nocell) (fun y hy=>?_) (fun h₁ hns hk=>?_) D.co D.gen D.kind)
 ·have hy':y.1∈params:=by rw[← hmap]; exact List.mem_map.mpr ⟨y,hy,rfl⟩
  rw[D.nms]
  exact D.pk y.1 hy'
 ·obtain⟨x₁,e₁⟩:=x.grow ok (s':={ s with heap:=h₁,toks:=s.toks+(params.zip vals').length }) rfl x.gens hk
  have hr₁:=VRs.evo e₁ _ hr
  have hns':h₁.Ns s.heap.objs.size (fun y=>(params.zip vals').lookup y):=by
   have:(fun y=>(params.zip vals').lookup y)=fun y=>(params.zip vals').reverse.lookup y:=funext fun y=>(lookup_rev' hnd y).symm
   rw[this]; exact hns
  refine ks_wpAt_mono (h _ x₁ e₁ ?_ hr₁ hns') (fun f s' ⟨ρ',x',e',hv⟩=>?_) fun _ _ e=>e.elim
  ·refine {
    kind:=D.kind
    glob:=D.glob
    bt:=D.bt
    loc:=⟨_,hns',fun y hy=>⟨by rw[hkindOf]; exact hy,fun u hu=>zip_lookup_vr hr₁ hu⟩⟩
    cel:=fun y hy=>absurd rfl (D.nocell _ (mem_of_lookup hy))
    fre:=fun y hy u hu=>?_
    glb:=fun y hy=>by rw[hkindOf]; exact hy
    dom:=fun y u hu=>?_
    own:=List.mem_cons_self
    ofX:=fun b hb=>?_
    ofc:=fun y c hc=>?_
    apart:=fun y z c hy hz=>by rw[hcells] at hy hz; exact D.apart y z c hy hz }
   ·obtain⟨val,hv,hvr⟩:=zip_lookup_vr hr₁ hu
    have:y∈params:=by rw[← hmap]; exact List.mem_map.mpr ⟨_,mem_of_lookup hv,rfl⟩
    have h2:=D.pk y this
    dsimp only at hy
    rw[h2] at hy; cases hy
   ·obtain⟨val,hv,hvr⟩:=zip_lookup_vr hr₁ hu
    have:y∈params:=by rw[← hmap]; exact List.mem_map.mpr ⟨_,mem_of_lookup hv,rfl⟩
    exact .inl (D.pk y this)
   ·rw[List.mem_singleton] at hb
    subst hb
    obtain⟨o',es,ep,ho',hd',_⟩:=hns'
    exact⟨f1,f2,f3,o',ho',.inl ⟨_,_,hd'⟩⟩
   ·rw[hcells] at hc
    obtain⟨h1,oc',w',h2,h3⟩:=D.cell y c hc
    refine⟨fun hm=>?_,h1,oc',hk _ _ (x.base c oc' h2 h1),.inr ⟨_,h3⟩⟩
    rw[x.fresh c hm] at h2; cases h2
  ·exact⟨ρ',x',(e₁.weak.trans e').forget (fun b hb=>by rw[List.mem_singleton] at hb; subst hb; exact hdead),hv⟩
theorem meth_enter (ok:BsOk B){a:Addr}{fd:FuncData}{names:List (Str×NameKind)}{params:List Str}{body:List Stmt}{clo:List (Str×Addr)}(D:MethDef B a fd names params body clo)
  (R:Room (k+1) A) (x:St B ρ σ s) {vals vals':List Value} {args:List PV} (hb:BindsTo s fd ⟨vals,[]⟩ (params.zip vals')) (hr:VRs B ρ s.heap args vals') (hlen:args.length=params.length) {v:PV} {σ':Sto}
  (h:∀ s₁ {Q:Flow→Shared→Prop},St B ρ σ s₁→Evo B [] ρ σ s.heap ρ σ s₁.heap→Fr B [s.heap.objs.size] ⟨names,params.zip args⟩ (callEnv fd s.heap.objs.size a) ρ s₁.heap→VRs B ρ s₁.heap args vals'→
   s₁.heap.Ns s.heap.objs.size (fun y=>(params.zip vals').lookup y)→(∀ f s' ρ',St B ρ' σ' s'→Evo B [s.heap.objs.size] ρ σ s₁.heap ρ' σ' s'.heap→VR B ρ' s'.heap v (match f with | .ret v=>v | _=> .none)→Q f s')→
   _root_.PySem.wpAt (model B.prog B.w) (A.deeper (callEnv fd s.heap.objs.size a)) (.func body (callEnv fd s.heap.objs.size a)) (execs body (callEnv fd s.heap.objs.size a)) Q (fun _ _=>False) s₁):
  Ok B A ρ σ s (call (.ref a) vals) σ' (Is B v):=by
 refine wpAny_call (codeAny_mono (meth_code ok D R x hb hr hlen fun s₁ x₁ e₁ fr r₁ hns=>h s₁ x₁ e₁ fr r₁ hns fun f s' ρ' x e v=>⟨ρ',x,e,v⟩) fun r s' hr'=>?_)
 rcases r with e | (v | _ | _ | _) <;> first | exact hr' | exact hr'.elim
end
structure BoundKind (id T BT g:String):Prop where
 ty:typeOf (.builtin id)=pure (.type T)
 slot:Slot T "__get__" g
 entry:∃ Bi,entryFor table g=some Bi
 args:∀ a b c,argsOk g ⟨[a,b,c],[]⟩
 run:∀ {M:Model} {A:Around} {E:Value→Shared→Prop} {s:Shared} {P:Fin→Shared→Prop} {x C:Addr} {Bi:Builtin},entryFor table g=some Bi→
  (∀ (A:Around) (E:Value→Shared→Prop) (Q:Bool→Shared→Prop),Q true s→wpAny M A (isInstance (.ref x) (.type "list")) Q E s)→
  (∀ (A:Around) (E:Value→Shared→Prop) (Q:Bool→Shared→Prop),Q true s→wpAny M A (isType (.ref C)) Q E s)→
  P (.done (.ret (.ref s.heap.objs.size))) { s with heap:=s.heap.push { cls:= .type BT,data:= .fields #[.builtin id,.ref x] } }→wpAny M A (Bi ⟨[.builtin id,.ref x,.ref C],[]⟩) P E s
 bt:BT="builtin_function_or_method"∨BT="method-wrapper"
theorem slot_md_get:Slot "method_descriptor" "__get__" "method_descriptor.__get__":=
 .of (owner:="method_descriptor") (n:="__get__") (by rw[typeLookup_type,builtinLookup_eq_fast]; kernel_rfl) (by decide+kernel) (by decide+kernel) (by decide+kernel)
  (by first | exact .inl (by decide+kernel) | exact .inr (by decide+kernel)) (by rw[isSubtype_type]; kernel_rfl)
theorem slot_wd_get:Slot "wrapper_descriptor" "__get__" "wrapper_descriptor.__get__":=
 .of (owner:="wrapper_descriptor") (n:="__get__") (by rw[typeLookup_type,builtinLookup_eq_fast]; kernel_rfl) (by decide+kernel) (by decide+kernel) (by decide+kernel)
  (by first | exact .inl (by decide+kernel) | exact .inr (by decide+kernel)) (by rw[isSubtype_type]; kernel_rfl)
theorem entry_md_get:entryFor table "method_descriptor.__get__"=some Builtin.«method_descriptor.__get__»:=entryFor_of_tree (by kernel_rfl)
theorem entry_wd_get:entryFor table "wrapper_descriptor.__get__"=some Builtin.«wrapper_descriptor.__get__»:=entryFor_of_tree (by kernel_rfl)
theorem ownerL_len:(kfb_private% "ownerAndName") "list.__len__"=("list","__len__"):=by first | decide+kernel | kernel_rfl
theorem ownerL_init:(kfb_private% "ownerAndName") "list.__init__"=("list","__init__"):=by first | decide+kernel | kernel_rfl
theorem ownerL_pop:(kfb_private% "ownerAndName") "list.pop"=("list","pop"):=by first | decide+kernel | kernel_rfl
theorem bk_wd {id n:String}(ty:typeOf (.builtin id)=pure (.type "wrapper_descriptor"))(ho:(kfb_private% "ownerAndName") id=("list",n)):BoundKind id "wrapper_descriptor" "method-wrapper" "wrapper_descriptor.__get__" where
 ty:=ty
 slot:=slot_wd_get
 entry:=⟨_,entry_wd_get⟩
 args:=fun a b c=>by unfold argsOk; kernel_rfl
 run:=fun he hi _ h=>by
  rw[entry_wd_get] at he
  cases he
  unfold Builtin.«wrapper_descriptor.__get__»
  refine wpAny_bind (wpAny_of_eq (by first | rfl | kernel_rfl) ?_)
  refine wpAny_bind (m:=(kfb_private% "checkInstance") _ _) ?_
  refine wpAny_bind (m:=(kfb_private% "nameAndClass") _) (wpAny_of_eq (a:=((PySem.Str.ofString n),Value.type "list")) (by show pure (PySem.Str.ofString ((kfb_private% "ownerAndName") id).2,Value.type ((kfb_private% "ownerAndName") id).1)=_; rw[ho]) ?_)
  refine wpAny_bind (hi _ _ _ ?_)
  refine wpAny_pure ?_
  exact wpAny_bind (wpAny_newObj_type (wpAny_pure h))
 bt:= .inr rfl
theorem bk_md {id n:String}(ty:typeOf (.builtin id)=pure (.type "method_descriptor"))(ho:(kfb_private% "ownerAndName") id=("list",n))(ht:Manifest.toldItsClass.contains id=false):
  BoundKind id "method_descriptor" "builtin_function_or_method" "method_descriptor.__get__" where
 ty:=ty
 slot:=slot_md_get
 entry:=⟨_,entry_md_get⟩
 args:=fun a b c=>by unfold argsOk; kernel_rfl
 run:=fun he hi hc h=>by
  rw[entry_md_get] at he
  cases he
  unfold Builtin.«method_descriptor.__get__»
  refine wpAny_bind (wpAny_of_eq (by first | rfl | kernel_rfl) ?_)
  simp only[show ∀ a:Addr,(Value.ref a==Value.none)=false from fun _=>rfl,Bool.false_eq_true,if_false,ht]
  refine wpAny_bind (m:=(kfb_private% "checkInstance") _ _) ?_
  refine wpAny_bind (m:=(kfb_private% "nameAndClass") _) (wpAny_of_eq (a:=((PySem.Str.ofString n),Value.type "list")) (by show pure (PySem.Str.ofString ((kfb_private% "ownerAndName") id).2,Value.type ((kfb_private% "ownerAndName") id).1)=_; rw[ho]) ?_)
  refine wpAny_bind (hi _ _ _ ?_)
  refine wpAny_pure ?_
  exact wpAny_bind (wpAny_newObj_type (wpAny_pure h))
 bt:= .inl rfl
section
variable {prog:Program}{w:World}{M:Model}{A:Around}{E:Value→Shared→Prop}{h:Heap}{g:Array GenState}{d:Drawn}{t:Nat}{os:OsState}
theorem sup_ga {id T BT gid:String}(BK:BoundKind id T BT gid){so D x C:Addr}{l₀ l:List Value}{K:Frag}{name:Str}{tk:Tok}{Q:Fin→Shared→Prop}
  (hso:h.get? so=some { cls:= .type "super",dict:=none,data:= .fields #[.ref D,.ref x,.ref C],slots:=#[] }) (hno:Looks (model prog w) h (opaqueClassAbove (.ref C)) none)
  (hC:Looks (model prog w) h (mroOf (.ref C)) l₀) (hl:(l₀.dropWhile (· != .ref D)).drop 1=l) (X:K.In h)
  (hf:alongIn K name l=some (some (.builtin id))) (hxC:x≠C) (hn:(name==("__class__":Str))=false)
  (hi:∀ (A:Around) (E:Value→Shared→Prop) (Q:Bool→Shared→Prop) (s:Shared),s=⟨h,g,d,t,os⟩→Q true s→wpAny (model prog w) A (isInstance (.ref x) (.type "list")) Q E s)
  (ht:∀ (A:Around) (E:Value→Shared→Prop) (Q:Bool→Shared→Prop) (s:Shared),s=⟨h,g,d,t,os⟩→Q true s→wpAny (model prog w) A (isType (.ref C)) Q E s)
  (hq:Q (.done (.ret (.ref h.objs.size))) ⟨h.push { cls:= .type BT,data:= .fields #[.builtin id,.ref x] },g,d,t,os⟩):
  wpAny (model prog w) A (Builtin.«super.__getattribute__» ⟨[.ref so,.str name tk],[]⟩) Q E ⟨h,g,d,t,os⟩:=by
 have hlk:=BK.slot.lookup
 have hne:(Value.ref x==Value.ref C)=false:=by simp -iota [hxC]
 have hT:=BK.ty
 have hdt:({ cls:= .type "super",dict:=none,data:= .fields #[.ref D,.ref x,.ref C],slots:=#[] }:Obj).data= .fields #[.ref D,.ref x,.ref C]:=rfl
 have f0:(#[.ref D,.ref x,.ref C]:Array Value)[0]?=some (.ref D):=rfl
 have f1:(#[.ref D,.ref x,.ref C]:Array Value)[1]?=some (.ref x):=rfl
 have f2:(#[.ref D,.ref x,.ref C]:Array Value)[2]?=some (.ref C):=rfl
 obtain⟨Bi,hBi⟩:=BK.entry
 have hTf:(⟨h,g,d,t,os⟩:Shared).TypeIs (.builtin id) T:=hT
 unfold Builtin.«super.__getattribute__»
 repeat (first
  | (with_reducible refine wpAny_field hso hdt f0 ?_) | (with_reducible refine wpAny_field hso hdt f1 ?_) | (with_reducible refine wpAny_field hso hdt f2 ?_)
  | (with_reducible refine ks_wpAny_notOpaque hno ?_)
  | (with_reducible refine Looks.at hC ?_; rw[hl])
  | (refine ks_forIn_along X (fun _ _=>rfl) rfl ?_ hf)
  | (with_reducible refine wpAny_of_eq hT ?_)
  | (with_reducible refine wpAny_call_entry BK.slot hTf hBi ?_ (BK.args _ _ _))
  | ((with_reducible refine if_f ?ic ?_); (case ic=>first | exact Bool.false_ne_true | (simp -iota only[hn,hne,Bool.or_false,Bool.false_eq_true,not_false_eq_true]; done)))
  | wp_step
  | dsimp only)
 rw[show (if (Value.ref x==Value.ref C)=true then Value.none else Value.ref x)=Value.ref x from if_neg (by rw[hne]; exact Bool.false_ne_true)]
 refine BK.run hBi (fun A E Q q=>hi A E Q _ rfl q) (fun A E Q q=>ht A E Q _ rfl q) ⟨_,rfl,?_⟩
 exact wpAny_bind (wpAny_pure (wpAny_pure (wpAny_pure hq)))
theorem sup_getMethod {id T BT gid:String}(BK:BoundKind id T BT gid){so D x C:Addr}{l₀ l:List Value}{K:Frag}{name:Str}{pl:Sem Bool}{Q:Value×List Value→Shared→Prop}
  (hso:h.get? so=some { cls:= .type "super",dict:=none,data:= .fields #[.ref D,.ref x,.ref C],slots:=#[] }) (hno:Looks (model prog w) h (opaqueClassAbove (.ref C)) none)
  (hC:Looks (model prog w) h (mroOf (.ref C)) l₀) (hl:(l₀.dropWhile (· != .ref D)).drop 1=l) (X:K.In h)
  (hf:alongIn K name l=some (some (.builtin id))) (hxC:x≠C) (hn:(name==("__class__":Str))=false)
  (hi:∀ (A:Around) (E:Value→Shared→Prop) (Q:Bool→Shared→Prop) (s:Shared),s.heap=h→Q true s→wpAny (model prog w) A (isInstance (.ref x) (.type "list")) Q E s)
  (ht:∀ (A:Around) (E:Value→Shared→Prop) (Q:Bool→Shared→Prop) (s:Shared),s.heap=h→Q true s→wpAny (model prog w) A (isType (.ref C)) Q E s)
  (hq:Q (.ref h.objs.size,[]) ⟨h.push { cls:= .type BT,data:= .fields #[.builtin id,.ref x] },g,d,t+1,os⟩):
  wpAny (model prog w) A (getMethod (.ref so) name pl) Q E ⟨h,g,d,t,os⟩:=by
 have hlk:=F.ks_slot_super_ga.lookup
 have hcan:=F.ks_canon_super_ga
 have hT:∀ t',(⟨h,g,d,t',os⟩:Shared).TypeIs (.ref so) "super":=fun _=>⟨_,hso,rfl⟩
 unfold getMethod
 refine wpAny_bind (wpAny_specialOf (hT _) hlk ?_)
 show wpAny _ _ (if (Manifest.canonical "super.__getattribute__" !="object.__getattribute__")=true then _ else _) _ _ _
 rw[if_pos hcan]
 unfold getAttr getAttrBy
 refine wpAny_bind (wpAny_bind (wpAny_mkText (wpAny_holding (wpAny_bind (wpAny_typeOf (hT _) (wpAny_bind (wpAny_of_eq hlk ?_)))))))
 show wpAny _ _ (getAttrByItsOwn (.ref so) (.str name t) (.type "super") (.builtin "super.__getattribute__") true false) _ _ _
 unfold getAttrByItsOwn hookBefore callGetattribute boundAndCalled
 refine wpAny_bind (wpAny_of_eq (show (if onTheHeap (.type "super") then typeLookup (.type "super") "__getattr__" else pure none)=pure none from rfl) ?_)
 refine wpAny_bind (wpAny_attempt (wpAny_holding ?_))
 show wpAny _ _ (bindSpecial (.builtin "super.__getattribute__") (.ref so) >>= _) _ _ _
 refine wpAny_bind (wpAny_of_eq (F.ks_slot_super_ga.bind _) ?_)
 refine wpAny_mono (Q:=fun v s'=>v= .ref h.objs.size∧s'=⟨h.push { cls:= .type BT,data:= .fields #[.builtin id,.ref x] },g,d,t+1,os⟩) (E:=fun _ _=>False)
  (wpAny_call_entry F.ks_slot_super_ga (hT _) F.ks_entry_super_ga (sup_ga BK hso hno hC hl X hf hxC hn (fun A E Q s e q=>hi A E Q s (by rw[e]) q) (fun A E Q s e q=>ht A E Q s (by rw[e]) q) ⟨_,rfl,rfl,rfl⟩) (F.ks_gaArgs_super _ _)) (fun v s' hv=>?_) fun _ _ z=>z.elim
 obtain⟨rfl,rfl⟩:=hv
 exact wpAny_pure (wpAny_pure hq)
theorem bound_callWith0 {id BT:String}(hBT:BT="builtin_function_or_method"∨BT="method-wrapper"){pos:Pos}{u x:Addr}{env:Env}{s:Shared}{Q:Value→Shared→Prop}(ho:s.heap.get? u=some { cls:= .type BT,data:= .fields #[.builtin id,.ref x] })
  (h:wpAny M A (call (.ref u) []) Q E s):wpAny M A (callWith pos (.ref u) [] (backTo pos (starEach [] env)) []) Q E s:=by
 unfold callWith
 refine wpAny_bind (wpAny_holding (m:=evalArgs (.ref u) true [] []) (evalArgs_nil3 (wpAny_bind (wpAny_standAt ?_))))
 show wpAny _ _ (keeperOf (.ref u) >>= _) _ _ _
 refine wpAny_bind ?_
 unfold keeperOf
 refine wpAny_bind (wpAny_load ho ?_)
 have h1:(Value.type BT !=Value.type "method")=true:=by rcases hBT with rfl | rfl <;> decide
 have h2:(Value.type BT==Value.type "builtin_function_or_method" || Value.type BT==Value.type "method-wrapper")=true:=by rcases hBT with rfl | rfl <;> decide
 simp -iota only[h1,h2,if_true]
 refine wpAny_pure ?_
 exact wpAny_bind (wpAny_mono h (fun r s₂ hr=>wpAny_bind (wpAny_holding (wpAny_point (wpAny_pure hr)))) fun _ _ x=>x)
theorem bound_call {id BT:String}(hBT:BT="builtin_function_or_method"∨BT="method-wrapper"){u x:Addr}{s:Shared}{b:Builtin}{Q:Value→Shared→Prop}(ho:s.heap.get? u=some { cls:= .type BT,data:= .fields #[.builtin id,.ref x] })
  (hq:plainId id=true) (hb:entryFor table id=some b) (hc:∀ (A:Around) (E:Value→Shared→Prop) (Q:Unit→Shared→Prop),Q () s→wpAny (model prog w) A (checkBoundCall id ⟨[.ref x],[]⟩) Q E s)
  (h:wpAny (model prog w) (A.under (.builtin id ⟨[.ref x],[]⟩)) (b ⟨[.ref x],[]⟩) (fun fin s'=>∃ v,fin= .done (.ret v)∧Q v s') E s):wpAny (model prog w) A (call (.ref u) []) Q E s:=by
 refine wpAny_call (codeAny_of_tree ?_)
 show wpAny _ A.in1 (callAny (.ref u) ⟨[],[]⟩) _ _ s
 simp -iota only[callAny]
 refine wpAny_bind (wpAny_load ho ?_)
 have h1:(Value.type BT==Value.type "method" || Value.type BT==Value.type "builtin_function_or_method" || Value.type BT==Value.type "method-wrapper")=true:=by rcases hBT with rfl | rfl <;> decide
 have h2:(Value.type BT !=Value.type "method")=true:=by rcases hBT with rfl | rfl <;> decide
 simp -iota only[h1,if_true]
 refine KFB.if_so h2 ?_
 refine wpAny_bind (hc _ _ _ ?_)
 refine wpAny_bind (wpAny_pure (wpAny_pure ?_))
 refine⟨plainId_quiet hq _,codeAny_builtin hb (wpAny_mono h (fun fin s' h'=>?_) fun _ _ e=>e)⟩
 obtain⟨v,rfl,hv⟩:=h'
 exact hv
end
structure SupOk (B:Bs) (K:Frag) (cd:ClassData) (cc:Addr) (mg mb:Str→Option Value):Prop where
 cls:clsIn K B.cls=some cd
 rest:(cd.mro.dropWhile (· != .ref B.cls)).drop 1=[.type "list",.type "object"]
 third:nsIn K cStatics "thirdparty.any"=some none
 self:mroIn K B.cls (.ref B.cls)=some true
 ofType:typeIn K (.ref B.cls)=some (.type "type")
 isT:instIn K (.ref B.cls) (.type "type")=some true
 cell:∃ o,B.h₀.get? cc=some o∧o.data= .cell (some (.ref B.cls))
 ct:cc∉B.Tb
 g:B.h₀.Ns mainNs mg
 b:B.h₀.Ns builtinsNs mb
 og:mainNs∉B.Tb
 ob:builtinsNs∉B.Tb
 gs:mg "super"=none
 bs:mb "super"=some (.type "super")
 top:(B.prog.main.scope.names.lookup ("super":Str)).isSome=false
section
variable {B:Bs}{A:Around}{ρ:List Addr}{σ:Sto}{s:Shared}{E:Value→Shared→Prop}
theorem clsIn_some {K:Frag}{C:Addr}{cd:ClassData}(e:clsIn K C=some cd):∃ c d sl,K.lookup C=some ⟨c,d,.cls cd,sl⟩:=by
 delta clsIn at e
 cases ho:K.lookup C with
 | none=>rw[ho] at e; exact nos e
 | some o=>
  rw[ho] at e
  obtain⟨c,d,t,sl⟩:=o
  cases t with
  | cls x=>exact⟨c,d,sl,congrArg (fun x=>some (Obj.mk c d (.cls x) sl)) (Option.some.inj e)⟩
  | _=>exact nos e
theorem keepIn_cls {K:Frag}{C:Addr}{cd:ClassData}(e:clsIn K C=some cd)(h:specialIn K (.ref C) "__call__"=some (some (.builtin "type.__call__"))):keepIn K (.ref C)=true:=by
 obtain⟨c,d,sl,ho⟩:=clsIn_some e
 delta keepIn
 conv=>lhs; whnf
 rw[ho]
 exact beq_iff_eq.mpr h
theorem clsObj {K:Frag}{C:Addr}{cd:ClassData}{h:Heap}(X:K.In h)(e:clsIn K C=some cd):∃ o,h.get? C=some o∧o.data= .cls cd:=by
 obtain⟨c,d,sl,ho⟩:=clsIn_some e
 exact⟨_,X _ _ ho,rfl⟩
theorem sup_eval {K:Frag}(C:ClsOk B K){cd:ClassData}{cc:Addr}{mg mb:Str→Option Value}(S:SupOk B K cd cc mg mb){id T BT gid:String}(BK:BoundKind id T BT gid)(st:St B ρ σ s)
  {a L:Addr} {fd:FuncData} {body:List Stmt} {p0 p1 apos pos:Pos} {name:Str} {ar:Arg} {x:Addr} {ox:Obj} {m:Str→Option Value} {Q:Value→Shared→Prop}
  (hobj:∃ o,B.h₀.get? a=some o∧o.data= .func fd) (hat:a∉B.Tb)
  (hcode:∃ c o vs file tf,fd.code= .ref c∧c∉B.Tb∧B.h₀.get? c=some o∧o.data= .fields vs∧vs[2]?=some (.str file tf)∧((B.prog.main.file:Str)==file)=true)
  (hclo:fd.closure=[(PySem.Str.ofString "__class__",cc)]) (hline:(apos.endLine==pos.line)=true) (hg:fd.globals=mainNs) (hb:fd.builtins=builtinsNs) (hp:(fd.params.posonlyargs++fd.params.args).head?=some ar) (hk:fd.scope.kind= .function)
  (hks:fd.scope.names.lookup ("super":Str)=some .globalImplicit) (hkc:fd.scope.names.lookup ("__class__":Str)=some .free) (hka:fd.scope.names.lookup ar.arg=some .local)
  (hns:s.heap.Ns L m) (hm:m ar.arg=some (.ref x)) (hx:s.heap.get? x=some ox) (hxc:ox.cls= .ref B.cls) (hxd:∀ c,ox.data≠ .cls c)
  (hf:alongIn K name [.type "list",.type "object"]=some (some (.builtin id))) (hn:(name==("__class__":Str))=false)
  (h:∀ h' tk u,(∀ y o,s.heap.get? y=some o→h'.get? y=some o)→h'.get? u=some { cls:= .type BT,data:= .fields #[.builtin id,.ref x] }→wpAny (model B.prog B.w) A (call (.ref u) []) Q E { s with heap:=h',toks:=tk }):
  _root_.PySem.wpAt (model B.prog B.w) A (.func body (callEnv fd L a)) (eval (.Call (.Attribute (.Call (.Name "super" p0) [] [] p1) name apos) [] [] pos) (callEnv fd L a)) Q E s:=by
 have X:=C.in st
 obtain⟨oC,hC,hCd⟩:=clsObj X S.cls
 have hxC:x≠B.cls:=by
  rintro rfl
  rw[hx] at hC; cases hC
  exact hxd _ hCd
 obtain⟨oc,hcc,hcd⟩:=S.cell
 obtain⟨of,hof,hofd⟩:=hobj
 obtain⟨c,ocd,vs,file,tf,hc1,hc2,hc3,hc4,hc5,hc6⟩:=hcode
 have keep:∀ b o,B.h₀.get? b=some o→b∉B.Tb→s.heap.get? b=some o:=st.base
 refine ks_wpAt_MethodCall (pl:=?pl) ?_ ?he
 case he=>
  have hpos:∀ o env,methodCallPos true o env apos pos=pure pos:=fun o env=>by unfold methodCallPos; simp[hline]
  rw[arm_eval_Call]
  unfold methodCall
  simp only[show methodCallForm (([]:List Expr).length+([]:List Keyword).length) (backTo pos (starEach [] (callEnv fd L a))) (backToKw pos (keywordEach [] (callEnv fd L a)))=true from rfl,hpos,pure_bind]
  rfl
 refine ks_wpAt_super_base (env:=callEnv fd L a) (fd:=fd) (f:=a) (cc:=c) hks hkc (by exact hn) rfl (keep _ _ hof hat) hofd hp hc1 (keep _ _ hc3 hc2) hc4 hc5 hc6 S.top ?_
 refine ks_loadName_global hk hks (PySem.Calls.loadGlobal_builtin (env:=callEnv fd L a) (mg:=mg) (mb:=mb) ?_ S.gs ?_ S.bs ⟨rfl,?_⟩)
 ·show s.heap.Ns fd.globals mg
  rw[hg]; exact S.g.at' fun o ho=>keep _ _ ho S.og
 ·show s.heap.Ns fd.builtins mb
  rw[hb]; exact S.b.at' fun o ho=>keep _ _ ho S.ob
 refine wpAny_loadName_free hk hkc (by show List.lookup _ fd.closure=_; rw[hclo]; rfl) ⟨_,keep _ _ hcc S.ct,hcd⟩ ?_
 refine wpAny_loadName_local hk hka hns hm ?_
 obtain⟨hh,g,d,t,os⟩:=s
 refine ks_wpAny_isType_cls hC hCd ⟨rfl,?_⟩
 refine ks_wpAny_call_super hC hCd hx hxc hxd (looks_mroIn X S.self) fun h' e k=>?_
 have X':K.In h':=fun b o z=>k _ _ (X b o z)
 have st':∀ s',s'.heap=h'→∀ (A:Around) (E:Value→Shared→Prop) (Q:Bool→Shared→Prop),Q true s'→wpAny (model B.prog B.w) A (isInstance (.ref x) (.type "list")) Q E s':=fun s' hs' A E Q q=>by
  unfold isInstance
  have hT:Looks (model B.prog B.w) h' (typeOf (.ref x)) (.ref B.cls):=hxc▸(Looks.ld (k _ _ hx)).andThen .now
  have X'':K.In s'.heap:=hs'▸X'
  exact wpAny_bind ((hs'.symm▸hT:Looks (model B.prog B.w) s'.heap (typeOf (.ref x)) (.ref B.cls)).here ((looks_mroIn X'' C.sub).here q))
 refine sup_getMethod BK e (looks_opaque X' S.third) ((looks_clsIn X' S.cls).andThen .now) S.rest X' hf hxC hn (fun A E Q s' hs' q=>st' s' hs' A E Q q) (fun A E Q s' hs' q=>?_) ?_
 ·obtain⟨hh',g',d',t',os'⟩:=s'
  subst hs'
  exact ks_wpAny_isType_cls (k _ _ hC) hCd q
 ·refine bound_callWith0 BK.bt (Heap.get?_push_size _ rfl) ?_
  exact h _ _ _ (fun y o z=>Heap.get?_push_of_some _ (k _ _ z)) (Heap.get?_push_size _ rfl)
end
structure SupDef (B:Bs) (a:Addr) (fd:FuncData) (names:List (Str×NameKind)) (params:List Str) (body:List Stmt) (cc:Addr):Prop where
 D:MethDef B a fd names params body [(PySem.Str.ofString "__class__",cc)]
 file:∃ c o vs file tf,fd.code= .ref c∧c∉B.Tb∧B.h₀.get? c=some o∧o.data= .fields vs∧vs[2]?=some (.str file tf)∧((B.prog.main.file:Str)==file)=true
 head:∃ ar,(fd.params.posonlyargs++fd.params.args).head?=some ar∧ar.arg="self"
 ks:names.lookup ("super":Str)=some .globalImplicit
 kc:names.lookup ("__class__":Str)=some .free
 self:names.lookup ("self":Str)=some .local
section
variable {B:Bs}{A:Around}{ρ:List Addr}{σ:Sto}{s:Shared}{E:Value→Shared→Prop}
theorem bk_len:BoundKind "list.__len__" "wrapper_descriptor" "method-wrapper" "wrapper_descriptor.__get__":=bk_wd (by show builtinType _=_; rw[builtinType_eq_fast]; kernel_rfl) ownerL_len
theorem bk_init:BoundKind "list.__init__" "wrapper_descriptor" "method-wrapper" "wrapper_descriptor.__get__":=bk_wd (by show builtinType _=_; rw[builtinType_eq_fast]; kernel_rfl) ownerL_init
theorem bk_pop:BoundKind "list.pop" "method_descriptor" "builtin_function_or_method" "method_descriptor.__get__":=bk_md (by show builtinType _=_; rw[builtinType_eq_fast]; kernel_rfl) ownerL_pop (by decide+kernel)
theorem along_len (K:Frag):alongIn K "__len__" [.type "list",.type "object"]=some (some (.builtin "list.__len__")):=by kernel_rfl
theorem along_init (K:Frag):alongIn K "__init__" [.type "list",.type "object"]=some (some (.builtin "list.__init__")):=by kernel_rfl
theorem along_pop (K:Frag):alongIn K "pop" [.type "list",.type "object"]=some (some (.builtin "list.pop")):=by kernel_rfl
theorem cb_len (x:Addr):checkBoundCall "list.__len__" ⟨[.ref x],[]⟩=pure ():=by kernel_rfl
theorem cb_init (x:Addr):checkBoundCall "list.__init__" ⟨[.ref x],[]⟩=pure ():=by kernel_rfl
theorem sup_here {K:Frag}(C:ClsOk B K){cd:ClassData}{cc:Addr}{mg mb:Str→Option Value}(S:SupOk B K cd cc mg mb){id T BT gid:String}(BK:BoundKind id T BT gid)(st:St B ρ σ s)
  {a L:Addr} {fd:FuncData} {names:List (Str×NameKind)} {params:List Str} {body:List Stmt} (P:SupDef B a fd names params body cc) {p0 p1 apos pos:Pos} {name:Str} {x:Addr} {ox:Obj} {m:Str→Option Value} {Q:Value→Shared→Prop}
  (hline:(apos.endLine==pos.line)=true)
  (hns:s.heap.Ns L m) (hm:m "self"=some (.ref x)) (hx:s.heap.get? x=some ox) (hxc:ox.cls= .ref B.cls) (hxd:∀ c,ox.data≠ .cls c)
  (hf:alongIn K name [.type "list",.type "object"]=some (some (.builtin id))) (hn:(name==("__class__":Str))=false)
  (h:∀ h' tk u,(∀ y o,s.heap.get? y=some o→h'.get? y=some o)→h'.get? u=some { cls:= .type BT,data:= .fields #[.builtin id,.ref x] }→wpAny (model B.prog B.w) A (call (.ref u) []) Q E { s with heap:=h',toks:=tk }):
  _root_.PySem.wpAt (model B.prog B.w) A (.func body (callEnv fd L a)) (eval (.Call (.Attribute (.Call (.Name "super" p0) [] [] p1) name apos) [] [] pos) (callEnv fd L a)) Q E s:=by
 obtain⟨ar,ha1,ha2⟩:=P.head
 exact sup_eval C S BK st P.D.obj P.D.tb P.file P.D.closure hline P.D.glob P.D.bt ha1 P.D.kind (by rw[P.D.nms]; exact P.ks) (by rw[P.D.nms]; exact P.kc) (by rw[P.D.nms,ha2]; exact P.self) hns (by rw[ha2]; exact hm) hx hxc hxd hf hn h
noncomputable def partF:Fn:=fun args σ=>one args fun a=>onLst a fun i=>opt σ[i]? fun c=>accD c.d fun _ xs=>grd (xs.length≤100000) (some (.int xs.length,σ))
theorem partC_ok (ok:BsOk B){K:Frag}(C:ClsOk B K){cd:ClassData}{cc:Addr}{mg mb:Str→Option Value}(S:SupOk B K cd cc mg mb){k:Nat}{a:Addr}{fd:FuncData}{names:List (Str×NameKind)}{p0 p1 apos pos rp:Pos}
  (P:SupDef B a fd names ["self"] [.Return (some (.Call (.Attribute (.Call (.Name "super" p0) [] [] p1) "__len__" apos) [] [] pos)) rp] cc) (hline:(apos.endLine==pos.line)=true)
  (hb:∀ s v,BindsTo s fd ⟨[v],[]⟩ [("self",v)]):FnOk B (k+1) (.ref a) partF where
 able:=let ⟨o,ho,hd⟩:=P.D.obj; callable_fn ho P.D.tb hd
 run:=fun A ρ σ s args vals v σ' R x r h=>by
  obtain⟨a0,e1,i1⟩:=one_some h
  obtain⟨i,e2,i2⟩:=onLst_some i1
  obtain⟨c,hc,i3⟩:=opt_some i2
  obtain⟨di,xs,hd,i4⟩:=accD_some i3
  obtain⟨hlen,i5⟩:=grd_some i4
  obtain⟨rfl,rfl⟩:=Prod.mk.inj (Option.some.inj i5)
  subst e1 e2
  obtain⟨_,_,rfl,⟨b,rfl,hbi⟩,r2⟩:=r
  rw[show _=[] from r2]
  have hcell:=x.cells i c b hc hbi
  rw[hd] at hcell
  obtain⟨vs,n,Dx,ho,hr,hD⟩:=hcell
  refine meth_enter ok P.D R x (args:=[.lst i]) (vals':=[.ref b]) (hb s _) ⟨_,_,rfl,⟨b,rfl,hbi⟩,rfl⟩ rfl fun s₁ Q x₁ e₁ fr r₁ hns q=>?_
  have ho₁:s₁.heap.get? b=some { cls:= .ref B.cls,data:= .seq vs.toArray n,dict:=some Dx }:=by
   obtain⟨c',h1,h2,h3⟩:=e₁.ver i c hc
   obtain rfl:=Option.some.inj (hc.symm.trans h1)
   exact (h3 rfl).2 b hbi _ ho
  refine ks_wpAt_execs_cons (ks_wpAt_Return_some (sup_here C S bk_len x₁ P hline hns rfl ho₁ rfl (fun c h=>by cases h) (along_len K) (by decide) fun h' tk u hk hu=>?_))
  refine bound_call bk_len.bt hu (by decide+kernel) F.entry_list_len (fun A E Q q=>wpAny_of_eq (cb_len b) q) ?_
  show wpAny _ _ (do retInt (← seqSize b)) _ _ _
  unfold seqSize
  refine wpAny_bind (wpAny_bind (wpAny_load (hk _ _ ho₁) ?_))
  refine wpAny_pure (wpAny_bind (wpAny_mkInt (wpAny_pure ⟨_,rfl,?_⟩)))
  obtain⟨x₂,e₂⟩:=x₁.grow ok (s':={ s₁ with heap:=h',toks:=tk+1 }) rfl x₁.gens hk
  refine q _ _ ρ x₂ e₂.weak ⟨tk,?_⟩
  show Value.int (vs.toArray.size:Int) tk=Value.int (xs.length:Int) tk
  rw[List.size_toArray,hr.length]
end
section
variable {B:Bs}{A:Around}{ρ:List Addr}{σ:Sto}{s:Shared}{E:Value→Shared→Prop}
noncomputable def objK {β:Type}(args:List PV)(σ:Sto)(f:Nat→Nat→List PV→Option β):Option β:=one args fun a=>onLst a fun i=>grd (accOk σ (.lst i)=true) (opt σ[i]? fun c=>accD c.d fun di xs=>f i di xs)
theorem objK_some {β:Type}{r:β}{args:List PV}{σ:Sto}{f:Nat→Nat→List PV→Option β}(h:objK args σ f=some r):∃ i c di xs,args=[.lst i]∧accOk σ (.lst i)=true∧σ[i]?=some c∧c.d= .acc di xs∧f i di xs=some r:=by
 obtain⟨a,rfl,h⟩:=one_some h
 obtain⟨i,rfl,h⟩:=onLst_some h
 obtain⟨hacc,h⟩:=grd_some h
 obtain⟨c,hc,h⟩:=opt_some h
 obtain⟨di,xs,hd,h2⟩:=accD_some h
 exact⟨i,c,di,xs,rfl,hacc,hc,hd,h2⟩
noncomputable def popF:Fn:=fun args σ=>objK args σ fun i di xs=>grd (xs.length≤10000) (match xs.getLast? with
    | none=>some (.tup [.str "",.str ""],σ)
    | some y=>some (y,setCell σ i (.acc di xs.dropLast)))
theorem cb_pop {K:Frag}(C:ClsOk B K){cd:ClassData}{cc:Addr}{mg mb:Str→Option Value}(S:SupOk B K cd cc mg mb)(hmod:mroIn K B.cls (.type "module")=some false)(hqn:cd.qualname="_Accumulator"){x:Addr}{ox:Obj}(X:K.In s.heap)(hx:s.heap.get? x=some ox)(hxc:ox.cls= .ref B.cls)(hxd:∀ c,ox.data≠ .cls c)
  {Q:Unit→Shared→Prop} (q:Q () s):wpAny (model B.prog B.w) A (checkBoundCall "list.pop" ⟨[.ref x],[]⟩) Q E s:=by
 obtain⟨hh,g,d,t,os⟩:=s
 have hT:Looks (model B.prog B.w) hh (typeOf (.ref x)) (.ref B.cls):=hxc▸(Looks.ld hx).andThen .now
 have hM:Looks (model B.prog B.w) hh (isInstance (.ref x) (.type "module")) false:=hT.andThen (looks_mroIn X hmod)
 have hCT:Looks (model B.prog B.w) hh (typeOf (.ref B.cls)) (.type "type"):=looks_typeIn X S.ofType
 have hCD:Looks (model B.prog B.w) hh (classData B.cls) cd:=looks_clsIn X S.cls
 have h2:Bind.checkArgs "list.pop" ⟨.positional,s!"{(PySem.Str.ofString "_Accumulator").toString}.{Bind.lastOf "list.pop"}","pop",.self,[⟨"index",.posOnly,false⟩]⟩ ⟨[.ref x],[]⟩=pure ():=by kernel_rfl
 have h3:builtinKind "list.pop"=some .method:=by decide+kernel
 unfold checkBoundCall
 rw[h3]
 refine wpAny_bind (hM.here ?_)
 refine if_f Bool.false_ne_true ?_
 refine wpAny_bind (ks_wpAny_isType_inst hx hxd ?_)
 refine if_f Bool.false_ne_true ?_
 refine wpAny_bind (hT.here ?_)
 refine wpAny_bind (hCD.here ?_)
 refine wpAny_bind (hCT.here ?_)
 rw[if_pos (by decide),hqn]
 refine wpAny_of_eq h2 ?_
 exact q
theorem vrs_snoc {h:Heap}:∀ {xs:List PV} {y:PV} {vs:List Value},VRs B ρ h (xs++[y]) vs→∃ us v,vs=us++[v]∧VRs B ρ h xs us∧VR B ρ h y v
 | [],y,vs,r=>by obtain⟨v,t,rfl,h1,h2⟩:=r; rw[show t=[] from h2]; exact⟨[],v,rfl,rfl,h1⟩
 | x::xs,y,vs,r=>by
  obtain⟨v,t,rfl,h1,h2⟩:=r
  obtain⟨us,u,rfl,h3,h4⟩:=vrs_snoc h2
  exact⟨v::us,u,rfl,⟨v,us,rfl,h1,h3⟩,h4⟩
theorem popF_some {args:List PV}{σ σ':Sto}{v:PV}(h:popF args σ=some (v,σ')):∃ i c di xs,args=[.lst i]∧accOk σ (.lst i)=true∧σ[i]?=some c∧c.d= .acc di xs∧xs.length≤10000∧
  ((xs=[]∧v= .tup [.str "",.str ""]∧σ'=σ)∨∃ ys y,xs=ys++[y]∧v=y∧σ'=setCell σ i (.acc di ys)):=by
 obtain⟨i,c,di,xs,e,hacc,hc,hd,h⟩:=objK_some h
 obtain⟨hl,h⟩:=grd_some h
 refine⟨i,c,di,xs,e,hacc,hc,hd,hl,?_⟩
 rcases List.eq_nil_or_concat xs with e | ⟨ys,y,e⟩
 ·subst e
  obtain⟨e1,e2⟩:=Prod.mk.inj (Option.some.inj h)
  exact .inl ⟨rfl,e1.symm,e2.symm⟩
 ·rw[List.concat_eq_append] at e
  subst e
  rw[List.getLast?_concat] at h
  dsimp only at h
  rw[List.dropLast_concat] at h
  obtain⟨e1,e2⟩:=Prod.mk.inj (Option.some.inj h)
  exact .inr ⟨ys,y,rfl,e1.symm,e2.symm⟩
theorem erase_last {α:Type}(us:List α)(u:α):(us++[u]).toArray.eraseIdxIfInBounds us.length=us.toArray:=by simp -iota [Array.eraseIdxIfInBounds,List.eraseIdx_append_of_length_le]
theorem last_seq {α:Type}(us:List α)(u:α):((seqIndex? (-1) (us++[u]).toArray.size).bind fun k=>(us++[u]).toArray[k]?.map (k,·))=some (us.length,u):=by
 have e1:seqIndex? (-1) (us++[u]).toArray.size=some us.length:=by
  unfold seqIndex?
  simp
  lia
 rw[e1]
 simp
theorem pop_call (ok:BsOk B){K:Frag}(C:ClsOk B K){cd:ClassData}{cc:Addr}{mg mb:Str→Option Value}(S:SupOk B K cd cc mg mb)(hmod:mroIn K B.cls (.type "module")=some false)(hqn:cd.qualname="_Accumulator"){u:Addr}{h':Heap}{tk:Nat}{b:Addr} 
  (x:St B ρ σ s) (hk:∀ a o,s.heap.get? a=some o→h'.get? a=some o) (hu:h'.get? u=some { cls:= .type "builtin_function_or_method",data:= .fields #[.builtin "list.pop",.ref b] }) {i di:Nat} {ys:List PV} {y:PV} (hc:∃ c:Cell,σ[i]?=some c∧c.d= .acc di (ys++[y])) (hbi:ρ[i]?=some b) (hlen:(ys++[y]).length≤10000)
  {Q:Value→Shared→Prop} (q:∀ v s',St B ρ (setCell σ i (.acc di ys)) s'→Evo B [] ρ σ s.heap ρ (setCell σ i (.acc di ys)) s'.heap→VR B ρ s'.heap y v→Q v s'):wpAny (model B.prog B.w) A (call (.ref u) []) Q E { s with heap:=h',toks:=tk }:=by
 obtain⟨c,hc,hd⟩:=hc
 have hcell:=x.cells i c b hc hbi
 rw[hd] at hcell
 obtain⟨vs,n,Dx,ho,hr,hD⟩:=hcell
 obtain⟨us,u₀,rfl,hr1,hr2⟩:=vrs_snoc hr
 have ho1:=hk _ _ ho
 refine bound_call bk_pop.bt hu (by decide+kernel) F.entry_list_pop (fun A E Q q=>cb_pop C S hmod hqn (fun b o z=>hk _ _ (C.in x b o z)) ho1 rfl (fun c h=>by cases h) q) ?_
 have hl:us.length≤9999:=by
  rw[hr1.length]
  rw[List.length_append,List.length_singleton] at hlen
  exact Nat.le_of_succ_le_succ hlen
 have hs1:(us++[u₀]).toArray.size≤10000:=by
  rw[List.size_toArray,List.length_append,List.length_singleton]
  exact Nat.succ_le_succ hl
 unfold Builtin.«list.pop»
 refine wpAny_bind (wpAny_of_eq (a:=(Value.ref b,[])) (by kernel_rfl) ?_)
 refine wpAny_bind (wpAny_pure ?_)
 refine wpAny_ite_false (by decide+kernel) ?_
 refine wpAny_bind (wpAny_listItems ho1 rfl ?_)
 refine if_f (by simp) ?_
 rw[last_seq]
 dsimp only
 show wpAny _ _ (updateSeq b _ >>= fun _=>ret u₀) _ _ _
 refine wpAny_bind (wpAny_updateSeq ho1 rfl (wpAny_pure ⟨u₀,rfl,?_⟩) (Nat.le_trans hs1 (by decide)) (by rw[erase_last,List.size_toArray]; exact Nat.le_trans hl (by decide)))
 obtain⟨x₃,e₃⟩:=x.grow ok (s':={ s with heap:=h',toks:=tk }) rfl x.gens hk
 have ho':(h'.update b (Obj.mapSeq (·.eraseIdxIfInBounds us.length))).get? b=some { cls:= .ref B.cls,data:= .seq us.toArray (n+1),dict:=some Dx }:=by
  rw[Heap.get?_update_self _ ho1 (by simp[Obj.mapSeq,Obj.isFreed])]
  simp only[Obj.mapSeq,erase_last]
  simp
 obtain⟨x₄,e₄⟩:=x₃.set ok (s':={ s with heap:=h'.update b (Obj.mapSeq (·.eraseIdxIfInBounds us.length)),toks:=tk }) (d:= .acc di ys) rfl rfl hbi (fun c o hb ho=>(Heap.get?_update_other _ _ (Ne.symm hb)).trans ho)
  (fun σ' e=>⟨us,n+1,Dx,ho',VRs.evo e _ (VRs.evo e₃ _ hr1),hD⟩) ⟨_,ho',fun vs h=>by cases h⟩
 exact q _ _ x₄ (e₃.trans e₄) (VR.evo e₄ _ (VR.evo e₃ _ hr2))
theorem pop_tail (ok:BsOk B){K:Frag}(C:ClsOk B K){cd:ClassData}{cc:Addr}{mg mb:Str→Option Value}(S:SupOk B K cd cc mg mb)(hmod:mroIn K B.cls (.type "module")=some false)(hqn:cd.qualname="_Accumulator"){a L:Addr}{fd:FuncData}{names:List (Str×NameKind)}{body:List Stmt}{p0 p1 apos pos rp:Pos}
  (P:SupDef B a fd names ["self"] body cc) (hline:(apos.endLine==pos.line)=true) (x:St B ρ σ s) {b:Addr} (hns:s.heap.Ns L fun y=>List.lookup y ([Str.ofString "self"].zip [Value.ref b])) {i di:Nat} {c:Cell} {ys:List PV} {y:PV} (hc:σ[i]?=some c) (hd:c.d= .acc di (ys++[y])) (hbi:ρ[i]?=some b) (hlen:(ys++[y]).length≤10000)
  {Q:Flow→Shared→Prop} (q:∀ v s',St B ρ (setCell σ i (.acc di ys)) s'→Evo B [] ρ σ s.heap ρ (setCell σ i (.acc di ys)) s'.heap→VR B ρ s'.heap y v→Q (.ret v) s'):
  _root_.PySem.wpAt (model B.prog B.w) A (.func body (callEnv fd L a)) (execs [.Return (some (.Call (.Attribute (.Call (.Name "super" p0) [] [] p1) "pop" apos) [] [] pos)) rp] (callEnv fd L a)) Q E s:=by
 have hcell:=x.cells i c b hc hbi
 rw[hd] at hcell
 obtain⟨vs,n,Dx,ho,hr,hD⟩:=hcell
 exact ks_wpAt_execs_cons (ks_wpAt_Return_some (sup_here C S bk_pop x P hline hns rfl ho rfl (fun c h=>by cases h) (along_pop K) (by decide) fun h' tk u hk hu=>pop_call ok C S hmod hqn x hk hu ⟨c,hc,hd⟩ hbi hlen q))
theorem popC_ok (ok:BsOk B){G:Gl}{K:Frag}(C:ClsOk B K){cd:ClassData}{cc:Addr}{mg mb:Str→Option Value}(S:SupOk B K cd cc mg mb)(hmod:mroIn K B.cls (.type "module")=some false)(hqn:cd.qualname="_Accumulator"){k:Nat}(gok:GlOk B k G mg mb){a:Addr}{fd:FuncData}{names:List (Str×NameKind)}{p0 p1 apos pos rp:Pos}
  {test:Expr} {first:List Stmt} {ip:Pos}
  (P:SupDef B a fd names ["self"] [.If test first [] ip,.Return (some (.Call (.Attribute (.Call (.Name "super" p0) [] [] p1) "pop" apos) [] [] pos)) rp] cc) (hline:(apos.endLine==pos.line)=true)
  (hb:∀ s v,BindsTo s fd ⟨[v],[]⟩ [("self",v)])
  (htest:∀ (σ:Sto) (i di:Nat) (c:Cell) (xs:List PV),σ[i]?=some c→c.d= .acc di xs→accOk σ (.lst i)=true→xs.length≤10000→isTK G 100 ⟨names,[("self",.lst i)]⟩ σ test (fun b s=>some (b,s))=some (xs.isEmpty,σ))
  (hfirst:∀ cx σ,exsK G 100 cx σ first (fun f c s=>some (f,c,s))=some (.ret (.tup [.str "",.str ""]),cx,σ)):FnOk B (k+1) (.ref a) popF where
 able:=let ⟨o,ho,hd⟩:=P.D.obj; callable_fn ho P.D.tb hd
 run:=fun A ρ σ s args vals v σ' R x r h=>by
  obtain⟨i,c,di,xs,rfl,hacc,hc,hd,hlen,hcase⟩:=popF_some h
  obtain⟨_,_,rfl,⟨b,rfl,hbi⟩,r2⟩:=r
  rw[show _=[] from r2]
  have HT:Tr B k ⟨names,[("self",.lst i)]⟩ σ test xs.isEmpty σ:=(all_sound (β:=Bool×Sto) ok gok 100).isT (htest σ i di c xs hc hd hacc hlen) fun b' σ₁ e H=>by
   obtain⟨rfl,rfl⟩:=Prod.mk.inj (Option.some.inj e)
   exact H
  refine meth_enter ok P.D R x (args:=[.lst i]) (vals':=[.ref b]) (hb s _) ⟨_,_,rfl,⟨b,rfl,hbi⟩,rfl⟩ rfl fun s₁ Q x₁ e₁ fr r₁ hns q=>?_
  have R':=R.deeper (callEnv fd s.heap.objs.size a)
  refine ks_wpAt_execs_cons (ks_wpAt_If (wpAt_of_wpAny (HT.use R' x₁ fr fun bv ρ₂ s₂ x₂ e₂ fr₂ hbv=>?_)))
  subst hbv
  rcases hcase with⟨rfl,rfl,rfl⟩ | ⟨ys,y,rfl,rfl,rfl⟩
  ·have HF:S1 B k ⟨names,[("self",.lst i)]⟩ σ' (execs first) (.ret (.tup [.str "",.str ""])) ⟨names,[("self",.lst i)]⟩ σ':=(all_run (β:=Fl×Cx×Sto) ok gok 100).exs (hfirst ⟨names,[("self",.lst i)]⟩ σ') fun f c σ₁ e H=>by
    obtain⟨rfl,e2⟩:=Prod.mk.inj (Option.some.inj e)
    obtain⟨rfl,rfl⟩:=Prod.mk.inj e2
    exact H
   refine wpAt_of_wpAny (HF R' x₂ fr₂ fun f s₃ ρ₃ p=>?_)
   obtain⟨val,hf,hv⟩:=p.fl
   subst hf
   exact q _ _ ρ₃ p.st (e₂.weak.trans p.evo) hv
  ·rw[show (ys++[v]).isEmpty=false by cases ys <;> rfl]
   refine wpAt_of_wpAny (wpAny_pure ?_)
   exact pop_tail ok C S hmod hqn P hline x₂ (hns.at' fun o ho=>e₂.kp.nil ho (fr.ofX _ List.mem_cons_self).1 (fr.ofX _ List.mem_cons_self).2.1) hc hd (e₂.at hbi) hlen fun v s' x' e' hv=>q _ _ ρ₂ x' (e₂.weak.trans e'.weak) hv
end
noncomputable abbrev accObj (C dx:Addr):Obj:={ cls:= .ref C,dict:=some dx,data:= .seq #[] }
structure MakesL (K:Frag) (C fI:Addr) (cd:ClassData):Prop where
 obj:∃ oc od sl,K.lookup C=some ⟨oc,od,.cls cd,sl⟩∧(sl.toList[4]?).join=some (.builtin "list.__new__")
 del:cd.hasDel=false
 mro:cd.mro=[.ref C,.type "list",.type "object"]
 call:specialIn K (.ref C) "__call__"=some (some (.builtin "type.__call__"))
 typ:instIn K (.ref C) (.type "type")=some true
 init:findIn K (.ref C) "__init__"=some (some (.ref fI))
 fn:typeIn K (.ref fI)=some (.type "function")
section
variable {prog:Program}{w:World}{A:Around}{K:Frag}{C fI:Addr}{cd:ClassData}{R:Result→Shared→Prop}{h:Heap}{g:Array GenState}{d:Drawn}{t:Nat}{os:OsState}
theorem MakesL.cls (Y:MakesL K C fI cd):clsIn K C=some cd:=by
 obtain⟨oc,od,sl,ho,_⟩:=Y.obj
 unfold clsIn; rw[ho]
theorem MakesL.mroOf' (Y:MakesL K C fI cd)(X:K.In h):Looks (model prog w) h (mroOf (.ref C)) [.ref C,.type "list",.type "object"]:=by
 have:=(looks_clsIn (M:=model prog w) X Y.cls).andThen (f:=fun c=>pure c.mro) .now
 rw[Y.mro] at this
 exact this
theorem MakesL.made (Y:MakesL K C fI cd)(X:K.In h):Looks (model prog w) h (Bind.madeBy (.ref C)) (some "list.__new__"):=by
 obtain⟨oc,od,sl,ho,hs⟩:=Y.obj
 intro A Q E s k q
 unfold Bind.madeBy
 refine wpAny_bind (Y.mroOf' X A _ E s k ?_)
 rw[List.forIn_cons]
 refine wpAny_bind (wpAny_bind (wpAny_bind (wpAny_bind (wpAny_loadPart (k _ _ (X _ _ ho)) (wpAny_pure ?_)))))
 dsimp only
 rw[← Array.getElem?_toList,hs]
 exact wpAny_pure (wpAny_pure (wpAny_pure q))
theorem MakesL.base (Y:MakesL K C fI cd)(X:K.In h):Looks (model prog w) h (Bind.staticBase (.ref C)) (.ref C):=by
 intro A Q E s k q
 unfold Bind.staticBase
 refine wpAny_bind (Y.mroOf' X A _ E s k ?_)
 rw[List.forIn_cons]
 exact wpAny_bind (wpAny_bind (wpAny_bind (Y.made X A _ E s k (wpAny_pure (wpAny_pure (wpAny_pure q))))))
theorem MakesL.sub (Y:MakesL K C fI cd)(X:K.In h){b:Value}(hb:([.ref C,.type "list",.type "object"]:List Value).contains b=true):Looks (model prog w) h (isSubtype (.ref C) b) true:=by
 refine looks_mroIn X ?_
 unfold mroIn
 rw[Y.cls,Option.bind_some,Y.mro,if_neg (by simp),hb]
theorem new_list {rest:List Value}(Y:MakesL K C fI cd)(X:K.In h)
  (hq:R (.ok (.ret (.ref (h.objs.size+1)))) ⟨(h.push emptyDict).push (accObj C h.objs.size),g,d,t,os⟩):
  codeAny (model prog w) A (.call (.builtin "list.__new__") ⟨.ref C::rest,[]⟩) R ⟨h,g,d,t,os⟩:=by
 have made:=Y.made (prog:=prog) (w:=w) X
 have base:=Y.base (prog:=prog) (w:=w) X
 have typ:Looks (model prog w) h (isInstance (.ref C) (.type "type")) true:=looks_instIn X Y.typ
 have hsub:Looks (model prog w) h (isSubtype (.ref C) (.type "list")) true:=Y.sub X (by simp)
 have istype:Looks (model prog w) h (isType (.ref C)) true:=fun A Q E s k q=>by
  obtain⟨oc,od,sl,ho,hs⟩:=Y.obj
  obtain⟨hh,g,d,t,os⟩:=s
  exact ks_wpAny_isType_cls (k _ _ (X _ _ ho)) rfl q
 have k1:builtinKind "list.__new__"=some .builtinFn:=by decide+kernel
 have k2:splitId "list.__new__"=some ("list","__new__"):=by decide+kernel
 refine codeAny_of_tree ?_
 show wpAny _ A.in1 (do checkBuiltinCall "list.__new__" ⟨.ref C::rest,[]⟩; again (.builtin "list.__new__" ⟨.ref C::rest,[]⟩)) _ _ _
 refine wpAny_bind ?_
 unfold checkBuiltinCall
 rw[k1,k2]
 dsimp only
 repeat (first | ((with_reducible refine if_f ?ic ?_); (case ic=>first | (rw[bne_self_eq_false]; exact Bool.false_ne_true) | exact Bool.false_ne_true)) | ((with_reducible refine if_t ?ic ?_); (case ic=>first | exact beq_self_eq_true _ | rfl)) | lk)
 refine⟨plainId_quiet F.plain_list_new _,codeAny_builtin_stack F.entry_list_new rfl fun p st=>?_⟩
 rw[Around.under_plainId F.plain_list_new _]
 have hsub':Looks (model prog w) h (isSubtype (.ref C) (.type (("list.__new__".splitOn ".__new__").headD ""))) true:=by rw[owner_list_new]; exact hsub
 obtain⟨oc,od,sl,hC,hs⟩:=Y.obj
 repeat (first | ((with_reducible refine if_f ?ic ?_); (case ic=>first | (rw[bne_self_eq_false]; exact Bool.false_ne_true) | exact Bool.false_ne_true)) | ((with_reducible refine if_t ?ic ?_); (case ic=>first | exact beq_self_eq_true _ | rfl)) | lk)
 rw[owner_list_new]
 dsimp only
 repeat (first | ((with_reducible refine if_f ?ic ?_); (case ic=>first | (rw[bne_self_eq_false]; exact Bool.false_ne_true) | exact Bool.false_ne_true)) | ((with_reducible refine if_t ?ic ?_); (case ic=>first | exact beq_self_eq_true _ | rfl)) | lk)
 refine wpAny_load (Heap.get?_push_of_some _ (Heap.get?_push_of_some _ (X _ _ hC))) ?_
 dsimp only
 rw[Y.del]
 refine wpAny_pure ?_
 refine if_f Bool.false_ne_true ?_
 refine wpAny_pure (wpAny_pure ?_)
 show R _ _
 rw[Heap.size_push]
 exact hq
theorem make_list {rest:List Value}(Y:MakesL K C fI cd)(X:K.In h)
  (hq:codeAny (model prog w) (A.under (.builtin "type.__call__" ⟨.ref C::rest,[]⟩)) (.call (.ref fI) ⟨.ref (h.objs.size+1)::rest,[]⟩) (InitBack (h.objs.size+1) R) ⟨(h.push emptyDict).push (accObj C h.objs.size),g,d,t,os⟩):
  codeAny (model prog w) A (.call (.ref C) ⟨rest,[]⟩) R ⟨h,g,d,t,os⟩:=by
 have made:=Y.made (prog:=prog) (w:=w) X
 have typ:Looks (model prog w) h (isInstance (.ref C) (.type "type")) true:=looks_instIn X Y.typ
 have call:Looks (model prog w) h (specialOf (.ref C) "__call__") (some (.builtin "type.__call__")):=looks_specialIn X Y.call
 have hm:=Y.mroOf' (prog:=prog) (w:=w) X
 have self:Looks (model prog w) h (isSubtype (.ref C) (.ref C)) true:=Y.sub X (by simp)
 have hi:Looks (model prog w) h (typeLookup (.ref C) "__init__") (some (.ref fI)):=looks_findIn X Y.init
 have hb:=fun self=>bind_fn (M:=model prog w) X (f:=fI) self Y.fn
 obtain⟨oc,od,sl,hC,hs⟩:=Y.obj
 refine codeAny_of_tree ?_
 show wpAny _ _ (callAny (.ref C) _) _ _ _
 refine nd_load (X _ _ hC) ?_
 show wpAny _ _ (callAny.viaDunder (.ref C) _) _ _ _
 unfold callAny.viaDunder
 refine wpAny_bind (call.at ?_)
 dsimp only
 rw[tc_bind]
 refine wpAny_bind (wpAny_pure (wpAny_bind (wpAny_pure ?_)))
 refine wpAny_pure (a:=Fin.again (.call (.builtin "type.__call__") ⟨.ref C::rest,[]⟩)) (And.intro rfl ?_)
 refine codeAny_call_builtin_at (Code.quiet_builtin _ (by decide+kernel)) entry_typeCall (check_slot tc_kind tc_split typ (tc_args _ _ _) ?_)
 unfold Builtin.«type.__call__»
 repeat (first | ((with_reducible refine if_f ?ic ?_); (case ic=>exact Bool.false_ne_true)) | with_reducible refine wpAny_call ?_ | lk)
 refine new_list Y X ?_
 have k:∀ b o,h.get? b=some o→((h.push emptyDict).push (accObj C h.objs.size)).get? b=some o:=fun b o e=>Heap.get?_push_of_some _ (Heap.get?_push_of_some _ e)
 have hx:((h.push emptyDict).push (accObj C h.objs.size)).get? (h.objs.size+1)=some (accObj C h.objs.size):=by heap_get
 have t1:Looks (model prog w) ((h.push emptyDict).push (accObj C h.objs.size)) (typeOf (.ref (h.objs.size+1))) (.ref C):=(Looks.ld hx).andThen .now
 have s1:=self.keeps k
 have i1:=hi.keeps k
 have b1:=(hb (.ref (h.objs.size+1))).keeps k
 unfold isInstance callSpecial? specialOf
 repeat (first | with_reducible refine wpAny_call ?_ | lk)
 refine codeAny_mono hq fun r s' z=>?_
 rcases r with e | (v | _ | _ | _) <;> first | exact z | exact z.elim | skip
 obtain⟨rfl,z⟩:=z
 exact wpAny_pure (wpAny_pure z)
end
open PySem.Builtin PySem.Builtin.ObjectAttr PySem.Builtin.Getset_descriptor
section
variable {B:Bs}{A:Around}{ρ:List Addr}{σ:Sto}{s:Shared}{E:Value→Shared→Prop}
theorem refuse_list (self:Value)(C:Addr):refuseLoop self "__setattr__" [.ref C,.type "list",.type "object"]=pure ():=by
 rw[refuseLoop_ref]
 kernel_rfl
noncomputable def sizeEnt (hash:Int)(t:Tok)(v:Value):Obj:={ cls:= .type "dict",data:= .dict #[⟨hash,.str "_initial_size" t,v⟩] 1 }
theorem acc_setAttr {K:Frag}{fI:Addr}{cd:ClassData}(Y:MakesL K B.cls fI cd)(hdict:cd.hasDict=true)(X:K.In s.heap){x dx:Addr}{data:Data}(hx:s.heap.get? x=some { cls:= .ref B.cls,dict:=some dx,data:=data })(hnc:∀ c,data≠ .cls c)(hd:s.heap.get? dx=some emptyDict)
  (hs:findIn K (.ref B.cls) "__setattr__"=some (some (.builtin "object.__setattr__"))) (ht:takerIn K B.cls "_initial_size"=some none) {v:Value} {Q:Unit→Shared→Prop}
  (h:∀ h' tk hash t,h'.get? dx=some (sizeEnt hash t v)→(∀ b o,b≠dx→s.heap.get? b=some o→h'.get? b=some o)→Q () { s with heap:=h',toks:=tk }):
  wpAny (model B.prog B.w) A (setAttr (.ref x) "_initial_size" v) Q E s:=by
 obtain⟨hh,g,d,t,os⟩:=s
 have I:InstAt hh x { cls:= .ref B.cls,dict:=some dx,data:=data } B.cls (some emptyDict):=⟨hx,rfl,by unfold notCls; cases data <;> first | rfl | (rename_i c; exact absurd rfl (hnc c)),hd⟩
 have SF:=PySem.F.store_object
 refine set_plain X I hs ?_
 have hc:=Y.cls
 have sub:Looks (model B.prog B.w) hh (isInstance (.ref x) (.type "object")) true:=I.type.andThen (Y.sub X (by simp))
 refine codeAny_call_builtin SF.slot.plain SF.entry (@check_slot (model B.prog B.w) _ _ ⟨hh,g,d,t+1,os⟩ "object.__setattr__" "object" "__setattr__" (.ref x) [.str "_initial_size" t,v] [] _ SF.kind SF.split sub (SF.args (.ref x) (.str "_initial_size" t) v) ?_)
 obtain⟨attr,ha,hr⟩:=Option.bind_eq_some_iff.mp ht
 have hm:Looks (model B.prog B.w) hh (mroOf (.ref B.cls)) _:=Y.mroOf' X
 have L3:Looks (model B.prog B.w) hh (storeTaker? attr) none:=by
  cases attr with
  | none=>cases hr; exact .now
  | some a=>
   obtain⟨b,hb,e⟩:=Option.map_eq_some_iff.mp hr
   refine (looks_takesIn X hb).andThen ?_
   cases b
   ·exact .now
   ·cases e
 rw[osa_eq,refuse_eq]
 refine wpAny_bind (wpAny_bind (I.type.at (wpAny_bind (hm.at ?_))))
 rw[refuse_list]
 refine wpAny_pure (wpAny_bind (I.type.at (wpAny_bind ((looks_findIn X ha).at (wpAny_bind (L3.at ?_))))))
 refine wpAny_bind (wpAny_pure (wpAny_bind (wpAny_bind (wpAny_loadPart hx (wpAny_bind ((looks_clsIn X hc).at ?_))))))
 rw[hdict]
 refine wpAny_pure (a:=some dx) (wpAny_bind (wpAny_pure (wpAny_bind ?_)))
 unfold nsSet
 refine wpAny_bind (wpAny_bind (wpAny_askSetting (wpAny_pure (wpAny_bind (wpAny_mkText (wpAny_bind (wpAny_loadPart hd ?_)))))))
 have c:aRefKeyMayBeTheName "_initial_size" #[]=false:=by rw[aRefKeyMayBeTheName_at]; simp
 dsimp only[emptyDict]
 rw[c]
 generalize hH:(if (Str.ofString "_initial_size").cps.isEmpty=true then (0:Int) else _)=hash
 have hh':(hh.update dx (Obj.putName "_initial_size" hash (.str "_initial_size" (t+1)) v)).get? dx=some (sizeEnt hash (t+1) v):=by
  rw[Heap.get?_update_self _ hd (by kernel_rfl)]
  kernel_rfl
 refine wpAny_updatePart hd ?_
 refine wpAny_bind (wpAny_lookBehind hh' (pastItsLine_dict (by rw[sizeLine_eq]; simp)) ?_)
 exact wpAny_pure (h _ _ hash (t+1) hh' fun b o hb e=>(Heap.get?_update_other _ _ (Ne.symm hb)).trans e)
theorem ns_sizeEnt {h:Heap}{dx:Addr}{hash:Int}{t:Tok}{v:Value}(e:h.get? dx=some (sizeEnt hash t v)):h.Ns dx (fun y=>if y="_initial_size" then some v else none):=by
 refine⟨_,_,_,e,rfl,fun en hm=>?_,fun name=>?_⟩
 ·simp at hm; subst hm; exact⟨_,_,rfl⟩
 ·unfold nsFind findBy
  by_cases hn:name="_initial_size"
  ·subst hn
   simp[Value.isStr]
  ·have:((PySem.Str.ofString "_initial_size")==name)=false:=by simpa using fun e=>hn e.symm
   simp[Value.isStr,this,hn]
noncomputable def iniF (l:Sto)(k:Int):PV×Sto:=(.lst (l.length+1),l++[⟨1,.ins [("_initial_size",.int k)]⟩,⟨1,.acc l.length []⟩])
theorem set_append2 (σ:Sto)(c c':Cell)(d:CD):setCell (σ++[c,c']) σ.length d=σ++[⟨c.ver+1,d⟩,c']:=by
 unfold setCell
 apply List.ext_getElem?
 intro i
 rw[List.getElem?_modify]
 rcases Nat.lt_trichotomy i σ.length with h | h | h
 ·rw[List.getElem?_append_left h,List.getElem?_append_left h]
  have:¬ σ.length=i:=by lia
  simp[this]
 ·subst h
  simp
 ·have:¬ σ.length=i:=by lia
  obtain⟨j,rfl⟩:=Nat.exists_eq_add_of_lt h
  rw[List.getElem?_append_right (by lia),List.getElem?_append_right (by lia)]
  have e:σ.length+j+1 - σ.length=j+1:=by lia
  rw[e]
  simp[this]
theorem set_last (σ:Sto)(c:Cell)(d:CD):setCell (σ++[c]) σ.length d=σ++[⟨c.ver+1,d⟩]:=by
 unfold setCell
 apply List.ext_getElem?
 intro i
 rw[List.getElem?_modify]
 rcases Nat.lt_trichotomy i σ.length with h | h | h
 ·rw[List.getElem?_append_left h,List.getElem?_append_left h]
  have:¬ σ.length=i:=by lia
  simp[this]
 ·subst h
  simp
 ·have:¬ σ.length=i:=by lia
  rw[List.getElem?_eq_none (by simp; lia),List.getElem?_eq_none (by simp; lia)]
  simp
theorem set_append3 (σ:Sto)(c c':Cell)(d:CD):setCell (σ++[c,c']) (σ.length+1) d=σ++[c,⟨c'.ver+1,d⟩]:=by
 have:=set_last (σ++[c]) c' d
 simpa using this
end
section
variable {B:Bs}{A:Around}{ρ:List Addr}{σ:Sto}{s:Shared}{E:Value→Shared→Prop}
theorem init_run (ok:BsOk B){K:Frag}(C:ClsOk B K){cd:ClassData}{cc:Addr}{mg mb:Str→Option Value}(S:SupOk B K cd cc mg mb){fI:Addr}(Y:MakesL K B.cls fI cd)(hdict:cd.hasDict=true)
  (hsa:findIn K (.ref B.cls) "__setattr__"=some (some (.builtin "object.__setattr__"))) (htk:takerIn K B.cls "_initial_size"=some none)
  {k:Nat} {fd:FuncData} {names:List (Str×NameKind)} {p0 p1 apos pos rp sp ap vp ep:Pos}
  (P:SupDef B fI fd names ["self","initial_size"] [.Assign [.Attribute (.Name "self" sp) "_initial_size" ap] (.Name "initial_size" vp) ep,.Expr (.Call (.Attribute (.Call (.Name "super" p0) [] [] p1) "__init__" apos) [] [] pos) rp] cc) (hline:(apos.endLine==pos.line)=true)
  {vals:List Value} {i di:Nat} {x D:Addr} {kk:Int} {kt:Tok} {vi vd:Nat} (hb:BindsTo s fd ⟨vals,[]⟩ [("self",.ref x),("initial_size",.int kk kt)])
  (R:Room (k+1) A) (st:St B ρ σ s) (hi:ρ[i]?=some x) (hd:ρ[di]?=some D) (hci:σ[i]?=some ⟨vi,.acc di []⟩) (hcd:σ[di]?=some ⟨vd,.ins []⟩) (hne:i≠di)
  {n:Nat} (hox:s.heap.get? x=some { cls:= .ref B.cls,dict:=some D,data:= .seq #[] n }) (hoD:s.heap.get? D=some emptyDict):
  codeAny (model B.prog B.w) A (.call (.ref fI) ⟨vals,[]⟩) (fun r s'=>match r with
   | .ok (.ret val)=>∃ ρ',St B ρ' (setCell (setCell σ di (.ins [("_initial_size",.int kk)])) i (.acc di [])) s'∧Evo B [] ρ σ s.heap ρ' (setCell (setCell σ di (.ins [("_initial_size",.int kk)])) i (.acc di [])) s'.heap∧VR B ρ' s'.heap .none val
   | _=>False) s:=by
 have hxD:x≠D:=fun e=>hne ((List.getElem?_inj (List.getElem?_eq_some_iff.mp hi).1 st.nodup).mp (hi.trans (e▸hd.symm)))
 refine meth_code ok P.D R st (args:=[.lst i,.int kk]) (vals':=[.ref x,.int kk kt]) hb ⟨_,_,rfl,⟨x,rfl,hi⟩,_,_,rfl,⟨_,rfl⟩,rfl⟩ rfl fun s₁ x₁ e₁ fr r₁ hns=>?_
 have hox₁:s₁.heap.get? x=some { cls:= .ref B.cls,dict:=some D,data:= .seq #[] n }:=by
  obtain⟨c',h1,h2,h3⟩:=e₁.ver i _ hci
  rw[hci] at h1; cases h1
  exact (h3 rfl).2 x hi _ hox
 have hoD₁:s₁.heap.get? D=some emptyDict:=by
  obtain⟨c',h1,h2,h3⟩:=e₁.ver di _ hcd
  rw[hcd] at h1; cases h1
  exact (h3 rfl).2 D hd _ hoD
 have hkind:(callEnv fd s.heap.objs.size fI).scope.kind= .function:=P.D.kind
 have hk1:(callEnv fd s.heap.objs.size fI).kindOf "self"=some .local:=by show fd.scope.names.lookup _=_; rw[P.D.nms]; exact P.self
 have hk2:(callEnv fd s.heap.objs.size fI).kindOf "initial_size"=some .local:=by show fd.scope.names.lookup _=_; rw[P.D.nms]; exact P.D.pk "initial_size" (by simp)
 refine ks_wpAt_execs_cons (ks_wpAt_Assign_Attr (wpAt_of_wpAny ?_) ?hs)
 case hs=>rfl
 refine wpAny_Name (wpAny_loadName_local hkind hk2 hns rfl ?_) (by decide)
 refine wpAny_Name (wpAny_loadName_local hkind hk1 hns rfl ?_) (by decide)
 refine acc_setAttr Y hdict (C.in x₁) hox₁ (fun c h=>by cases h) hoD₁ hsa htk fun h' tk hash t hD' hk'=>?_
 obtain⟨x₂,e₂⟩:=x₁.set ok (s':={ s₁ with heap:=h',toks:=tk }) (d:= .ins [("_initial_size",.int kk)]) rfl rfl hd (fun b o hb e=>hk' b o hb e)
  (fun σ' e=>⟨_,ns_sizeEnt hD',fun y=>by
   by_cases hy:y="_initial_size"
   ·subst hy; simp only[List.lookup_cons,beq_self_eq_true,if_true]; exact⟨_,rfl,_,rfl⟩
   ·have:(y==("_initial_size":Str))=false:=by simpa using hy
    simp only[List.lookup_cons,this,List.lookup_nil,hy,if_false]⟩) ⟨_,hD',fun vs h=>by cases h⟩
 have hns₂:h'.Ns s.heap.objs.size (fun y=>List.lookup y ([Str.ofString "self",Str.ofString "initial_size"].zip [Value.ref x,Value.int kk kt])):=by
  refine hns.at' fun o ho=>?_
  obtain⟨h1,h2,_⟩:=fr.ofX _ List.mem_cons_self
  exact e₂.kp.nil ho h1 h2
 have hox₂:h'.get? x=some { cls:= .ref B.cls,dict:=some D,data:= .seq #[] n }:=hk' _ _ hxD hox₁
 show _root_.PySem.wpAt _ _ _ (execs _ _) _ _ _
 refine ks_wpAt_execs_cons (ks_wpAt_Expr_any (sup_here C S bk_init x₂ P hline hns₂ rfl hox₂ rfl (fun c h=>by cases h) (along_init K) (by decide) fun h₃ tk₃ u hk hu=>?_) ?hi ?hs2)
 case hi=>
  unfold interactive
  simp[hkind]
 case hs2=>rfl
 refine bound_call bk_init.bt hu (by decide+kernel) F.entry_list_init (fun A E Q q=>wpAny_of_eq (cb_init x) q) ?_
 obtain⟨x₃,e₃⟩:=x₂.grow ok (s':={ s₁ with heap:=h₃,toks:=tk₃ }) rfl x₂.gens hk
 unfold Builtin.«list.__init__»
 simp only[List.isEmpty_nil,Bool.not_true,Bool.false_eq_true,if_false,List.length_nil]
 rw[if_neg (by decide)]
 refine wpAny_bind (wpAny_listItems (hk _ _ hox₂) rfl ?_)
 show wpAny _ _ (updateSeq x _ >>= fun _=>_) _ _ _
 refine wpAny_bind (wpAny_updateSeq (hk _ _ hox₂) rfl ?_ (by simp) (by simp))
 refine wpAny_bind (wpAny_letGo (wpAny_pure ⟨_,rfl,?_⟩))
 have ho':(h₃.update x (Obj.mapSeq fun _=>#[])).get? x=some { cls:= .ref B.cls,data:= .seq #[] n,dict:=some D }:=by
  rw[Heap.get?_update_self _ (hk _ _ hox₂) (by simp[Obj.mapSeq,Obj.isFreed])]
  simp[Obj.mapSeq]
 obtain⟨x₄,e₄⟩:=x₃.set ok (s':={ s₁ with heap:=h₃.update x (Obj.mapSeq fun _=>#[]),toks:=tk₃ }) (i:=i) (a:=x) (d:= .acc di []) rfl rfl hi (fun c o hb ho=>(Heap.get?_update_other _ _ (Ne.symm hb)).trans ho)
  (fun σ' e=>⟨[],n,D,ho',rfl,hd⟩) ⟨_,ho',fun vs h=>by cases h⟩
 refine wpAt_of_wpAny ?_
 rw[arm_execs_nil]
 refine wpAny_pure ?_
 exact⟨ρ,x₄,(e₂.trans (e₃.trans e₄)).weak,rfl⟩
theorem Room.tc {k:Nat}{A:Around}(R:Room (k+2) A)(a:Args):Room (k+1) (A.under (.builtin "type.__call__" a)):=by
 have hw:(Code.builtin "type.__call__" a).weight≤1:=by
  have e:(Code.builtin "type.__call__" a).weight=0+(if (Code.builtin "type.__call__" a).isCreation=true then 1 else 0):=by kernel_rfl
  rw[e]
  split <;> decide
 have hu:(Code.builtin "type.__call__" a).cUnits=1:=by kernel_rfl
 exact⟨R.handled,by have:=R.depth; show A.depth+(Code.builtin "type.__call__" a).weight+8 * (k+1) < 1000; lia,by have:=R.units; show A.units+(Code.builtin "type.__call__" a).cUnits+64 * (k+1)+400 < 9900; lia⟩
noncomputable def ctorF0:Fn:=fun args σ=>match args with
 | []=>some (iniF σ 0)
 | v::l=>match l with
  | []=>onInt v fun k=>some (iniF σ k)
  | _::_=>none
theorem ctor_run (ok:BsOk B){K:Frag}(C:ClsOk B K){cd:ClassData}{cc:Addr}{mg mb:Str→Option Value}(S:SupOk B K cd cc mg mb){fI:Addr}(Y:MakesL K B.cls fI cd)(hdict:cd.hasDict=true)
  (hsa:findIn K (.ref B.cls) "__setattr__"=some (some (.builtin "object.__setattr__"))) (htk:takerIn K B.cls "_initial_size"=some none)
  {k:Nat} {fd:FuncData} {names:List (Str×NameKind)} {p0 p1 apos pos rp sp ap vp ep:Pos}
  (P:SupDef B fI fd names ["self","initial_size"] [.Assign [.Attribute (.Name "self" sp) "_initial_size" ap] (.Name "initial_size" vp) ep,.Expr (.Call (.Attribute (.Call (.Name "super" p0) [] [] p1) "__init__" apos) [] [] pos) rp] cc) (hline:(apos.endLine==pos.line)=true)
  {rest:List Value} {kk:Int} {kt:Tok} (hb:∀ s ρ σ x,St B ρ σ s→BindsTo s fd ⟨.ref x::rest,[]⟩ [("self",.ref x),("initial_size",.int kk kt)])
  (R:Room (k+2) A) (st:St B ρ σ s):Ok B A ρ σ s (call (.ref B.cls) rest) (iniF σ kk).2 (Is B (iniF σ kk).1):=by
 obtain⟨h,g,d,t,os⟩:=s
 refine wpAny_call (make_list Y (C.in st) ?_)
 have keep:∀ b o,h.get? b=some o→((h.push emptyDict).push (accObj B.cls h.objs.size)).get? b=some o:=fun b o e=>Heap.get?_push_of_some _ (Heap.get?_push_of_some _ e)
 have hx:((h.push emptyDict).push (accObj B.cls h.objs.size)).get? (h.objs.size+1)=some (accObj B.cls h.objs.size):=by heap_get
 have hD:((h.push emptyDict).push (accObj B.cls h.objs.size)).get? h.objs.size=some emptyDict:=Heap.get?_push_of_some _ (Heap.get?_push_at rfl rfl)
 have nD:h.get? h.objs.size=none:=get?_size h
 have nx:h.get? (h.objs.size+1)=none:=by
  cases e:h.get? (h.objs.size+1) with
  | none=>rfl
  | some o=>
   have:=Heap.lt_size e
   exact absurd this (Nat.not_lt.mpr (Nat.le_succ _))
 obtain⟨fD1,fD2,fD3⟩:=st.dead ok nD
 obtain⟨fx1,fx2,fx3⟩:=st.dead ok nx
 obtain⟨x₁,e₁⟩:=st.grow ok (s':=⟨(h.push emptyDict).push (accObj B.cls h.objs.size),g,d,t,os⟩) rfl st.gens keep
 obtain⟨x₂,e₂,i₂,v₂⟩:=x₁.adopt ok e₁ (D:=h.objs.size) (d:= .ins []) nD fD1 fD2 fD3 hD (by decide) (fun ρ' _=>⟨fun _=>none,⟨_,_,_,hD,rfl,fun e he=>absurd he (by simp),fun _=>rfl⟩,fun y=>rfl⟩)
 obtain⟨x₃,e₃,i₃,v₃⟩:=x₂.adopt ok e₂ (D:=h.objs.size+1) (d:= .acc σ.length []) nx (fun hm=>by
  rcases List.mem_append.mp hm with hm | hm
  ·exact fx1 hm
  ·simp at hm) fx2 fx3 hx (by intro e; cases e) (fun ρ' vk=>⟨[],_,h.objs.size,hx,rfl,vk.at_ _ _ i₂⟩)
 have hl:(σ++[(⟨0,CD.ins []⟩:Cell)]).length=σ.length+1:=by simp
 refine codeAny_mono (init_run ok C S Y hdict hsa htk P hline (vals:= .ref (h.objs.size+1)::rest) (i:=σ.length+1) (di:=σ.length) (x:=h.objs.size+1) (D:=h.objs.size) (kk:=kk) (kt:=kt) (vi:=0) (vd:=0)
  (hb _ _ _ _ x₃) (R.tc _) x₃ (by rw[← hl]; exact i₃) (v₃.at_ _ _ i₂) (by simp) (by simp) (by simp) hx hD) fun r s' hr=>?_
 rcases r with e | (_ | _ | _ | v) <;> first | exact hr.elim | skip
 obtain⟨ρ',x',e',hv⟩:=hr
 have hv':v= .none:=hv
 refine⟨hv',ρ',?_⟩
 have es:setCell (setCell (σ++[(⟨0,CD.ins []⟩:Cell)]++[(⟨0,.acc σ.length []⟩:Cell)]) σ.length (.ins [("_initial_size",.int kk)])) (σ.length+1) (.acc σ.length [])=(iniF σ kk).2:=by
  have:σ++[(⟨0,CD.ins []⟩:Cell)]++[⟨0,CD.acc σ.length []⟩]=σ++[⟨0,CD.ins []⟩,⟨0,CD.acc σ.length []⟩]:=by simp
  rw[this,set_append2,set_append3]
  rfl
 rw[es] at x' e'
 have ev:=e₃.trans e'
 refine⟨x',ev,⟨_,rfl,?_⟩⟩
 exact e'.at (by rw[← hl]; exact i₃)
end
noncomputable def accParts:List PV→Option (List (Str×Str))
 | []=>some []
 | v::vs=>onTup v fun t=>two t fun x y=>onStr x fun a=>onStr y fun b=>opt (accParts vs) fun ps=>some ((a,b)::ps)
section
variable {B:Bs}{A:Around}{ρ:List Addr}{σ:Sto}{s:Shared}{E:Value→Shared→Prop}
end
noncomputable def valOf (ps:List (Str×Str))(j:Nat):Int:=match ps[j]? with
 | some p=>(p.1.length:Int)+(p.2.length:Int)
 | none=>0
noncomputable def partsLen (ps:List (Str×Str)):Int:=preSum (valOf ps) ps.length
noncomputable def iniOf (σ:Sto)(di:Nat):Option Int:=match σ[di]? with
 | some c=>match c.d with
  | .ins kvs=>match kvs with
   | [(n,v)]=>match v with
    | .int k=>some k
    | _=>none
   | _=>none
  | _=>none
 | none=>none
structure ScOk (scope:Scope) (nm:Str):Prop where
 co:scope.isCoroutine=false
 clos:∀ env,closureFor scope env=pure []
 cell:∀ y∈scope.names,y.2≠ .cell
 h0:scope.names.lookup (".0":Str)=some NameKind.local
 xa:scope.names.lookup ("fws":Str)=some .local
 xb:scope.names.lookup ("part":Str)=some .local
 kind:scope.kind= .function
 nm:scope.names.lookup nm=some .globalImplicit
section
variable {B:Bs}{A:Around}{ρ:List Addr}{σ:Sto}{s:Shared}{E:Value→Shared→Prop}
end
noncomputable def partTexts (ps:List (Str×Str)):List Str:=ps.map fun p=>Txt.join "" [p.1,p.2]
section
variable {B:Bs}{A:Around}{ρ:List Addr}{σ:Sto}{s:Shared}{E:Value→Shared→Prop}
end
noncomputable def lenF:Fn:=fun args σ=>objK args σ fun _ di xs=>opt (iniOf σ di) fun k=>opt (accParts xs) fun ps=>
 grd ((0≤k∧k < 1000)∧(∀ p∈ps,p.1.length≤1000000∧p.2.length≤1000000)∧0≤k+partsLen ps∧k+partsLen ps < 4611686018427387904) (some (.int (k+partsLen ps),σ))
noncomputable def strF:Fn:=fun args σ=>objK args σ fun _ _ xs=>opt (accParts xs) fun ps=>
 grd ((∀ p∈ps,p.1.length+p.2.length≤1000000)∧ps.length≤10000∧JoinOk "" (partTexts ps)=true) (some (.str (Txt.join "" (partTexts ps)),σ))
theorem Room.in1 {k:Nat}{A:Around}(R:Room (k+1) A):Room k A.in1:=
 ⟨R.handled,by have:=R.depth; show A.depth+8 * k < 1000; lia,by have:=R.units; show A.units+1+64 * k+400 < 9900; lia⟩
theorem Room.mono {k j:Nat}{A:Around}(R:Room j A)(h:k≤j):Room k A:=
 ⟨R.handled,by have:=R.depth; lia,by have:=R.units; lia⟩
theorem FnOk.mono {B:Bs}{k j:Nat}{f:Value}{F:Fn}(h:FnOk B k f F)(hkj:k≤j):FnOk B j f F:=
 ⟨h.able,fun A ρ σ s args vals v σ' R x r e=>h.run A ρ σ s args vals v σ' (R.mono hkj) x r e⟩
theorem FnOk.le {B:Bs}{k:Nat}{f:Value}{F F':Fn}(h:FnOk B k f F)(hF:∀ args σ r,F' args σ=some r→F args σ=some r):FnOk B k f F':=
 ⟨h.able,fun A ρ σ s args vals v σ' R x r e=>h.run A ρ σ s args vals v σ' R x r (hF _ _ _ e)⟩
section
variable {B:Bs}{A:Around}{ρ:List Addr}{σ:Sto}{s:Shared}{E:Value→Shared→Prop}
end
structure DefP where
 names:List (Str×NameKind)
 params:List Str
 body:List Stmt
 deriving Inhabited
noncomputable def defP (p:Program)(f:Str):DefP:=(p.main.body.findSome? fun st=>match st with
 | .FunctionDef n a b _ _ _ sc _ _ _=>if n==f then some ⟨sc.names,a.args.map (·.arg),b⟩ else none
 | _=>none).getD default
noncomputable def methP (p:Program)(f:Str):DefP:=(p.main.body.findSome? fun st=>match st with
 | .ClassDef _ _ _ b ..=>b.findSome? fun st=>match st with
  | .FunctionDef n a b _ _ _ sc _ _ _=>if n==f then some ⟨sc.names,a.args.map (·.arg),b⟩ else none
  | _=>none
 | _=>none).getD default
noncomputable def runDK (G:Gl)(n:Nat)(D:DefP):Fn:=runK G n D.names D.params D.body
noncomputable abbrev runD (G:Gl)(n:Nat)(D:DefP):Fn:=runDK G n D
theorem runDK_eq (G:Gl)(n:Nat)(D:DefP)(args:List PV)(σ:Sto):runDK G n D args σ=runD G n D args σ:=rfl
noncomputable def b1In (i:Int):Bool:=[173,847,6150,6155,6156,6157,8203,8204,8205,8288,65279,65024,65025,65026,65027,65028,65029,65030,65031,65032,65033,65034,65035,65036,65037,65038,65039].any fun k=>decide (i=k)
noncomputable def G0 (T:Int→Option Str):Gl where
 fn:=fun _=>none
 con:=fun n=>if n="ELLIPSIS_MARKER" then some (.str "...") else if n="EMPTYSTRING" then some (.str "") else none
 set:=fun n=>if n="b1_set" then some b1In else none
 tab:=fun n=>if n="b3_exceptions" then some T else none
 meth:=fun n=>if n="append" then some appendF else if n="part_count" then some partF else none
 lenA:=fun _ _=>none
 strA:=fun _ _=>none
noncomputable def Bs.at (B:Bs)(h:Heap):Bs:={ B with h₀:=h }
structure Ext (B:Bs) (h:Heap):Prop where
 keep:∀ a o,B.h₀.get? a=some o→a∉B.Tb→h.get? a=some o
 lim:h.NoLimit
theorem BsOk.at {B:Bs}(ok:BsOk B){h:Heap}(e:Ext B h):BsOk (B.at h):=⟨ok.tb,e.lim,ok.stat,ok.inv⟩
theorem Ext.trans {B:Bs}{h h':Heap}(e:Ext B h)(e':Ext (B.at h) h'):Ext B h':=⟨fun a o ho ht=>e'.keep a o (e.keep a o ho ht) ht,e'.lim⟩
noncomputable def FnAll (B:Bs)(k:Nat)(f:Value)(F:Fn):Prop:=∀ h,Ext B h→FnOk (B.at h) k f F
noncomputable def flat:PV→Bool
 | .lst _=>false
 | .tup xs=>flats xs
 | _=>true
where flats:List PV→Bool
 | []=>true
 | x::xs=>flat x&&flats xs
mutual
theorem VR.flat {B B':Bs}(ht:B'.Tb=B.Tb){ρ ρ':List Addr}{h:Heap}(hρ:∀ a vs,h.IsTuple a vs→a∉ρ'):∀ (x:PV) {v:Value},flat x=true→VR B ρ h x v→VR B' ρ' h x v
 | .none,_,_,r=>r
 | .bool _,_,_,r=>r
 | .int _,_,_,r=>r
 | .str _,_,_,r=>r
 | .tup xs,v,hf,r=>by
  obtain⟨a,vs,rfl,h1,h2,h3,h4⟩:=r
  exact⟨a,vs,rfl,hρ a vs h3,ht▸h2,h3,VRs.flat ht hρ xs hf h4⟩
 | .lst i,v,hf,r=>by cases hf
theorem VRs.flat {B B':Bs}(ht:B'.Tb=B.Tb){ρ ρ':List Addr}{h:Heap}(hρ:∀ a vs,h.IsTuple a vs→a∉ρ'):∀ (xs:List PV) {vs:List Value},flat.flats xs=true→VRs B ρ h xs vs→VRs B' ρ' h xs vs
 | [],_,_,r=>r
 | x::xs,vs,hf,r=>by
  obtain⟨v,t,rfl,h1,h2⟩:=r
  have hf':(Mine.Internal.flat x&&flat.flats xs)=true:=hf
  rw[Bool.and_eq_true] at hf'
  exact⟨v,t,rfl,VR.flat ht hρ x hf'.1 h1,VRs.flat ht hρ xs hf'.2 h2⟩
end
theorem flats_iff:∀ {xs:List PV},flat.flats xs=xs.all flat
 | []=>rfl
 | x::xs=>by
  show (flat x&&flat.flats xs)=_
  rw[flats_iff]; rfl
theorem St.noTuple {B:Bs}{ρ:List Addr}{σ:Sto}{s:Shared}(x:St B ρ σ s){a:Addr}(ha:a∈ρ){vs:Array Value}(h:s.heap.IsTuple a vs):False:=by
 obtain⟨i,hi,rfl⟩:=List.mem_iff_getElem.mp ha
 have hs:i < σ.length:=x.len▸hi
 have hc:=x.cells i σ[i] ρ[i] (List.getElem?_eq_getElem hs) (List.getElem?_eq_getElem hi)
 obtain⟨o,ho,hcl,n,hd⟩:=h
 cases hcd:σ[i].d with
 | lst xs=>
  rw[hcd] at hc
  obtain⟨us,⟨n',ho'⟩,_⟩:=hc
  rw[ho] at ho'; cases ho'; simp at hcl
 | acc k xs=>
  rw[hcd] at hc
  obtain⟨us,n',D,ho',_⟩:=hc
  rw[ho] at ho'; cases ho'; simp at hcl
 | dct kvs=>
  rw[hcd] at hc
  obtain⟨f,⟨o',es,ep,ho',_,hd',_⟩,_⟩:=hc
  rw[ho] at ho'; cases ho'; rw[hd] at hd'; cases hd'
 | ins kvs=>
  rw[hcd] at hc
  obtain⟨f,⟨o',es,ep,ho',hd',_⟩,_⟩:=hc
  rw[ho] at ho'; cases ho'; rw[hd] at hd'; cases hd'
section
variable {B:Bs}{ρ:List Addr}{σ:Sto}{s s':Shared}
theorem St.rebase (ok:BsOk B)(x:St B ρ σ s):Ext B s.heap∧St (B.at s.heap) [] [] s:=
 ⟨⟨x.base,x.noLimit ok⟩,⟨x.os,x.gens,fun a o ho _=>ho,rfl,List.nodup_nil,(fun a h=>nomatch h),(fun a h=>nomatch h),(fun i c a h=>by simp at h),x.inv⟩⟩
theorem St.unbase (ok:BsOk B)(x:St B ρ σ s){ρ':List Addr}{τ:Sto}(y:St (B.at s.heap) ρ' τ s')(e:Evo (B.at s.heap) [] [] [] s.heap ρ' τ s'.heap):
  St B ρ σ s'∧Evo B [] ρ σ s.heap ρ σ s'.heap:=by
 have keep:∀ a o,s.heap.get? a=some o→a∉B.Tb→s'.heap.get? a=some o:=fun a o ho ht=>y.base a o ho ht
 have vk:Vk B ρ s.heap ρ s'.heap:=⟨fun _ _ h=>h,fun a o vs n ho _ _ h1 h2=>⟨keep a o ho h2,h1⟩⟩
 refine⟨⟨y.os,y.gens,fun a o ho ht=>keep a o (x.base a o ho ht) ht,x.len,x.nodup,x.fresh,x.off,fun i c a hc ha=>?_,y.inv⟩,⟨⟨e.kp.live,fun a o ho _ ht _=>keep a o ho ht⟩,⟨[],by simp,by simp⟩,fun i c hc=>⟨c,hc,Nat.le_refl _,fun _=>⟨rfl,fun a ha o ho=>keep a o ho (x.off a (List.mem_of_getElem? ha))⟩⟩⟩⟩
 exact CR.vk vk c.d (fun o ho=>keep a o ho (x.off a (List.mem_of_getElem? ha))) (x.cells i c a hc ha)
end
noncomputable def pureF (F:Fn):Fn:=fun args σ=>grd (args.all flat=true) (opt (F args []) fun r=>grd (flat r.1=true) (some (r.1,σ)))
noncomputable def listF (F:Fn):Fn:=fun args σ=>grd (args.all flat=true) (opt (F args []) fun r=>onLst r.1 fun i=>opt (getL r.2 i) fun xs=>grd (xs.all flat=true) (some (.lst σ.length,σ++[⟨0,.lst xs⟩])))
theorem pureF_ok {B:Bs}(ok:BsOk B){k:Nat}{f:Value}{F:Fn}(h:FnAll B k f F):FnAll B k f (pureF F):=fun hh hx=>by
 have ok':=ok.at hx
 refine⟨(h hh hx).able,fun A ρ σ s args vals v σ' R x r e=>Ok.intro fun Q q=>?_⟩
 obtain⟨hall,e1⟩:=grd_some e
 obtain⟨⟨v',τ⟩,hF,e2⟩:=opt_some e1
 obtain⟨hv,e3⟩:=grd_some e2
 obtain⟨rfl,rfl⟩:=Prod.mk.inj (Option.some.inj e3)
 obtain⟨hE,y⟩:=x.rebase ok'
 have hr:VRs ((B.at hh).at s.heap) [] s.heap args vals:=VRs.flat (B:=B.at hh) (B':=(B.at hh).at s.heap) (ρ:=ρ) (ρ':=[]) rfl (fun _ _ _ h=>absurd h List.not_mem_nil) args (by rw[flats_iff]; exact hall) r
 refine ((h s.heap (hx.trans hE)).run A [] [] s args vals _ τ R y hr hF).use fun val ρ' s' y' e' hv'=>?_
 obtain⟨x',e''⟩:=x.unbase ok' y' e'
 exact q _ _ ρ x' e'' (VR.flat (B:=(B.at hh).at s.heap) (B':=B.at hh) (ρ:=ρ') (ρ':=ρ) rfl (fun a vs ht ha=>x'.noTuple ha ht) _ hv hv')
theorem listF_ok {B:Bs}(ok:BsOk B){k:Nat}{f:Value}{F:Fn}(h:FnAll B k f F):FnAll B k f (listF F):=fun hh hx=>by
 have ok':=ok.at hx
 refine⟨(h hh hx).able,fun A ρ σ s args vals v σ' R x r e=>Ok.intro fun Q q=>?_⟩
 obtain⟨hall,e1⟩:=grd_some e
 obtain⟨⟨v',τ⟩,hF,e2⟩:=opt_some e1
 obtain⟨i,ev,e3⟩:=onLst_some e2
 obtain rfl:v'= .lst i:=ev
 obtain⟨xs,hxs,e4⟩:=opt_some e3
 obtain⟨hfl,e5⟩:=grd_some e4
 obtain⟨rfl,rfl⟩:=Prod.mk.inj (Option.some.inj e5)
 obtain⟨hE,y⟩:=x.rebase ok'
 have hr:VRs ((B.at hh).at s.heap) [] s.heap args vals:=VRs.flat (B:=B.at hh) (B':=(B.at hh).at s.heap) (ρ:=ρ) (ρ':=[]) rfl (fun _ _ _ h=>absurd h List.not_mem_nil) args (by rw[flats_iff]; exact hall) r
 refine ((h s.heap (hx.trans hE)).run A [] [] s args vals _ τ R y hr hF).use fun val ρ' s' y' e' hv'=>?_
 obtain⟨x',e''⟩:=x.unbase ok' y' e'
 obtain⟨D,rfl,hD⟩:=hv'
 obtain⟨c,hc,hcd⟩:=getL_some hxs
 have hcell:=y'.cells i c D hc hD
 rw[hcd] at hcell
 obtain⟨vs,⟨n,ho⟩,hrs⟩:=hcell
 have hDn:s.heap.get? D=none:=by
  obtain⟨rr,hrr,hfr⟩:=e'.pre
  have:D∈ρ':=List.mem_of_getElem? hD
  rw[hrr,List.nil_append] at this
  exact hfr D this
 obtain⟨f1,f2,f3⟩:=x.dead ok' hDn
 obtain⟨x₃,e₃,i₃,v₃⟩:=x'.adopt ok' e'' (D:=D) (d:= .lst xs) hDn f1 f2 f3 ho (by simp) (fun ρ'' vk=>⟨vs,⟨n,ho⟩,VRs.vk vk _ (VRs.flat (B:=(B.at hh).at s.heap) (B':=B.at hh) (ρ:=ρ') (ρ':=ρ) rfl (fun a us ht ha=>x'.noTuple ha ht) xs (by rw[flats_iff]; exact hfl) hrs)⟩)
 exact q _ _ _ x₃ e₃ ⟨D,rfl,i₃⟩
theorem mapOf_ents {prog:Program}{w:World}{h:Heap}{d:Addr}{o:Obj}{es:Array DictEntry}{ep:Nat}{ps:List (Int×Str)}(ho:h.get? d=some o)(hx:o.ExactDict)(hd:o.data= .dict es ep)(he:Paired isEnt ps es.toList):
  ∃ f,h.MapOf (intKind prog w) d f∧∀ i:Int,match ps.lookup i with
   | some x=>∃ t,f i=some (.str x t)
   | none=>f i=none:=by
 refine⟨fun k=>findBy (intKind prog w).is es k,⟨o,es,ep,ho,hx,hd,fun e hm=>?_,fun k=>rfl⟩,fun i=>?_⟩
 ·obtain⟨k,t,hk,hh⟩:=ents_keys he e (by simpa using hm)
  exact⟨k,by rw[hk]; exact intKind_is prog w k t,hh⟩
 ·have hf:findBy (intKind prog w).is es i=(es.toList.find? fun e=>(intKind prog w).is i e.key).map (·.val):=by
   unfold findBy; rw[← Array.find?_toList]
  show match ps.lookup i with
   | some x=>∃ t,findBy (intKind prog w).is es i=some (.str x t)
   | none=>findBy (intKind prog w).is es i=none
  rw[hf]
  generalize es.toList=l at he
  induction he with
  | nil=>rfl
  | @cons p e ps' l' hp _ ih=>
   obtain⟨t,u,rfl⟩:=hp
   obtain⟨pi,px⟩:=p
   rw[List.lookup_cons,List.find?_cons]
   have hk:(intKind prog w).is i (.int pi t)=(i==pi):=by
    show Value.isInt i (.int pi t)=_
    show (pi==i)=(i==pi)
    exact BEq.comm
   dsimp only
   rw[hk]
   cases hi:i==pi with
   | true=>exact⟨u,rfl⟩
   | false=>exact ih
structure FR where
 name:Str
 qual:Str
 args:Arguments
 body:List Stmt
 scope:Scope
noncomputable def FR.d (R:FR):DefP:=⟨R.scope.names,R.args.args.map (·.arg),R.body⟩
noncomputable def noR:FR:=⟨"","",⟨[],[],none,[],[],none,[]⟩,[],default⟩
noncomputable def topR (p:Program)(f:Str):FR:=(p.main.body.findSome? fun st=>match st with
 | .FunctionDef n a b _ _ _ sc _ _ _=>if n==f then some ⟨f,f,a,b,sc⟩ else none
 | _=>none).getD noR
noncomputable def methR (p:Program)(f q:Str):FR:=(p.main.body.findSome? fun st=>match st with
 | .ClassDef _ _ _ b ..=>b.findSome? fun st=>match st with
  | .FunctionDef n a b _ _ _ sc _ _ _=>if n==f then some ⟨f,q,a,b,sc⟩ else none
  | _=>none
 | _=>none).getD noR
noncomputable def onFunc {β:Type}(d:Data)(f:FuncData→Option β):Option β:=match d with
 | .func fd=>f fd
 | _=>none
theorem onFunc_some {β:Type}{r:β}{d:Data}{f:FuncData→Option β}(h:onFunc d f=some r):∃ fd,d= .func fd∧f fd=some r:=by
 cases d with
 | func fd=>exact⟨fd,rfl,h⟩
 | _=>exact nos h
noncomputable def onFields {β:Type}(d:Data)(f:Array Value→Option β):Option β:=match d with
 | .fields vs=>f vs
 | _=>none
theorem onFields_some {β:Type}{r:β}{d:Data}{f:Array Value→Option β}(h:onFields d f=some r):∃ vs,d= .fields vs∧f vs=some r:=by
 cases d with
 | fields vs=>exact⟨vs,rfl,h⟩
 | _=>exact nos h
noncomputable def fnV (o:Option Obj):Option (Str×Str×Arguments×FuncBody×Scope×Addr×List (Str×Addr)×Value×Value×Value×Addr):=opt o fun ob=>onFunc ob.data fun fd=>some (fd.name,fd.qualname,fd.params,fd.body,fd.scope,fd.globals,fd.closure,fd.defaults,fd.kwdefaults,fd.code,fd.builtins)
noncomputable def fnE (R:FR)(clo:List (Str×Addr))(dflt:Value)(code:Nat):Option (Str×Str×Arguments×FuncBody×Scope×Addr×List (Str×Addr)×Value×Value×Value×Addr):=
 some (R.name,R.qual,R.args,.stmts R.body,R.scope,mainNs,clo,dflt,.none,.ref code,builtinsNs)
noncomputable def codeV (o:Option Obj):Option (Str×Str):=opt o fun ob=>onFields ob.data fun vs=>opt vs[1]? fun a=>onStrV a fun x=>opt vs[2]? fun b=>onStrV b fun y=>some (x,y)
structure FnAt (kk:Nat→Option Obj) (a:Nat) (R:FR) (clo:List (Str×Addr)) (dflt:Value) (file:Str):Prop where
 fn:fnV (kk a)=fnE R clo dflt (a - 1)
 code:codeV (kk (a - 1))=some (R.qual,file)
structure FnIs (fd:FuncData) (R:FR) (clo:List (Str×Addr)) (dflt:Value) (a:Nat):Prop where
 name:fd.name=R.name
 qual:fd.qualname=R.qual
 args:fd.params=R.args
 body:fd.body= .stmts R.body
 scope:fd.scope=R.scope
 glob:fd.globals=mainNs
 clo:fd.closure=clo
 dflt:fd.defaults=dflt
 kw:fd.kwdefaults= .none
 code:fd.code= .ref a
 bt:fd.builtins=builtinsNs
theorem pairA {α β:Type}{a c:α}{b d:β}{P:Prop}(q:b=d→P)(h:(a,b)=(c,d)):a=c∧P:=⟨congrArg Prod.fst h,q (congrArg Prod.snd h)⟩
theorem FnAt.get {kk:Nat→Option Obj}{a:Nat}{R:FR}{clo:List (Str×Addr)}{dflt:Value}{file:Str}(x:FnAt kk a R clo dflt file):
  ∃ o fd,kk a=some o∧o.data= .func fd∧FnIs fd R clo dflt (a - 1):=by
 obtain⟨o,ho,h⟩:=opt_some (show opt _ _=some _ from x.fn)
 obtain⟨fd,hd,h⟩:=onFunc_some h
 have c:=(pairA (pairA (pairA (pairA (pairA (pairA (pairA (pairA (pairA (pairA id)))))))))) (Option.some.inj h)
 exact⟨o,fd,ho,hd,c.1,c.2.1,c.2.2.1,c.2.2.2.1,c.2.2.2.2.1,c.2.2.2.2.2.1,c.2.2.2.2.2.2.1,c.2.2.2.2.2.2.2.1,c.2.2.2.2.2.2.2.2.1,c.2.2.2.2.2.2.2.2.2.1,c.2.2.2.2.2.2.2.2.2.2⟩
theorem FnAt.getCode {kk:Nat→Option Obj}{a:Nat}{R:FR}{clo:List (Str×Addr)}{dflt:Value}{file:Str}(x:FnAt kk a R clo dflt file):
  ∃ o vs t u,kk (a - 1)=some o∧o.data= .fields vs∧vs[1]?=some (.str R.qual t)∧vs[2]?=some (.str file u):=by
 obtain⟨o,ho,h⟩:=opt_some x.code
 obtain⟨vs,hd,h⟩:=onFields_some h
 obtain⟨v1,h1,h⟩:=opt_some h
 obtain⟨y,t,e1,h⟩:=onStrV_some h
 obtain⟨v2,h2,h⟩:=opt_some h
 obtain⟨z,u,e2,h⟩:=onStrV_some h
 obtain⟨e3,e4⟩:=Prod.mk.inj (Option.some.inj h)
 exact⟨o,vs,t,u,ho,hd,by rw[h1,e1,e3],by rw[h2,e2,e4]⟩
noncomputable def Has (kk:Nat→Option Obj)(B:Bs):Prop:=∀ a o,kk a=some o→a∉B.Tb→B.h₀.get? a=some o
theorem Has.at {kk:Nat→Option Obj}{B:Bs}(H:Has kk B){h:Heap}(e:Ext B h):Has kk (B.at h):=fun a o ho ht=>e.keep a o (H a o ho ht) ht
theorem kind_of {k:ScopeKind}(h:(k== .function)=true):k= .function:=by cases k <;> first | rfl | cases h
noncomputable def frOk (R:FR):Bool:=R.scope.kind== .function&&!R.scope.isGenerator&&!R.scope.isCoroutine&&decide (R.d.params.Nodup)&&R.d.params.all fun p=>R.scope.names.lookup p==some .local || R.scope.names.lookup p==some .cell
noncomputable def Binds (R:FR):Prop:=∀ fd:FuncData,fd.params=R.args→fd.defaults= .none→∀ vals:List Value,vals.length=R.d.params.length→bindArgs fd ⟨vals,[]⟩=pure (R.d.params.zip vals)
theorem FnAt.defAt {kk:Nat→Option Obj}{B:Bs}{a:Nat}{R:FR}{file:Str}(x:FnAt kk a R [] .none file)(H:Has kk B)(ha:a∉B.Tb)(hc:a - 1∉B.Tb)(ok:frOk R=true)(b:Binds R):
  ∃ fd,DefAt B a fd R.d.names R.d.params R.d.body:=by
 obtain⟨o,fd,ho,hd,I⟩:=x.get
 obtain⟨oc,vs,t,u,hoc,hdc,hv1,hv2⟩:=x.getCode
 unfold frOk at ok
 simp only[Bool.and_eq_true,Bool.not_eq_true',decide_eq_true_eq,List.all_eq_true,Bool.or_eq_true] at ok
 obtain⟨⟨⟨⟨k1,k2⟩,k3⟩,k4⟩,k5⟩:=ok
 exact⟨fd,{
  obj:=⟨o,H a o ho ha,hd⟩
  tb:=ha
  code:=⟨a - 1,oc,vs,t,I.code,hc,H _ oc hoc hc,hdc,by rw[I.qual]; exact hv1⟩
  body:=I.body
  clo:=I.clo
  nms:=by rw[I.scope]; rfl
  kind:=by rw[I.scope]; exact kind_of k1
  gen:=by rw[I.scope]; exact k2
  co:=by rw[I.scope]; exact k3
  glob:=I.glob
  bt:=I.bt
  bind:=b fd I.args I.dflt
  nodup:=k4
  pk:=fun p hp=>by
   rcases k5 p hp with h | h
   ·exact .inl (show R.scope.names.lookup p=_ by simpa using h)
   ·exact .inr (show R.scope.names.lookup p=_ by simpa using h) }⟩
noncomputable def methOk (R:FR):Bool:=R.scope.kind== .function&&!R.scope.isGenerator&&!R.scope.isCoroutine&&decide (R.d.params.Nodup)&&(R.d.params.all fun p=>R.scope.names.lookup p==some .local)&&R.scope.names.all fun y=>y.2 != .cell
theorem FnAt.meth {kk:Nat→Option Obj}{B:Bs}{a:Nat}{R:FR}{clo:List (Str×Addr)}{dflt:Value}{file:Str}(x:FnAt kk a R clo dflt file)(H:Has kk B)(ha:a∉B.Tb)(hc:a - 1∉B.Tb)(ok:methOk R=true)
  (hcell:∀ x c,clo.lookup x=some c→c∉B.Tb∧∃ o w,B.h₀.get? c=some o∧o.data= .cell w) (hap:∀ x y c,clo.lookup x=some c→clo.lookup y=some c→x=y):
  ∃ fd,MethDef B a fd R.d.names R.d.params R.d.body clo∧fd.params=R.args∧fd.defaults=dflt∧fd.code= .ref (a - 1):=by
 obtain⟨o,fd,ho,hd,I⟩:=x.get
 obtain⟨oc,vs,t,u,hoc,hdc,hv1,hv2⟩:=x.getCode
 unfold methOk at ok
 simp only[Bool.and_eq_true,Bool.not_eq_true',decide_eq_true_eq,List.all_eq_true] at ok
 obtain⟨⟨⟨⟨⟨k1,k2⟩,k3⟩,k4⟩,k5⟩,k6⟩:=ok
 exact⟨fd,{
  obj:=⟨o,H a o ho ha,hd⟩
  tb:=ha
  code:=⟨a - 1,oc,vs,t,I.code,hc,H _ oc hoc hc,hdc,by rw[I.qual]; exact hv1⟩
  body:=I.body
  closure:=I.clo
  cell:=hcell
  apart:=hap
  nms:=by rw[I.scope]; rfl
  nocell:=fun y hy=>by simpa using k6 y hy
  kind:=by rw[I.scope]; exact kind_of k1
  gen:=by rw[I.scope]; exact k2
  co:=by rw[I.scope]; exact k3
  glob:=I.glob
  bt:=I.bt
  nodup:=k4
  pk:=fun p hp=>show R.scope.names.lookup p=_ by simpa using k5 p hp },I.args,I.dflt,I.code⟩
noncomputable def supOkB (R:FR):Bool:=methOk R&&(optB (R.args.posonlyargs++R.args.args).head? false fun ar=>ar.arg=="self")&&
 R.scope.names.lookup ("super":Str)==some .globalImplicit&&R.scope.names.lookup ("__class__":Str)==some .free&&R.scope.names.lookup ("self":Str)==some .local
theorem FnAt.sup {kk:Nat→Option Obj}{B:Bs}{a cc:Nat}{R:FR}{dflt:Value}{file:Str}(x:FnAt kk a R [(PySem.Str.ofString "__class__",cc)] dflt file)(H:Has kk B)(ha:a∉B.Tb)(hc:a - 1∉B.Tb)(ok:supOkB R=true)
  (hcc:cc∉B.Tb) (hcell:∃ o w,B.h₀.get? cc=some o∧o.data= .cell w) (hfile:((B.prog.main.file:Str)==file)=true):
  ∃ fd,SupDef B a fd R.d.names R.d.params R.d.body cc∧fd.params=R.args∧fd.defaults=dflt∧fd.code= .ref (a - 1):=by
 unfold supOkB at ok
 simp only[Bool.and_eq_true] at ok
 obtain⟨⟨⟨⟨k1,k2⟩,k3⟩,k4⟩,k5⟩:=ok
 have hl:∀ x c,([(PySem.Str.ofString "__class__",cc)]:List (Str×Addr)).lookup x=some c→x=PySem.Str.ofString "__class__"∧c=cc:=fun x c h=>by
  rw[List.lookup_cons] at h
  cases hx:x==PySem.Str.ofString "__class__" with
  | true=>rw[hx] at h; cases h; exact⟨by simpa using hx,rfl⟩
  | false=>rw[hx] at h; cases h
 obtain⟨fd,D,e1,e2,e3⟩:=x.meth H ha hc k1 (fun x c h=>by obtain⟨_,rfl⟩:=hl x c h; exact⟨hcc,hcell⟩) (fun x y c h1 h2=>(hl x c h1).1.trans (hl y c h2).1.symm)
 obtain⟨oc,vs,t,u,hoc,hdc,hv1,hv2⟩:=x.getCode
 refine⟨fd,⟨D,⟨a - 1,oc,vs,file,u,e3,hc,H _ oc hoc hc,hdc,hv2,hfile⟩,?_,show R.scope.names.lookup _=_ by simpa using k3,show R.scope.names.lookup _=_ by simpa using k4,show R.scope.names.lookup _=_ by simpa using k5⟩,e1,e2,e3⟩
 rw[e1]
 obtain⟨ar,har,k2⟩:=optB_t k2
 exact⟨ar,har,by simpa using k2⟩
noncomputable def stAt (D:DefP)(i:Nat):Stmt:=match D.body[i]? with
 | some st=>st
 | none=> .Pass default
noncomputable def forT:Stmt→Expr
 | .For t _ _ _ _=>t
 | _=> .Name "" default
noncomputable def forB:Stmt→List Stmt
 | .For _ _ b _ _=>b
 | _=>[]
noncomputable def forI:Stmt→Expr
 | .For _ i _ _ _=>i
 | _=> .Name "" default
noncomputable def ForIs (st:Stmt):Prop:=∀ (β:Type) (G:Gl) (n:Nat) (cx:Cx) (σ:Sto) (k:Fl→Cx→Sto→Option β),exK G (n+1) cx σ st k=evItK G n cx σ (forI st) fun items w σ₁=>exForK G n cx σ₁ (forT st) (forB st) w items k
section
variable {β:Type}{G:Gl}
noncomputable def turnK (G:Gl)(n:Nat)(cx:Cx)(v:PV)(σ:Sto)(st:Stmt)(k:Fl→Cx→Sto→Option β):Option β:=opt (bindT cx (forT st) v) fun cx=>exsK G n cx σ (forB st) k
theorem exsK_cons (n:Nat)(cx:Cx)(σ:Sto)(st:Stmt)(rest:List Stmt)(k:Fl→Cx→Sto→Option β):exsK G (n+1) cx σ (st::rest) k=exK G n cx σ st fun fl cx' σ₁=>match fl with
   | .nxt=>exsK G n cx' σ₁ rest k
   | .brk=>k .brk cx' σ₁
   | .ret v=>k (.ret v) cx' σ₁:=rfl
theorem exForK_nil (n:Nat)(cx:Cx)(σ:Sto)(t:Expr)(b:List Stmt)(w:Option (Nat×Nat))(k:Fl→Cx→Sto→Option β)(hw:watch σ w=true):exForK G (n+1) cx σ t b w [] k=k .nxt cx σ:=by
 show onB (watch σ w) _ none=_
 rw[hw]
 rfl
theorem exForK_cons (n:Nat)(cx:Cx)(σ:Sto)(st:Stmt)(w:Option (Nat×Nat))(v:PV)(rest:List PV)(k:Fl→Cx→Sto→Option β)(hw:watch σ w=true):
  exForK G (n+1) cx σ (forT st) (forB st) w (v::rest) k=turnK G n cx v σ st fun fl cx'' σ₁=>match fl with
     | .nxt=>exForK G n cx'' σ₁ (forT st) (forB st) w rest k
     | .brk=>k .nxt cx'' σ₁
     | .ret r=>k (.ret r) cx'' σ₁:=by
 show onB (watch σ w) _ none=_
 rw[hw]
 rfl
end
noncomputable def retE:Stmt→Expr
 | .Return (some e) _=>e
 | _=> .Name "" default
noncomputable def RetIs (st:Stmt):Prop:=∀ (β:Type) (G:Gl) (n:Nat) (cx:Cx) (σ:Sto) (k:Fl→Cx→Sto→Option β),exK G (n+1) cx σ st k=evK G n cx σ (retE st) fun r σ'=>k (.ret r) cx σ'
section
variable {β:Type}{G:Gl}{n:Nat}{cx cx':Cx}{σ σ₁ σ':Sto}{st:Stmt}{rest:List Stmt}{fl:Fl}
theorem seqN {k:Fl→Cx→Sto→Option β}{r:Option β}(h1:∀ k:Fl→Cx→Sto→Option β,exK G n cx σ st k=k .nxt cx' σ')(h2:exsK G n cx' σ' rest k=r):exsK G (n+1) cx σ (st::rest) k=r:=(exsK_cons ..).trans ((h1 _).trans h2)
theorem seqR {k:Fl→Cx→Sto→Option β}{r:Option β}{v:PV}(h1:∀ k:Fl→Cx→Sto→Option β,exK G n cx σ st k=k (.ret v) cx' σ')(h2:k (.ret v) cx' σ'=r):exsK G (n+1) cx σ (st::rest) k=r:=(exsK_cons ..).trans ((h1 _).trans h2)
theorem retN (h:RetIs st){x:PV}(he:∀ K:PV→Sto→Option β,evK G n cx σ (retE st) K=K x σ')(k:Fl→Cx→Sto→Option β):exK G (n+1) cx σ st k=k (.ret x) cx σ':=(h ..).trans (he _)
theorem forN (h:ForIs st){items:List PV}{w:Option (Nat×Nat)}(hi:∀ K:List PV→Option (Nat×Nat)→Sto→Option β,evItK G n cx σ (forI st) K=K items w σ₁)
  (hl:∀ k:Fl→Cx→Sto→Option β,exForK G n cx σ₁ (forT st) (forB st) w items k=k fl cx' σ') (k:Fl→Cx→Sto→Option β):exK G (n+1) cx σ st k=k fl cx' σ':=(h ..).trans ((hi _).trans (hl k))
theorem turnN {v:PV}{cx₁:Cx}(hb:bindT cx (forT st) v=some cx₁)(h:∀ k:Fl→Cx→Sto→Option β,exsK G n cx₁ σ (forB st) k=k fl cx' σ')(k:Fl→Cx→Sto→Option β):turnK G n cx v σ st k=k fl cx' σ':=
 (congrArg (fun o=>opt o fun cx=>exsK G n cx σ (forB st) k) hb).trans (h k)
theorem loopN {w:Option (Nat×Nat)}{v:PV}{items:List PV}{k:Fl→Cx→Sto→Option β}{r:Option β}(hw:watch σ w=true)(h1:∀ k:Fl→Cx→Sto→Option β,turnK G n cx v σ st k=k .nxt cx' σ')
  (h2:exForK G n cx' σ' (forT st) (forB st) w items k=r):exForK G (n+1) cx σ (forT st) (forB st) w (v::items) k=r:=(exForK_cons _ _ _ _ _ _ _ _ hw).trans ((h1 _).trans h2)
end
theorem fmod_nat (m d:Nat):Int.fmod (m:Int) (d:Int)=((m % d:Nat):Int):=by
 rw[Int.fmod_eq_emod_of_nonneg _ (by lia)]; rfl
theorem fdiv_nat (m d:Nat):Int.fdiv (m:Int) (d:Int)=((m / d:Nat):Int):=by
 rw[Int.fdiv_eq_ediv_of_nonneg _ (by lia)]; rfl
noncomputable def endK:Fl→Cx→Sto→Option (PV×Sto):=fun fl _ σ'=>match fl with
 | .ret v=>some (v,σ')
 | .nxt=>some (.none,σ')
 | .brk=>none
theorem runDK_at {G:Gl}{n:Nat}{D:DefP}{args:List PV}{σ:Sto}{ps:List Str}{le:LE}(hp:D.params=ps)(hl:args.length=ps.length)(hz:ps.zip args=le):runDK G n D args σ=exsK G n ⟨D.names,le⟩ σ D.body endK:=by
 unfold runDK runK grd
 rw[hp,if_pos hl,hz]
 rfl
noncomputable def bse (ws:PV)(want got:Str):LE:=[("ws",ws),("want",.str want),("got",.str got)]
noncomputable def elS (p:Int)(v:PV)(e:Int)(B:LE):LE:=("startpos",.int p)::("w",v)::("endpos",.int e)::B
noncomputable def elA (p:Int)(v:PV)(e:Int)(B:LE):LE:=("endpos",.int e)::("w",v)::("startpos",.int p)::B
noncomputable def elB (p:Int)(v:PV)(e:Int)(B:LE):LE:=("w",v)::("startpos",.int p)::("endpos",.int e)::B
noncomputable def elC (p:Int)(v:PV)(e:Int)(B:LE):LE:=("w",v)::("endpos",.int e)::("startpos",.int p)::B
noncomputable def elZ (e:Int)(B:LE):LE:=("endpos",.int e)::("startpos",.int 0)::B
noncomputable def elTurn {β:Type}(names:List (Str×NameKind))(p:Int)(w:Str)(e:Int)(ws:PV)(want got:Str)(σ:Sto)(k:Fl→Cx→Sto→Option β):Option β:=
 grd (0≤p∧0≤e∧e≤got.length) (match decide (find4 got w p e < 0) with
  | true=>k (.ret (.bool false)) ⟨names,elS (find4 got w p e) (.str w) e (bse ws want got)⟩ σ
  | false=>grd (w.length≤100000) (k .nxt ⟨names,elS (find4 got w p e+w.length) (.str w) e (bse ws want got)⟩ σ))
noncomputable def elFirst {β:Type}(names:List (Str×NameKind))(a:Str)(e:Int)(want got:Str)(L:List PV)(k:Bool→Cx→Sto→Option β)(no:Option β):Option β:=
 grd (a.length≤1000000) (match ((a.length:Int) !=0) with
  | true=>match Txt.startswith got a with
   | true=>grd (a.length≤100000) (grd (¬ 10000 < L.length) (match seqIndex? 0 L.length with
    | some p=>k true ⟨names,("startpos",.int a.length)::("w",.str a)::("endpos",.int e)::bse (.lst 0) want got⟩ [⟨1,.lst (L.eraseIdx p)⟩]
    | none=>none))
   | false=>no
  | false=>k false ⟨names,elC 0 (.str a) e (bse (.lst 0) want got)⟩ [⟨0,.lst L⟩])
noncomputable def elLast {β:Type}(names:List (Str×NameKind))(b:Str)(p e:Int)(B:LE)(v:Nat)(got:Str)(L:List PV)(c:LE)(k:Cx→Sto→Option β)(no:Option β):Option β:=
 grd (b.length≤1000000) (match ((b.length:Int) !=0) with
  | true=>match Txt.endswith got b with
   | true=>grd (b.length≤100000) (grd (¬ 10000 < L.length) (match seqIndex? (-1) L.length with
    | some j=>k ⟨names,elA p (.str b) (e - b.length) B⟩ [⟨v+1,.lst (L.eraseIdx j)⟩]
    | none=>none))
   | false=>no
  | false=>k ⟨names,c⟩ [⟨v,.lst L⟩])
noncomputable def three {α β:Type}(l:List α)(f:α→α→α→Option β):Option β:=match l with
 | [a,b,c]=>f a b c
 | _=>none
theorem three_some {α β:Type}{r:β}{l:List α}{f:α→α→α→Option β}(h:three l f=some r):∃ a b c,l=[a,b,c]∧f a b c=some r:=by
 match l with
 | []=>exact nos h
 | [a]=>exact nos h
 | [a,b]=>exact nos h
 | [a,b,c]=>exact⟨a,b,c,rfl,h⟩
 | _::_::_::_::_=>exact nos h
noncomputable def chrOf {β:Type}(args:List PV)(f:Nat→Option β):Option β:=one args fun v=>onStr v fun s=>one s.cps.toList f
theorem chrOf_some {β:Type}{r:β}{args:List PV}{f:Nat→Option β}(h:chrOf args f=some r):∃ c,args=[.str ⟨#[c]⟩]∧f c=some r:=by
 obtain⟨v,e,h1⟩:=one_some h
 obtain⟨s,e1,h2⟩:=onStr_some h1
 obtain⟨c,hc,h3⟩:=one_some h2
 obtain⟨⟨l⟩⟩:=s
 have hl:l=[c]:=hc
 subst e e1 hl
 exact⟨c,rfl,h3⟩
noncomputable def b1F:Fn:=fun args σ=>chrOf args fun c=>some (.bool (b1In (c:Int)),σ)
noncomputable def lowOk (s:Str):Option Str:=if (Txt.lower s).length≤100000 then some (Txt.lower s) else none
noncomputable def mapT (T:Int→Option Str)(c:Nat):Option Str:=match T (c:Int) with
 | some x=>some x
 | none=>lowOk ⟨#[c]⟩
noncomputable def b3F (T:Int→Option Str):Fn:=fun args σ=>chrOf args fun c=>opt (mapT T c) fun x=>some (.str x,σ)
noncomputable def pushF:Fn:=fun args σ=>three args fun v a b=>onLst v fun i=>grd (accOk σ (.lst i)=true) (opt σ[i]? fun c=>accD c.d fun di xs=>grd (xs.length≤10000) (some (.none,setCell σ i (.acc di (xs++[.tup [a,b]])))))
noncomputable def G1 (T:Int→Option Str)(E:Fn)(P:Fn):Gl where
 fn:=fun n=>if n="in_table_b1" then some b1F else if n="map_table_b3" then some (b3F T) else if n="_ellipsis_match" then some E else if n="_Accumulator" then some ctorF0 else none
 con:=fun n=>if n="ELLIPSIS_MARKER" then some (.str "...") else if n="EMPTYSTRING" then some (.str "") else none
 meth:=fun n=>if n="push" then some pushF else if n="pop" then some popF else if n="part_count" then some partF else if n="pop_from" then some P else none
 lenA:=fun _ _=>none
 strA:=fun _ _=>none
noncomputable def Le (F' F:Fn):Prop:=∀ args σ r,F' args σ=some r→F args σ=some r
noncomputable def noF:Fn:=fun _ _=>none
noncomputable def G2 (T:Int→Option Str)(E:Fn)(P:Fn)(own:Str→Option Fn):Gl:={ G1 T E P with fn:=fun n=>(own n).or ((G1 T E P).fn n) }
theorem and_t {a b:Bool}(h:(a&&b)=true):a=true∧b=true:=(Bool.and_eq_true a b).mp h
noncomputable def strV (v:Option Value):Option Str:=opt v fun v=>onStrV v some
theorem strV_some {v:Option Value}{x:Str}(h:strV v=some x):∃ t,v=some (.str x t):=by
 obtain⟨w,rfl,h⟩:=opt_some h
 obtain⟨y,t,rfl,h⟩:=onStrV_some h
 exact⟨t,congrArg (fun y=>some (Value.str y t)) (Option.some.inj h)⟩
noncomputable def nsOkB (o:Option Obj):Bool:=optB o false fun ob=>onDict ob.data false fun es=>es.toList.all fun e=>strB e.key fun _=>true
theorem ns_of {h:Heap}{a:Addr}{o:Obj}(ho:h.get? a=some o)(hb:nsOkB (some o)=true):h.Ns a (glob (some o)):=by
 obtain⟨es,ep,hd,hb⟩:=onDict_t hb
 refine⟨o,es,ep,ho,hd,fun e he=>(strB_t (List.all_eq_true.mp hb e (Array.mem_toList_iff.mpr he))).imp fun x h=>h.imp fun t h=>h.1,fun name=>?_⟩
 unfold nsFind findBy
 show _=onDict o.data none _
 rw[hd]
 rfl
noncomputable def onCell {β:Type}(d:Data)(f:Option Value→Option β):Option β:=match d with
 | .cell v=>f v
 | _=>none
theorem onCell_some {β:Type}{r:β}{d:Data}{f:Option Value→Option β}(h:onCell d f=some r):∃ v,d= .cell v∧f v=some r:=by
 cases d with
 | cell v=>exact⟨v,rfl,h⟩
 | _=>exact nos h
noncomputable def cellV (o:Option Obj):Option Value:=opt o fun ob=>onCell ob.data id
theorem cellV_some {o:Option Obj}{v:Value}(h:cellV o=some v):∃ ob,o=some ob∧ob.data= .cell (some v):=by
 obtain⟨ob,rfl,h⟩:=opt_some h
 obtain⟨w,hd,h⟩:=onCell_some h
 exact⟨ob,rfl,by rw[hd]; exact congrArg Data.cell h⟩
noncomputable def onIntV {β:Type}(v:Value)(f:Int→Option β):Option β:=match v with
 | .int i _=>f i
 | _=>none
theorem onIntV_some {β:Type}{r:β}{v:Value}{f:Int→Option β}(h:onIntV v f=some r):∃ i t,v= .int i t∧f i=some r:=by
 cases v with
 | int i t=>exact⟨i,t,rfl,h⟩
 | _=>exact nos h
noncomputable def intV (v:Value):Option Int:=onIntV v some
theorem intV_some {v:Value}{i:Int}(h:intV v=some i):∃ t,v= .int i t:=by
 obtain⟨j,t,rfl,h⟩:=onIntV_some h
 exact⟨t,congrArg (fun j=>Value.int j t) (Option.some.inj h)⟩
noncomputable def intB (v:Value)(f:Int→Bool):Bool:=optB (intV v) false f
theorem intB_t {v:Value}{f:Int→Bool}(h:intB v f=true):∃ i t,v= .int i t∧f i=true:=by
 obtain⟨i,e,h⟩:=optB_t h
 obtain⟨t,e⟩:=intV_some e
 exact⟨i,t,e,h⟩
noncomputable def boolB (v:Value):Bool:=match v with
 | .bool _=>true
 | _=>false
theorem boolB_t {v:Value}(h:boolB v=true):∃ b,v= .bool b:=by
 cases v with
 | bool b=>exact⟨b,rfl⟩
 | _=>exact Bool.noConfusion h
noncomputable def b1L:List Int:=[173,847,6150,6155,6156,6157,8203,8204,8205,8288,65279,65024,65025,65026,65027,65028,65029,65030,65031,65032,65033,65034,65035,65036,65037,65038,65039]
theorem b1In_iff (i:Int):b1In i=true↔i∈b1L:=by
 show b1L.any (fun k=>decide (i=k))=true↔_
 simp[List.any_eq_true]
noncomputable def setB (d:Data)(f:Array (Int×Value)→SetTable→Bool):Bool:=match d with
 | .set es _ t=>f es t
 | _=>false
theorem setB_t {d:Data}{f:Array (Int×Value)→SetTable→Bool}(h:setB d f=true):∃ es ep t,d= .set es ep t∧f es t=true:=by
 cases d with
 | set es ep t=>exact⟨es,ep,t,rfl,h⟩
 | _=>exact Bool.noConfusion h
noncomputable def setOkB (o:Option Obj):Bool:=optB o false fun ob=>ob.cls== .type "set"&&(ob.dict.isNone&&(ob.slots.size==0&&setB ob.data fun es t=>
 (es.toList.all fun e=>intB e.2 fun i=>b1L.contains i&&(e.1==hashInt i&&e.2.scannable))&&((b1L.all fun i=>es.toList.any fun e=>intB e.2 fun j=>j==i)&&(decide (es.size < scanBound)&&t.fits es.size))))
theorem setOf_of {prog:Program}{w:World}{h:Heap}{a:Addr}{o:Obj}(ho:h.get? a=some o)(hb:setOkB (some o)=true):∃ n,h.SetOf (intKind prog w) a b1In n:=by
 obtain⟨h1,hb⟩:=and_t hb
 obtain⟨h2,hb⟩:=and_t hb
 obtain⟨h3,hb⟩:=and_t hb
 obtain⟨es,ep,t,hd,hb⟩:=setB_t hb
 obtain⟨k1,hb⟩:=and_t hb
 obtain⟨k2,hb⟩:=and_t hb
 obtain⟨k3,k4⟩:=and_t hb
 refine⟨es.size,o,es,ep,t,ho,⟨eq_of_beq h1,Option.isNone_iff_eq_none.mp h2,Array.eq_empty_of_size_eq_zero (eq_of_beq h3)⟩,hd,fun e he=>?_,fun k=>?_,of_decide_eq_true k3,k4,rfl⟩
 ·obtain⟨i,u,hi,q⟩:=intB_t (List.all_eq_true.mp k1 e he)
  obtain⟨_,q⟩:=and_t q
  obtain⟨q2,q3⟩:=and_t q
  exact⟨⟨i,by rw[hi]; exact beq_self_eq_true i,eq_of_beq q2⟩,q3⟩
 ·rw[b1In_iff]
  constructor
  ·intro hk
   obtain⟨e,he,hq⟩:=List.any_eq_true.mp (List.all_eq_true.mp k2 k hk)
   obtain⟨j,u,hj,q⟩:=intB_t hq
   exact⟨e,he,by rw[hj,eq_of_beq q]; exact beq_self_eq_true k⟩
  ·rintro ⟨e,he,hq⟩
   obtain⟨i,u,hi,q⟩:=intB_t (List.all_eq_true.mp k1 e he)
   rw[hi] at hq
   rw[show k=i from (eq_of_beq (show (i==k)=true from hq)).symm]
   exact List.contains_iff_mem.mp (and_t q).1
noncomputable def fldB (d:Data)(f:Array Value→Bool):Bool:=optB (onFields d some) false f
theorem fldB_t {d:Data}{f:Array Value→Bool}(h:fldB d f=true):∃ vs,d= .fields vs∧f vs=true:=by
 obtain⟨x,e,h⟩:=optB_t h
 obtain⟨vs,e,e'⟩:=onFields_some e
 exact⟨vs,e,(Option.some.inj e').symm▸h⟩
noncomputable def codeOkB (oc ot:Option Obj)(P:Nat):Bool:=optB oc false fun o=>o.cls== .type "code"&&fldB o.data fun vs=>
 vs[11]?==some (.ref P)&&((strB (vs.getD 18 .none) fun _=>true)&&((intB (vs.getD 7 .none) fun _=>true)&&(boolB (vs.getD 9 .none)&&intB (vs.getD 10 .none) fun _=>true)))
theorem codeOk_of {h:Heap}{c P:Addr}{oc:Obj}(hc:h.get? c=some oc)(hP:h.get? P=some { cls:= .none,data:= .fields #[] })(hb:codeOkB (some oc) none P=true)(hne:c≠P):∃ ps,h.IsCode c P ps∧h.TableAt c P ps:=by
 obtain⟨h1,hb⟩:=and_t hb
 obtain⟨vs,hd,hb⟩:=fldB_t hb
 obtain⟨k1,hb⟩:=and_t hb
 obtain⟨k2,hb⟩:=and_t hb
 obtain⟨k3,hb⟩:=and_t hb
 obtain⟨k4,k5⟩:=and_t hb
 have e11:vs[11]?=some (.ref P):=by simpa using k1
 have g11:vs.getD 11 .none= .ref P:=by rw[Array.getD_eq_getD_getElem?,e11]; rfl
 obtain⟨file,tf,hf,_⟩:=strB_t k2
 obtain⟨fl,tg,hfl,_⟩:=intB_t k3
 obtain⟨inF,hin⟩:=boolB_t k4
 obtain⟨text,tt,htx,_⟩:=intB_t k5
 exact⟨#[],⟨oc,vs,file,tf,fl,tg,inF,text,tt,_,hc,hd,g11,hf,hfl,hin,htx,hP,rfl,trivial,hne⟩,⟨oc,vs,hc,by simpa using h1,hd,e11⟩,hP⟩
noncomputable def fragOf (ks:List Nat)(kk:Nat→Option Obj):Frag:=ks.filterMap fun a=>(kk a).map fun o=>(a,o)
theorem fragOf_at {ks:List Nat}{kk:Nat→Option Obj}{b:Addr}{o:Obj}(h:(fragOf ks kk).lookup b=some o):kk b=some o:=by
 obtain⟨l1,l2,hl,_⟩:=List.lookup_eq_some_iff.mp h
 have hm:(b,o)∈fragOf ks kk:=by rw[hl]; simp
 unfold fragOf at hm
 obtain⟨a,_,ha⟩:=List.mem_filterMap.mp hm
 obtain⟨o',ho',e⟩:=Option.map_eq_some_iff.mp ha
 cases e
 exact ho'
structure Ad where
 kc:Nat
 ns:Nat
 cc:Nat
 i0:Nat
 pu:Nat
 po:Nat
 pa:Nat
 ln:Nat
 st:Nat
 pf:Nat
 dI:Nat
 dP:Nat
 b1:Nat
 b3:Nat
 tops:List (Str×Nat)
noncomputable def Ad.tb (ad:Ad):List Addr:=[ad.ln - 5,ad.st - 5]
noncomputable def Ad.codes (ad:Ad):List (Addr×Addr):=[(ad.ln - 1,ad.ln - 5),(ad.st - 1,ad.st - 5)]
noncomputable def Ad.K (ad:Ad)(kk:Nat→Option Obj):Frag:=fragOf [ad.kc,ad.ns,2,ad.i0,ad.pu,ad.po,ad.pa,ad.ln,ad.st,ad.pf] kk
noncomputable abbrev FnT:=Option (Str×Str×Arguments×FuncBody×Scope×Addr×List (Str×Addr)×Value×Value×Value×Addr)×Option (Str×Str)
noncomputable def fnVV (kk:Nat→Option Obj)(a:Nat):FnT:=(fnV (kk a),codeV (kk (a - 1)))
noncomputable def fnWW (a:Nat)(R:FR)(clo:List (Str×Addr))(dflt:Value)(file:Str):FnT:=(fnE R clo dflt (a - 1),some (R.qual,file))
theorem FnAt.of {kk:Nat→Option Obj}{a:Nat}{R:FR}{clo:List (Str×Addr)}{dflt:Value}{file:Str}(h:fnVV kk a=fnWW a R clo dflt file):FnAt kk a R clo dflt file:=
 ⟨congrArg Prod.fst h,congrArg Prod.snd h⟩
noncomputable def mInit (p:Program):FR:=methR p "__init__" "_Accumulator.__init__"
noncomputable def mPush (p:Program):FR:=methR p "push" "_Accumulator.push"
noncomputable def mPop (p:Program):FR:=methR p "pop" "_Accumulator.pop"
noncomputable def mPart (p:Program):FR:=methR p "part_count" "_Accumulator.part_count"
noncomputable def mLen (p:Program):FR:=methR p "__len__" "_Accumulator.__len__"
noncomputable def mStr (p:Program):FR:=methR p "__str__" "_Accumulator.__str__"
noncomputable def mPopf (p:Program):FR:=methR p "pop_from" "_Accumulator.pop_from"
noncomputable def clsC (ad:Ad):List (Str×Addr):=[(PySem.Str.ofString "__class__",ad.cc)]
noncomputable def onSeqD {β:Type}(d:Data)(f:Array Value→Option β):Option β:=match d with
 | .seq vs _=>f vs
 | _=>none
theorem onSeqD_some {β:Type}{r:β}{d:Data}{f:Array Value→Option β}(h:onSeqD d f=some r):∃ vs n,d= .seq vs n∧f vs=some r:=by
 cases d with
 | seq vs n=>exact⟨vs,n,rfl,h⟩
 | _=>exact nos h
noncomputable def defV (o:Option Obj):Option (List (Option Int)):=opt o fun ob=>onSeqD ob.data fun vs=>some (vs.toList.map intV)
noncomputable def modV (o:Option Obj):Option (Value×Option Addr×Data):=opt o fun ob=>some (ob.cls,ob.dict,ob.data)
noncomputable def clsV (K:Frag)(C:Addr):Option (Str×List Value×Bool×Bool):=(clsIn K C).map fun cd=>(cd.qualname,cd.mro,cd.hasDel,cd.hasDict)
noncomputable def slV (K:Frag)(C:Addr):Option (Option Value):=(K.lookup C).map fun o=>(o.slots.toList[4]?).join
noncomputable def bltL:List (Str×Value):=builtinNames++([(PySem.Str.ofString "super",.type "super"),(PySem.Str.ofString "sum",.builtin "sum")]:List (Str×Value))
noncomputable def findL1:List Str:=["__getattribute__","__getattr__","__iter__","_initial_size","__init__","__setattr__","append","push","pop","part_count","__len__","__str__","pop_from"]
noncomputable def findR1 (ad:Ad):List (Option (Option Value)):=[some (some (.builtin "list.__getattribute__")),some none,some (some (.builtin "list.__iter__")),some none,some (some (.ref ad.i0)),some (some (.builtin "object.__setattr__")),some (some (.builtin "list.append")),
 some (some (.ref ad.pu)),some (some (.ref ad.po)),some (some (.ref ad.pa)),some (some (.ref ad.ln)),some (some (.ref ad.st)),some (some (.ref ad.pf))]
noncomputable def lv1 (ad:Ad)(kk:Nat→Option Obj):=ad.tops.map (fun x=>fnVV kk x.2)
noncomputable def lw1 (p:Program)(ad:Ad):=ad.tops.map (fun x=>fnWW x.2 (topR p x.1) [] Value.none p.main.file)
noncomputable def lv2 (ad:Ad)(kk:Nat→Option Obj):=[fnVV kk ad.i0,fnVV kk ad.pu,fnVV kk ad.po,fnVV kk ad.pa,fnVV kk ad.ln,fnVV kk ad.st,fnVV kk ad.pf]
noncomputable def lw2 (p:Program)(ad:Ad):=[fnWW ad.i0 (mInit p) (clsC ad) (Value.ref ad.dI) p.main.file,fnWW ad.pu (mPush p) [] Value.none p.main.file,fnWW ad.po (mPop p) (clsC ad) Value.none p.main.file,
   fnWW ad.pa (mPart p) (clsC ad) Value.none p.main.file,fnWW ad.ln (mLen p) [] Value.none p.main.file,fnWW ad.st (mStr p) [] Value.none p.main.file,fnWW ad.pf (mPopf p) [] (Value.ref ad.dP) p.main.file]
noncomputable def lv3 (ad:Ad)(kk:Nat→Option Obj):=ad.tops.map (fun x=>glob (kk 3) x.1)
noncomputable def lw3 (p:Program)(ad:Ad):=ad.tops.map (fun x=>some (Value.ref x.2))
noncomputable def lv4 (ad:Ad)(kk:Nat→Option Obj):=[glob (kk 3) "_Accumulator",glob (kk 3) "b1_set",glob (kk 3) "b3_exceptions",glob (kk 3) "__builtins__"]
noncomputable def lw4 (p:Program)(ad:Ad):=[some (Value.ref ad.kc),some (Value.ref ad.b1),some (Value.ref ad.b3),some (Value.ref 4)]
noncomputable def lv5 (ad:Ad)(kk:Nat→Option Obj):=[strV (glob (kk 3) "ELLIPSIS_MARKER"),strV (glob (kk 3) "EMPTYSTRING")]
noncomputable def lw5 (p:Program)(ad:Ad):=[some (PySem.Str.ofString "..."),some (PySem.Str.ofString "")]
noncomputable def lv6 (ad:Ad)(kk:Nat→Option Obj):=bltL.map (fun x=>glob (kk 3) x.1)
noncomputable def lw6 (p:Program)(ad:Ad):=bltL.map (fun _=>(none:Option Value))
noncomputable def lv7 (ad:Ad)(kk:Nat→Option Obj):=bltL.map (fun x=>glob (kk 0) x.1)
noncomputable def lw7 (p:Program)(ad:Ad):=bltL.map (fun x=>some x.2)
noncomputable def lv8 (ad:Ad)(kk:Nat→Option Obj):=[nsOkB (kk 3),nsOkB (kk 0),nsOkB (kk 2),setOkB (kk ad.b1),codeOkB (kk (ad.ln - 1)) none (ad.ln - 5),codeOkB (kk (ad.st - 1)) none (ad.st - 5)]
noncomputable def lw8 (p:Program)(ad:Ad):=[true,true,true,true,true,true]
noncomputable def lv9 (ad:Ad)(kk:Nat→Option Obj):=[kk (ad.ln - 5),kk (ad.st - 5)]
noncomputable def lw9 (p:Program)(ad:Ad):=[some ({ cls:=Value.none,data:= .fields #[] }:Obj),some { cls:=Value.none,data:= .fields #[] }]
noncomputable def lv10 (ad:Ad)(kk:Nat→Option Obj):=glob (kk 2) "sys.recursionlimit"
noncomputable def lw10 (p:Program)(ad:Ad):=(none:Option Value)
noncomputable def lv11 (ad:Ad)(kk:Nat→Option Obj):=cellV (kk ad.cc)
noncomputable def lw11 (p:Program)(ad:Ad):=some (Value.ref ad.kc)
noncomputable def lv12 (ad:Ad)(kk:Nat→Option Obj):=(defV (kk ad.dI),defV (kk ad.dP))
noncomputable def lw12 (p:Program)(ad:Ad):=(some [some (0:Int)],some [some (0:Int)])
noncomputable def lv13 (ad:Ad)(kk:Nat→Option Obj):=modV (kk 4)
noncomputable def lw13 (p:Program)(ad:Ad):=some (Value.type "module",some 0,Data.plain)
noncomputable def lv14 (ad:Ad)(kk:Nat→Option Obj):=findL1.map (findIn (ad.K kk) (.ref ad.kc))
noncomputable def lw14 (p:Program)(ad:Ad):=findR1 ad
noncomputable def lv15 (ad:Ad)(kk:Nat→Option Obj):=[mroIn (ad.K kk) ad.kc (.type "list"),mroIn (ad.K kk) ad.kc (.type "module"),mroIn (ad.K kk) ad.kc (.ref ad.kc),instIn (ad.K kk) (.ref ad.kc) (.type "type")]
noncomputable def lw15 (p:Program)(ad:Ad):=[some true,some false,some true,some true]
noncomputable def lv16 (ad:Ad)(kk:Nat→Option Obj):=[typeIn (ad.K kk) (.ref ad.kc),typeIn (ad.K kk) (.ref ad.i0),typeIn (ad.K kk) (.ref ad.pu),typeIn (ad.K kk) (.ref ad.po),typeIn (ad.K kk) (.ref ad.pa),typeIn (ad.K kk) (.ref ad.ln),typeIn (ad.K kk) (.ref ad.st),typeIn (ad.K kk) (.ref ad.pf)]
noncomputable def lw16 (p:Program)(ad:Ad):=[some (Value.type "type"),some (Value.type "function"),some (Value.type "function"),some (Value.type "function"),some (Value.type "function"),some (Value.type "function"),some (Value.type "function"),some (Value.type "function")]
noncomputable def lv17 (ad:Ad)(kk:Nat→Option Obj):=clsV (ad.K kk) ad.kc
noncomputable def lw17 (p:Program)(ad:Ad):=some (PySem.Str.ofString "_Accumulator",[Value.ref ad.kc,.type "list",.type "object"],false,true)
noncomputable def lv18 (ad:Ad)(kk:Nat→Option Obj):=nsIn (ad.K kk) 2 "thirdparty.any"
noncomputable def lw18 (p:Program)(ad:Ad):=some (none:Option Value)
noncomputable def lv19 (ad:Ad)(kk:Nat→Option Obj):=[specialIn (ad.K kk) (.ref ad.kc) "__call__",takerIn (ad.K kk) ad.kc "_initial_size",slV (ad.K kk) ad.kc]
noncomputable def lw19 (p:Program)(ad:Ad):=[some (some (Value.builtin "type.__call__")),some none,some (some (Value.builtin "list.__new__"))]
noncomputable def lookV (ad:Ad)(kk:Nat→Option Obj):=(lv1 ad kk,lv2 ad kk,lv3 ad kk,lv4 ad kk,lv5 ad kk,lv6 ad kk,lv7 ad kk,lv8 ad kk,lv9 ad kk,lv10 ad kk,lv11 ad kk,lv12 ad kk,lv13 ad kk,lv14 ad kk,lv15 ad kk,lv16 ad kk,lv17 ad kk,lv18 ad kk,lv19 ad kk)
noncomputable def lookW (p:Program)(ad:Ad):=(lw1 p ad,lw2 p ad,lw3 p ad,lw4 p ad,lw5 p ad,lw6 p ad,lw7 p ad,lw8 p ad,lw9 p ad,lw10 p ad,lw11 p ad,lw12 p ad,lw13 p ad,lw14 p ad,lw15 p ad,lw16 p ad,lw17 p ad,lw18 p ad,lw19 p ad)
noncomputable def ShPart (R:FR):Prop:=∃ p0 p1 apos pos rp,R.body=[.Return (some (.Call (.Attribute (.Call (.Name "super" p0) [] [] p1) "__len__" apos) [] [] pos)) rp]∧(apos.endLine==pos.line)=true
noncomputable def ShPop (R:FR):Prop:=∃ test first ip p0 p1 apos pos rp,R.body=[.If test first [] ip,.Return (some (.Call (.Attribute (.Call (.Name "super" p0) [] [] p1) "pop" apos) [] [] pos)) rp]∧(apos.endLine==pos.line)=true∧
 (∀ (T:Int→Option Str) (σ:Sto) (i di:Nat) (c:Cell) (xs:List PV),σ[i]?=some c→c.d= .acc di xs→accOk σ (.lst i)=true→xs.length≤10000→isTK (G0 T) 100 ⟨R.d.names,[("self",.lst i)]⟩ σ test (fun b s=>some (b,s))=some (xs.isEmpty,σ))∧
 (∀ (T:Int→Option Str) cx σ,exsK (G0 T) 100 cx σ first (fun f c s=>some (f,c,s))=some (.ret (.tup [.str "",.str ""]),cx,σ))
noncomputable def ShInit (R:FR):Prop:=∃ p0 p1 apos pos rp sp ap vp ep,R.body=[.Assign [.Attribute (.Name "self" sp) "_initial_size" ap] (.Name "initial_size" vp) ep,.Expr (.Call (.Attribute (.Call (.Name "super" p0) [] [] p1) "__init__" apos) [] [] pos) rp]∧(apos.endLine==pos.line)=true
noncomputable def ShLen (R:FR):Prop:=∃ p1 q1 q2 q3 q4 q5 q6 ep pa pb pt pi gpos ps ap cpos rp kt scope,
 R.body=[.Return (some (.Call (.Name "sum" p1) [.GeneratorExp (.BinOp (.Call (.Name "len" q1) [.Name "fws" q2] [] q3) .Add (.Call (.Name "len" q4) [.Name "part" q5] [] q6) ep) [⟨.Tuple [.Name "fws" pa,.Name "part" pb] kt pt,.Name "self" pi,[],0⟩] scope gpos,.Attribute (.Name "self" ps) "_initial_size" ap] [] cpos)) rp]∧
 R.d.names.lookup ("self":Str)=some .local∧R.d.names.lookup ("sum":Str)=some .globalImplicit∧ScOk scope "len"
noncomputable def ShStr (R:FR):Prop:=∃ p1 p2 q1 q2 q3 q4 q5 q6 pa pb pt pi gpos cpos rp kt kq scope,
 R.body=[.Return (some (.Call (.Attribute (.Name "EMPTYSTRING" p1) "join" p2) [.GeneratorExp (.Call (.Attribute (.Name "EMPTYSTRING" q1) "join" q2) [.Tuple [.Name "fws" q3,.Name "part" q4] kq q5] [] q6) [⟨.Tuple [.Name "fws" pa,.Name "part" pb] kt pt,.Name "self" pi,[],0⟩] scope gpos] [] cpos)) rp]∧
 R.d.names.lookup ("self":Str)=some .local∧R.d.names.lookup ("EMPTYSTRING":Str)=some .globalImplicit∧ScOk scope "EMPTYSTRING"∧(p2.endLine==cpos.line)=true∧(q2.endLine==q6.line)=true
noncomputable def Binds1 (R:FR):Prop:=∀ fd:FuncData,fd.params=R.args→fd.defaults= .none→∀ v:Value,bindArgs fd ⟨[v],[]⟩=pure ([("self",v)]:List (Str×Value))
noncomputable def BindsI (R:FR):Prop:=∀ (fd:FuncData) (T:Addr),fd.params=R.args→fd.defaults= .ref T→∀ (s:Shared) (o:Obj) (n:Nat) (t:Tok) (x:Addr),s.heap.get? T=some o→o.data= .seq #[.int 0 t] n→
 BindsTo s fd ⟨[.ref x],[]⟩ [("self",.ref x),("initial_size",.int 0 t)]∧∀ (i:Int) (u:Tok),BindsTo s fd ⟨[.ref x,.int i u],[]⟩ [("self",.ref x),("initial_size",.int i u)]
noncomputable def awayL (ad:Ad):List Nat:=[0,2,3,4,ad.kc,ad.ns,ad.cc,ad.i0,ad.pu,ad.po,ad.pa,ad.ln,ad.st,ad.pf,ad.i0 - 1,ad.pu - 1,ad.po - 1,ad.pa - 1,ad.ln - 1,ad.st - 1,ad.pf - 1,ad.dI,ad.dP,ad.b1,ad.b3]++ad.tops.map (·.2)++ad.tops.map fun x=>x.2 - 1
theorem aw {ad:Ad}(i:Nat){a:Nat}(h:(awayL ad)[i]?=some a):a∈awayL ad:=List.mem_of_getElem? h
theorem nthE {α:Type}{l r:List α}(e:l=r)(i:Nat){a b:α}(ha:l[i]?=some a)(hb:r[i]?=some b):a=b:=Option.some.inj (ha.symm.trans ((congrArg (fun l=>l[i]?) e).trans hb))
structure PrOk (p:Program) (ad:Ad):Prop where
 top:(p.main.scope.names.lookup ("super":Str)).isSome=false
 part:ShPart (mPart p)
 partS:supOkB (mPart p)=true
 partP:(mPart p).d.params=(["self"]:List Str)
 partB:Binds1 (mPart p)
 pop:ShPop (mPop p)
 popS:supOkB (mPop p)=true
 popP:(mPop p).d.params=(["self"]:List Str)
 popB:Binds1 (mPop p)
 init:ShInit (mInit p)
 initS:supOkB (mInit p)=true
 initP:(mInit p).d.params=(["self","initial_size"]:List Str)
 initB:BindsI (mInit p)
 len:ShLen (mLen p)
 lenM:methOk (mLen p)=true
 lenP:(mLen p).d.params=(["self"]:List Str)
 lenB:Binds1 (mLen p)
 str:ShStr (mStr p)
 strM:methOk (mStr p)=true
 strP:(mStr p).d.params=(["self"]:List Str)
 strB:Binds1 (mStr p)
 pushF:frOk (mPush p)=true
 pushB:Binds (mPush p)
 tops:∀ x∈ad.tops,frOk (topR p x.1)=true
 topsB:∀ x∈ad.tops,Binds (topR p x.1)
 away:∀ a∈awayL ad,a∉ad.tb
 codes:ad.ln - 5≠ad.st - 5∧ad.ln - 1≠ad.st - 1
 b3:(ad.b3==sysModules)=false
structure Env (p:Program) (ad:Ad) (kk:Nat→Option Obj) (B:Bs) (T:Int→Option Str):Prop where
 look:lookV ad kk=lookW p ad
 has:Has kk B
 prog:B.prog=p
 tb:B.Tb=ad.tb
 cls:B.cls=ad.kc
 inv:∀ h,B.inv h↔∀ cp∈ad.codes,∃ ps,h.IsCode cp.1 cp.2 ps∧h.TableAt cp.1 cp.2 ps
 tab:∀ h:Heap,(∀ a o,B.h₀.get? a=some o→a∉B.Tb→h.get? a=some o)→∃ f,h.MapOf (intKind B.prog B.w) ad.b3 f∧∀ i,match T i with
  | some x=>∃ t,f i=some (.str x t)
  | none=>f i=none
theorem Env.at {p:Program}{ad:Ad}{kk:Nat→Option Obj}{B:Bs}{T:Int→Option Str}(N:Env p ad kk B T){h:Heap}(e:Ext B h):Env p ad kk (B.at h) T:=
 ⟨N.look,N.has.at e,N.prog,N.tb,N.cls,N.inv,fun h' he=>N.tab h' fun a o ho ht=>he a o (e.keep a o ho ht) ht⟩
section
variable {p:Program}{ad:Ad}{kk:Nat→Option Obj}{B:Bs}{T:Int→Option Str}(R:PrOk p ad)(N:Env p ad kk B T)
include R N
theorem env_look:lv1 ad kk=lw1 p ad∧lv2 ad kk=lw2 p ad∧lv3 ad kk=lw3 p ad∧lv4 ad kk=lw4 p ad∧lv5 ad kk=lw5 p ad∧lv6 ad kk=lw6 p ad∧lv7 ad kk=lw7 p ad∧lv8 ad kk=lw8 p ad∧lv9 ad kk=lw9 p ad∧
  lv10 ad kk=lw10 p ad∧lv11 ad kk=lw11 p ad∧lv12 ad kk=lw12 p ad∧lv13 ad kk=lw13 p ad∧lv14 ad kk=lw14 p ad∧lv15 ad kk=lw15 p ad∧lv16 ad kk=lw16 p ad∧lv17 ad kk=lw17 p ad∧lv18 ad kk=lw18 p ad∧lv19 ad kk=lw19 p ad:=by
 exact (pairA (pairA (pairA (pairA (pairA (pairA (pairA (pairA (pairA (pairA (pairA (pairA (pairA (pairA (pairA (pairA (pairA (pairA id)))))))))))))))))) N.look
theorem env_away {a:Nat}(h:a∈awayL ad):a∉B.Tb:=by
 rw[N.tb]; exact R.away a h
theorem env_top {x:Str×Nat}(h:x∈ad.tops):FnAt kk x.2 (topR p x.1) [] .none p.main.file:=
 FnAt.of (List.map_inj_left.mp (env_look R N).1 x h)
theorem env_meths:FnAt kk ad.i0 (mInit p) (clsC ad) (.ref ad.dI) p.main.file∧FnAt kk ad.pu (mPush p) [] .none p.main.file∧FnAt kk ad.po (mPop p) (clsC ad) .none p.main.file∧FnAt kk ad.pa (mPart p) (clsC ad) .none p.main.file∧
  FnAt kk ad.ln (mLen p) [] .none p.main.file∧FnAt kk ad.st (mStr p) [] .none p.main.file∧FnAt kk ad.pf (mPopf p) [] (.ref ad.dP) p.main.file:=by
 have e:=(env_look R N).2.1
 exact⟨.of (nthE e 0 rfl rfl),.of (nthE e 1 rfl rfl),.of (nthE e 2 rfl rfl),.of (nthE e 3 rfl rfl),.of (nthE e 4 rfl rfl),.of (nthE e 5 rfl rfl),.of (nthE e 6 rfl rfl)⟩
theorem env_bools:nsOkB (kk 3)=true∧nsOkB (kk 0)=true∧nsOkB (kk 2)=true∧setOkB (kk ad.b1)=true∧codeOkB (kk (ad.ln - 1)) none (ad.ln - 5)=true∧codeOkB (kk (ad.st - 1)) none (ad.st - 5)=true:=by
 have e:=(env_look R N).2.2.2.2.2.2.2.1
 exact⟨nthE e 0 rfl rfl,nthE e 1 rfl rfl,nthE e 2 rfl rfl,nthE e 3 rfl rfl,nthE e 4 rfl rfl,nthE e 5 rfl rfl⟩
theorem env_ns {a:Nat}(hb:nsOkB (kk a)=true)(ha:a∉B.Tb):B.h₀.Ns a (glob (kk a)):=by
 cases ho:kk a with
 | none=>rw[ho] at hb; cases hb
 | some o=>
  rw[ho] at hb
  exact ns_of (N.has a o ho ha) hb
theorem env_g:B.h₀.Ns mainNs (glob (kk 3)):=env_ns (a:=3) R N (env_bools R N).1 (env_away R N (aw 2 rfl))
theorem env_b:B.h₀.Ns builtinsNs (glob (kk 0)):=env_ns (a:=0) R N (env_bools R N).2.1 (env_away R N (aw 0 rfl))
theorem env_lim:B.h₀.NoLimit:=⟨_,env_ns (a:=2) R N (env_bools R N).2.2.1 (env_away R N (aw 1 rfl)),by
 have e:=(env_look R N).2.2.2.2.2.2.2.2.2.1
 unfold lv10 lw10 at e
 exact e⟩
theorem env_codes:CodesOk B ad.codes where
 inv:=N.inv
 tb:=fun a=>by
  rw[N.tb]
  unfold Ad.tb Ad.codes
  exact⟨fun h=>(List.mem_cons.mp h).elim (fun e=>⟨ad.ln - 1,by rw[e]; exact List.mem_cons_self⟩) fun h=>⟨ad.st - 1,by rw[List.mem_singleton.mp h]; exact List.mem_cons_of_mem _ List.mem_cons_self⟩,
   fun h=>h.elim fun c h=>(List.mem_cons.mp h).elim (fun e=>by rw[(Prod.mk.inj e).2]; exact List.mem_cons_self) fun h=>by rw[(Prod.mk.inj (List.mem_singleton.mp h)).2]; exact List.mem_cons_of_mem _ List.mem_cons_self⟩
 off:=fun cp h=>by
  unfold Ad.codes at h
  exact (List.mem_cons.mp h).elim (fun e=>e▸env_away R N (aw 18 rfl)) fun h=>List.mem_singleton.mp h▸env_away R N (aw 19 rfl)
 lim:=env_lim R N
 stat:=env_away R N (a:=2) (aw 1 rfl)
theorem env_K {b:Addr}{o:Obj}(h:(ad.K kk).lookup b=some o):B.h₀.get? b=some o∧b∉B.Tb:=by
 have hb:=fragOf_at h
 have hm:b∈[ad.kc,ad.ns,2,ad.i0,ad.pu,ad.po,ad.pa,ad.ln,ad.st,ad.pf]:=by
  have hm:(b,o)∈ad.K kk:=by
   obtain⟨l1,l2,hl,_⟩:=List.lookup_eq_some_iff.mp h
   rw[hl]
   exact List.mem_append_right _ List.mem_cons_self
  obtain⟨a,ha,e⟩:=List.mem_filterMap.mp hm
  obtain⟨o',_,e'⟩:=Option.map_eq_some_iff.mp e
  exact (Prod.mk.inj e').1▸ha
 have all:∀ b∈[ad.kc,ad.ns,2,ad.i0,ad.pu,ad.po,ad.pa,ad.ln,ad.st,ad.pf],b∉B.Tb:=List.forall_mem_cons.mpr ⟨env_away R N (aw 4 rfl),List.forall_mem_cons.mpr ⟨env_away R N (aw 5 rfl),List.forall_mem_cons.mpr ⟨env_away R N (aw 1 rfl),List.forall_mem_cons.mpr ⟨env_away R N (aw 7 rfl),List.forall_mem_cons.mpr ⟨env_away R N (aw 8 rfl),List.forall_mem_cons.mpr ⟨env_away R N (aw 9 rfl),List.forall_mem_cons.mpr ⟨env_away R N (aw 10 rfl),List.forall_mem_cons.mpr ⟨env_away R N (aw 11 rfl),List.forall_mem_cons.mpr ⟨env_away R N (aw 12 rfl),List.forall_mem_cons.mpr ⟨env_away R N (aw 13 rfl),fun _ h=>absurd h List.not_mem_nil⟩⟩⟩⟩⟩⟩⟩⟩⟩⟩
 exact⟨N.has b o hb (all b hm),all b hm⟩
theorem env_find:findIn (ad.K kk) (.ref B.cls) "__getattribute__"=some (some (.builtin "list.__getattribute__"))∧findIn (ad.K kk) (.ref B.cls) "__getattr__"=some none∧findIn (ad.K kk) (.ref B.cls) "__iter__"=some (some (.builtin "list.__iter__"))∧
  findIn (ad.K kk) (.ref B.cls) "_initial_size"=some none∧findIn (ad.K kk) (.ref B.cls) "__init__"=some (some (.ref ad.i0))∧findIn (ad.K kk) (.ref B.cls) "__setattr__"=some (some (.builtin "object.__setattr__"))∧
  findIn (ad.K kk) (.ref B.cls) "append"=some (some (.builtin "list.append"))∧findIn (ad.K kk) (.ref B.cls) "push"=some (some (.ref ad.pu))∧findIn (ad.K kk) (.ref B.cls) "pop"=some (some (.ref ad.po))∧findIn (ad.K kk) (.ref B.cls) "part_count"=some (some (.ref ad.pa))∧
  findIn (ad.K kk) (.ref B.cls) "__len__"=some (some (.ref ad.ln))∧findIn (ad.K kk) (.ref B.cls) "__str__"=some (some (.ref ad.st))∧findIn (ad.K kk) (.ref B.cls) "pop_from"=some (some (.ref ad.pf)):=by
 rw[N.cls]
 have e:=(env_look R N).2.2.2.2.2.2.2.2.2.2.2.2.2.1
 exact⟨nthE e 0 rfl rfl,nthE e 1 rfl rfl,nthE e 2 rfl rfl,nthE e 3 rfl rfl,nthE e 4 rfl rfl,nthE e 5 rfl rfl,nthE e 6 rfl rfl,nthE e 7 rfl rfl,nthE e 8 rfl rfl,nthE e 9 rfl rfl,nthE e 10 rfl rfl,nthE e 11 rfl rfl,nthE e 12 rfl rfl⟩
theorem env_mro:mroIn (ad.K kk) B.cls (.type "list")=some true∧mroIn (ad.K kk) B.cls (.type "module")=some false∧mroIn (ad.K kk) B.cls (.ref B.cls)=some true∧instIn (ad.K kk) (.ref B.cls) (.type "type")=some true:=by
 rw[N.cls]
 have e:=(env_look R N).2.2.2.2.2.2.2.2.2.2.2.2.2.2.1
 exact⟨nthE e 0 rfl rfl,nthE e 1 rfl rfl,nthE e 2 rfl rfl,nthE e 3 rfl rfl⟩
theorem env_type:typeIn (ad.K kk) (.ref B.cls)=some (.type "type")∧typeIn (ad.K kk) (.ref ad.i0)=some (.type "function")∧typeIn (ad.K kk) (.ref ad.pu)=some (.type "function")∧typeIn (ad.K kk) (.ref ad.po)=some (.type "function")∧
  typeIn (ad.K kk) (.ref ad.pa)=some (.type "function")∧typeIn (ad.K kk) (.ref ad.ln)=some (.type "function")∧typeIn (ad.K kk) (.ref ad.st)=some (.type "function")∧typeIn (ad.K kk) (.ref ad.pf)=some (.type "function"):=by
 rw[N.cls]
 have e:=(env_look R N).2.2.2.2.2.2.2.2.2.2.2.2.2.2.2.1
 exact⟨nthE e 0 rfl rfl,nthE e 1 rfl rfl,nthE e 2 rfl rfl,nthE e 3 rfl rfl,nthE e 4 rfl rfl,nthE e 5 rfl rfl,nthE e 6 rfl rfl,nthE e 7 rfl rfl⟩
theorem env_cls:ClsOk B (ad.K kk):=⟨fun b o h=>env_K R N h,(env_find R N).1,(env_find R N).2.1,(env_mro R N).1⟩
theorem env_cd:∃ cd,clsIn (ad.K kk) B.cls=some cd∧cd.qualname="_Accumulator"∧cd.mro=[.ref B.cls,.type "list",.type "object"]∧cd.hasDel=false∧cd.hasDict=true:=by
 rw[N.cls]
 have e:=(env_look R N).2.2.2.2.2.2.2.2.2.2.2.2.2.2.2.2.1
 unfold lv17 lw17 clsV at e
 obtain⟨cd,hc,h⟩:=Option.map_eq_some_iff.mp e
 exact⟨cd,hc,pairA (pairA (pairA id)) h⟩
theorem env_last:specialIn (ad.K kk) (.ref B.cls) "__call__"=some (some (.builtin "type.__call__"))∧takerIn (ad.K kk) B.cls "_initial_size"=some none∧slV (ad.K kk) B.cls=some (some (.builtin "list.__new__")):=by
 rw[N.cls]
 have e:=(env_look R N).2.2.2.2.2.2.2.2.2.2.2.2.2.2.2.2.2.2
 exact⟨nthE e 0 rfl rfl,nthE e 1 rfl rfl,nthE e 2 rfl rfl⟩
theorem env_blt {x:Str×Value}(h:x∈bltL):glob (kk 3) x.1=none∧glob (kk 0) x.1=some x.2:=by
 have e6:=(env_look R N).2.2.2.2.2.1
 have e7:=(env_look R N).2.2.2.2.2.2.1
 unfold lv6 lw6 at e6
 unfold lv7 lw7 at e7
 exact⟨List.map_inj_left.mp e6 x h,List.map_inj_left.mp e7 x h⟩
theorem env_cell:∃ o,B.h₀.get? ad.cc=some o∧o.data= .cell (some (.ref B.cls)):=by
 rw[N.cls]
 have e:=(env_look R N).2.2.2.2.2.2.2.2.2.2.1
 unfold lv11 lw11 at e
 obtain⟨o,ho,hd⟩:=cellV_some e
 exact⟨o,N.has _ o ho (env_away R N (aw 6 rfl)),hd⟩
theorem env_sup {cd:ClassData}(hcd:clsIn (ad.K kk) B.cls=some cd)(hm:cd.mro=[.ref B.cls,.type "list",.type "object"]):SupOk B (ad.K kk) cd ad.cc (glob (kk 3)) (glob (kk 0)) where
 cls:=hcd
 rest:=by rw[hm]; simp
 third:=by
  have e:=(env_look R N).2.2.2.2.2.2.2.2.2.2.2.2.2.2.2.2.2.1
  unfold lv18 lw18 at e
  exact e
 self:=(env_mro R N).2.2.1
 ofType:=(env_type R N).1
 isT:=(env_mro R N).2.2.2
 cell:=env_cell R N
 ct:=env_away R N (aw 6 rfl)
 g:=env_g R N
 b:=env_b R N
 og:=env_away R N (a:=3) (aw 2 rfl)
 ob:=env_away R N (a:=0) (aw 0 rfl)
 gs:=(env_blt R N (x:=(PySem.Str.ofString "super",.type "super")) (List.mem_append_right _ List.mem_cons_self)).1
 bs:=(env_blt R N (x:=(PySem.Str.ofString "super",.type "super")) (List.mem_append_right _ List.mem_cons_self)).2
 top:=by rw[N.prog]; exact R.top
theorem env_makes {cd:ClassData}(hcd:clsIn (ad.K kk) B.cls=some cd)(hm:cd.mro=[.ref B.cls,.type "list",.type "object"])(hdel:cd.hasDel=false):MakesL (ad.K kk) B.cls ad.i0 cd where
 obj:=by
  obtain⟨oc,od,sl,ho⟩:=clsIn_some hcd
  refine⟨oc,od,sl,ho,?_⟩
  have:=(env_last R N).2.2
  unfold slV at this
  rw[ho] at this
  exact Option.some.inj this
 del:=hdel
 mro:=hm
 call:=(env_last R N).1
 typ:=(env_mro R N).2.2.2
 init:=(env_find R N).2.2.2.2.1
 fn:=(env_type R N).2.1
theorem env_str:(∃ t,glob (kk 3) "ELLIPSIS_MARKER"=some (.str "..." t))∧∃ t,glob (kk 3) "EMPTYSTRING"=some (.str "" t):=by
 have e:=(env_look R N).2.2.2.2.1
 exact⟨strV_some (nthE e 0 rfl rfl),strV_some (nthE e 1 rfl rfl)⟩
theorem env_sub {s:Shared}{ρ:List Addr}{σ:Sto}(x:St B ρ σ s){i:Nat}{a:Addr}{c:Cell}{di:Nat}{xs:List PV}{m:Str}{f:Addr}{A:Around}{E:Value→Shared→Prop}{pl:Sem Bool}{Q:Value×List Value→Shared→Prop}(hc:σ[i]?=some c)(hd:c.d= .acc di xs)(ha:ρ[i]?=some a)(hok:accOk σ (.lst i)=true)
  (hf:findIn (ad.K kk) (.ref B.cls) m=some (some (.ref f))) (ht:typeIn (ad.K kk) (.ref f)=some (.type "function")) (hne:m≠"_initial_size") (q:Q (.ref f,[.ref a]) s):wpAny (model B.prog B.w) A (getMethod (.ref a) m pl) Q E s:=
 acc_getMethod x (fun b o h=>env_K R N h) hc hd ha hok (env_find R N).1 (env_find R N).2.1 hf ht hne q
theorem partM_ok (k:Nat):FnOk B (k+1) (.ref ad.pa) partF:=by
 obtain⟨cd,hcd,hq,hm,hdel,hh⟩:=env_cd R N
 obtain⟨p0,p1,apos,pos,rp,hb,hline⟩:=R.part
 obtain⟨fd,P,e1,e2,e3⟩:=(env_meths R N).2.2.2.1.sup N.has (env_away R N (aw 10 rfl)) (env_away R N (aw 17 rfl)) R.partS (env_away R N (aw 6 rfl)) ((env_cell R N).imp fun _ h=>⟨_,h⟩) (by rw[N.prog]; simp)
 rw[R.partP,show (mPart p).d.body=(mPart p).body from rfl,hb] at P
 exact partC_ok (env_codes R N).ok (env_cls R N) (env_sup R N hcd hm) P hline fun s v=>BindsTo.of_eq (R.partB fd e1 e2 v)
theorem gl0:GlOk B 1 (G0 T) (glob (kk 3)) (glob (kk 0)) where
 g:=env_g R N
 b:=env_b R N
 og:=env_away R N (a:=3) (aw 2 rfl)
 ob:=env_away R N (a:=0) (aw 0 rfl)
 fn:=fun g F h=>nos h
 con:=fun g v h=>by
  rcases ite_some (show (if g="ELLIPSIS_MARKER" then some (PV.str "...") else if g="EMPTYSTRING" then some (PV.str "") else none)=some v from h) with⟨e,h⟩ | ⟨_,h⟩
  ·obtain rfl:=Option.some.inj h
   obtain⟨t,ht⟩:=(env_str R N).1
   exact⟨_,e▸ht,fun ρ h=>⟨t,rfl⟩⟩
  ·obtain⟨e,h⟩:=grd_some h
   obtain rfl:=Option.some.inj h
   obtain⟨t,ht⟩:=(env_str R N).2
   exact⟨_,e▸ht,fun ρ h=>⟨t,rfl⟩⟩
 set:=fun g S h=>by
  obtain⟨e,h⟩:=grd_some (show grd (g="b1_set") (some b1In)=some S from h)
  obtain rfl:=Option.some.inj h
  have e4:=(env_look R N).2.2.2.1
  have hs:=(env_bools R N).2.2.2.1
  cases ho:kk ad.b1 with
  | none=>rw[ho] at hs; exact absurd hs Bool.false_ne_true
  | some o=>
   rw[ho] at hs
   obtain⟨n,hn⟩:=setOf_of (prog:=B.prog) (w:=B.w) (N.has _ o ho (env_away R N (aw 23 rfl))) hs
   exact⟨ad.b1,n,by rw[e]; exact nthE e4 1 rfl rfl,env_away R N (aw 23 rfl),hn⟩
 tab:=fun g T' h=>by
  obtain⟨e,h⟩:=grd_some (show grd (g="b3_exceptions") (some T)=some T' from h)
  obtain rfl:=Option.some.inj h
  have e4:=(env_look R N).2.2.2.1
  obtain⟨f,h1,h2⟩:=N.tab B.h₀ fun a o ho _=>ho
  exact⟨ad.b3,f,by rw[e]; exact nthE e4 2 rfl rfl,env_away R N (aw 24 rfl),R.b3,h1,h2⟩
 bg:=fun x v h=>env_blt R N (x:=(x,v)) (by unfold bltL; exact List.mem_append_left _ (mem_of_lookup h))
 meth:=fun m F h=>by
  rcases ite_some (show (if m="append" then some appendF else if m="part_count" then some partF else none)=some F from h) with⟨e,h⟩ | ⟨_,h⟩
  ·obtain rfl:=Option.some.inj h
   subst e
   exact⟨_,acc_append (env_codes R N).ok (env_cls R N),fun A E ρ σ s i a c di xs pl Q x hc hd ha hok q=>acc_getBuiltin (env_cls R N) x hc hd ha hok (env_find R N).2.2.2.2.2.2.1 (by show builtinType _=_; rw[builtinType_eq_fast]; kernel_rfl) (by decide) q⟩
  ·obtain⟨e,h⟩:=grd_some h
   obtain rfl:=Option.some.inj h
   subst e
   exact⟨_,partM_ok R N 0,fun A E ρ σ s i a c di xs pl Q x hc hd ha hok q=>env_sub R N x hc hd ha hok (env_find R N).2.2.2.2.2.2.2.2.2.1 (env_type R N).2.2.2.2.1 (by decide) q⟩
 lenA:=fun A ρ σ s args vals v σ' _ _ _ h=>nos h
 strA:=fun A ρ σ s args vals v σ' _ _ _ h=>nos h
end
theorem defV_some {o:Option Obj}(h:defV o=some [some (0:Int)]):∃ ob n t,o=some ob∧ob.data= .seq #[.int 0 t] n:=by
 obtain⟨ob,rfl,h⟩:=opt_some h
 obtain⟨⟨l⟩,n,hd,h⟩:=onSeqD_some h
 have h:l.map intV=[some 0]:=Option.some.inj h
 obtain⟨v,l,rfl,h1,h2⟩:=List.map_eq_cons_iff.mp h
 obtain⟨t,rfl⟩:=intV_some h1
 obtain rfl:=List.map_eq_nil_iff.mp h2
 exact⟨ob,n,t,rfl,hd⟩
section
variable {p:Program}{ad:Ad}{kk:Nat→Option Obj}{B:Bs}{T:Int→Option Str}(R:PrOk p ad)(N:Env p ad kk B T)
include R N
theorem callable_cls:Callable B (.ref B.cls):=fun A E s pos first es env Q h=>by
 obtain⟨cd,hcd,_⟩:=env_cd R N
 have hk:keepIn (ad.K kk) (.ref B.cls)=true:=keepIn_cls hcd (env_last R N).1
 have C:=env_cls R N
 have hall:((es.map fun e=>(false,eval e env)).any (·.1) || ([]:List (Option Str×Sem Value)).any (·.1.isNone))=false:=(Bool.or_false _).trans (List.any_eq_false.mpr fun x hx=>by obtain⟨e,_,rfl⟩:=List.mem_map.mp hx; exact Bool.false_ne_true)
 refine callWith_of (P:=fun h=>(ad.K kk).In h) hall (keeps_K hk) ?_
 have h':=wpAny_mono h (Q':=fun vs s₁=>(ad.K kk).In s₁.heap∧wpAny (model B.prog B.w) A (call (.ref B.cls) (first++vs)) Q E s₁) (fun _ _ h'=>⟨let ⟨⟨_,_,x⟩,_⟩:=h'; C.in x,h'.2⟩) fun _ _ e=>e
 cases es with
 | nil=>exact fun Γ q hΓ=>PyProof.Rows.evalArgs_none (show ((ad.K kk).In s.heap∧wpAny (model B.prog B.w) A (call (.ref B.cls) (first++[])) Q E s) from h' Γ q hΓ) Γ q hΓ
 | cons e es=>exact Calls.evalArgs_plain h'
theorem ctorM_ok (k:Nat):FnOk B (k+2) (.ref B.cls) ctorF0 where
 able:=callable_cls R N
 run:=fun A ρ σ s args vals v σ' Rm x r h=>by
  obtain⟨cd,hcd,hq,hm,hdel,hh⟩:=env_cd R N
  obtain⟨p0,p1,apos,pos,rp,sp,ap,vp,ep,hb,hline⟩:=R.init
  obtain⟨fd,P,e1,e2,e3⟩:=(env_meths R N).1.sup N.has (env_away R N (aw 7 rfl)) (env_away R N (aw 14 rfl)) R.initS (env_away R N (aw 6 rfl)) ((env_cell R N).imp fun _ h=>⟨_,h⟩) (by rw[N.prog]; simp)
  rw[R.initP,show (mInit p).d.body=(mInit p).body from rfl,hb] at P
  have hdf:=(env_look R N).2.2.2.2.2.2.2.2.2.2.2.1
  unfold lv12 lw12 at hdf
  obtain⟨od,n,t,hod,hdd⟩:=defV_some (congrArg Prod.fst hdf)
  have hdI:ad.dI∉B.Tb:=env_away R N (aw 21 rfl)
  have run:=fun (rest:List Value) (kk':Int) (kt:Tok) hb=>ctor_run (env_codes R N).ok (env_cls R N) (env_sup R N hcd hm) (env_makes R N hcd hm hdel) hh (env_find R N).2.2.2.2.2.1 (env_last R N).2.1 P hline (rest:=rest) (kk:=kk') (kt:=kt) hb Rm x
  cases args with
  | nil=>
   obtain⟨rfl,rfl⟩:=Prod.mk.inj (Option.some.inj (show some (iniF σ 0)=some (v,σ') from h))
   rw[show vals=[] from r]
   exact run [] 0 t fun s ρ σ x st=>(R.initB fd ad.dI e1 e2 s od n t x (st.base _ _ (N.has _ od hod hdI) hdI) hdd).1
  | cons w l=>
   cases l with
   | cons _ _=>exact nos h
   | nil=>
    obtain⟨i,rfl,h⟩:=onInt_some (show onInt w (fun k=>some (iniF σ k))=some (v,σ') from h)
    obtain⟨rfl,rfl⟩:=Prod.mk.inj (Option.some.inj h)
    obtain⟨w,ws,rfl,⟨u,rfl⟩,r2⟩:=r
    rw[show ws=[] from r2]
    exact run [.int i u] i u fun s ρ σ x st=>(R.initB fd ad.dI e1 e2 s od n t x (st.base _ _ (N.has _ od hod hdI) hdI) hdd).2 i u
theorem popM_ok:FnOk B 2 (.ref ad.po) popF:=by
 obtain⟨cd,hcd,hq,hm,hdel,hh⟩:=env_cd R N
 obtain⟨test,first,ip,p0,p1,apos,pos,rp,hb,hline,ht,hf⟩:=R.pop
 obtain⟨fd,P,e1,e2,e3⟩:=(env_meths R N).2.2.1.sup N.has (env_away R N (aw 9 rfl)) (env_away R N (aw 16 rfl)) R.popS (env_away R N (aw 6 rfl)) ((env_cell R N).imp fun _ h=>⟨_,h⟩) (by rw[N.prog]; simp)
 rw[R.popP,show (mPop p).d.body=(mPop p).body from rfl,hb] at P
 exact popC_ok (env_codes R N).ok (env_cls R N) (env_sup R N hcd hm) (env_mro R N).2.1 hq (gl0 R N) P hline (fun s v=>BindsTo.of_eq (R.popB fd e1 e2 v)) (ht T) (hf T)
theorem top_ok {k:Nat}{G:Gl}(gok:GlOk B k G (glob (kk 3)) (glob (kk 0))){f:Str}{a:Nat}(h:(f,a)∈ad.tops)(n:Nat):FnOk B (k+1) (.ref a) (runD G n (topR p f).d):=by
 have hm1:a∈ad.tops.map (·.2):=List.mem_map.mpr ⟨_,h,rfl⟩
 have hm2:a - 1∈ad.tops.map fun x=>x.2 - 1:=List.mem_map.mpr ⟨_,h,rfl⟩
 obtain⟨fd,D⟩:=(env_top R N h).defAt N.has (env_away R N (List.mem_append_left _ (List.mem_append_right _ hm1))) (env_away R N (List.mem_append_right _ hm2)) (R.tops _ h) (R.topsB _ h)
 exact fn_ok (env_codes R N).ok gok D n
theorem push_ok (n:Nat):FnOk B 2 (.ref ad.pu) (runD (G0 T) n (mPush p).d):=by
 obtain⟨fd,D⟩:=(env_meths R N).2.1.defAt N.has (env_away R N (aw 8 rfl)) (env_away R N (aw 15 rfl)) R.pushF R.pushB
 exact fn_ok (env_codes R N).ok (gl0 R N) D n
theorem popf_no (k:Nat):FnOk B k (.ref ad.pf) (fun _ _=>none):=by
 obtain⟨o,fd,ho,hd,_⟩:=(env_meths R N).2.2.2.2.2.2.get
 exact⟨callable_fn (N.has _ o ho (env_away R N (aw 13 rfl))) (env_away R N (aw 13 rfl)) hd,fun A ρ σ s args vals v σ' Rm x r h=>by cases h⟩
theorem gl1 {E P:Fn}{aB aM aE:Nat}(hB:(PySem.Str.ofString "in_table_b1",aB)∈ad.tops)(hM:(PySem.Str.ofString "map_table_b3",aM)∈ad.tops)(hE:(PySem.Str.ofString "_ellipsis_match",aE)∈ad.tops)(nB nM nP:Nat)
  (lB:Le b1F (runD (G0 T) nB (topR p "in_table_b1").d)) (lM:Le (b3F T) (runD (G0 T) nM (topR p "map_table_b3").d)) (lP:Le pushF (runD (G0 T) nP (mPush p).d)) (okE:FnOk B 4 (.ref aE) E) (okP:FnOk B 4 (.ref ad.pf) P):
  GlOk B 4 (G1 T E P) (glob (kk 3)) (glob (kk 0)) where
 g:=env_g R N
 b:=env_b R N
 og:=env_away R N (a:=3) (aw 2 rfl)
 ob:=env_away R N (a:=0) (aw 0 rfl)
 fn:=fun g F h=>by
  have gl:=List.map_inj_left.mp (env_look R N).2.2.1
  rcases ite_some (show (if g="in_table_b1" then some b1F else if g="map_table_b3" then some (b3F T) else if g="_ellipsis_match" then some E else if g="_Accumulator" then some ctorF0 else none)=some F from h) with⟨e,h⟩ | ⟨_,h⟩
  ·obtain rfl:=Option.some.inj h
   exact⟨_,by rw[e]; exact gl _ hB,((top_ok R N (gl0 R N) hB nB).mono (by decide)).le lB⟩
  rcases ite_some h with⟨e,h⟩ | ⟨_,h⟩
  ·obtain rfl:=Option.some.inj h
   exact⟨_,by rw[e]; exact gl _ hM,((top_ok R N (gl0 R N) hM nM).mono (by decide)).le lM⟩
  rcases ite_some h with⟨e,h⟩ | ⟨_,h⟩
  ·obtain rfl:=Option.some.inj h
   exact⟨_,by rw[e]; exact gl _ hE,okE⟩
  obtain⟨e,h⟩:=grd_some h
  obtain rfl:=Option.some.inj h
  have e4:=(env_look R N).2.2.2.1
  exact⟨.ref B.cls,by rw[e,N.cls]; exact nthE e4 0 rfl rfl,(ctorM_ok R N 2).mono (by decide)⟩
 con:=fun g v h=>(gl0 R N).con g v h
 set:=fun g S h=>nos h
 tab:=fun g S h=>nos h
 bg:=(gl0 R N).bg
 meth:=fun m F h=>by
  rcases ite_some (show (if m="push" then some pushF else if m="pop" then some popF else if m="part_count" then some partF else if m="pop_from" then some P else none)=some F from h) with⟨e,h⟩ | ⟨_,h⟩
  ·obtain rfl:=Option.some.inj h
   subst e
   exact⟨_,((push_ok R N nP).mono (by decide)).le lP,fun A E ρ σ s i a c di xs pl Q x hc hd ha hok q=>env_sub R N x hc hd ha hok (env_find R N).2.2.2.2.2.2.2.1 (env_type R N).2.2.1 (by decide) q⟩
  rcases ite_some h with⟨e,h⟩ | ⟨_,h⟩
  ·obtain rfl:=Option.some.inj h
   subst e
   exact⟨_,(popM_ok R N).mono (by decide),fun A E ρ σ s i a c di xs pl Q x hc hd ha hok q=>env_sub R N x hc hd ha hok (env_find R N).2.2.2.2.2.2.2.2.1 (env_type R N).2.2.2.1 (by decide) q⟩
  rcases ite_some h with⟨e,h⟩ | ⟨_,h⟩
  ·obtain rfl:=Option.some.inj h
   subst e
   exact⟨_,(partM_ok R N 3),fun A E ρ σ s i a c di xs pl Q x hc hd ha hok q=>env_sub R N x hc hd ha hok (env_find R N).2.2.2.2.2.2.2.2.2.1 (env_type R N).2.2.2.2.1 (by decide) q⟩
  obtain⟨e,h⟩:=grd_some h
  obtain rfl:=Option.some.inj h
  subst e
  exact⟨_,okP,fun A E ρ σ s i a c di xs pl Q x hc hd ha hok q=>env_sub R N x hc hd ha hok (env_find R N).2.2.2.2.2.2.2.2.2.2.2.2 (env_type R N).2.2.2.2.2.2.2 (by decide) q⟩
 lenA:=fun A ρ σ s args vals v σ' Rm x r h=>nos h
 strA:=fun A ρ σ s args vals v σ' Rm x r h=>nos h
theorem gl2 {E P:Fn}(g1:GlOk B 4 (G1 T E P) (glob (kk 3)) (glob (kk 0))){own:Str→Option Fn}(k:Nat)(hk:4≤k)(ho:∀ f F,own f=some F→∃ a,(f,a)∈ad.tops∧FnOk B k (.ref a) F):GlOk B k (G2 T E P own) (glob (kk 3)) (glob (kk 0)) where
 g:=g1.g
 b:=g1.b
 og:=g1.og
 ob:=g1.ob
 fn:=fun g F h=>by
  have h':(own g).or ((G1 T E P).fn g)=some F:=h
  cases e:own g with
  | some F'=>
   rw[e] at h'
   obtain rfl:F'=F:=Option.some.inj h'
   obtain⟨a,ha,hF⟩:=ho g _ e
   exact⟨_,List.map_inj_left.mp (env_look R N).2.2.1 _ ha,hF⟩
  | none=>
   rw[e] at h'
   obtain⟨f,h1,h2⟩:=g1.fn g F h'
   exact⟨f,h1,h2.mono hk⟩
 con:=g1.con
 set:=g1.set
 tab:=g1.tab
 bg:=g1.bg
 meth:=fun m F h=>by
  obtain⟨f,h1,h2⟩:=g1.meth m F h
  exact⟨f,h1.mono hk,h2⟩
 lenA:=fun A ρ σ s args vals v σ' Rm x r h=>g1.lenA A ρ σ s args vals v σ' (Rm.mono hk) x r h
 strA:=fun A ρ σ s args vals v σ' Rm x r h=>g1.strA A ρ σ s args vals v σ' (Rm.mono hk) x r h
end
theorem gp' {β:Type}{c:Prop} [Decidable c] {x:Option β}(h:c):grd c x=x:=if_pos h
noncomputable def ifT':List Stmt→Expr
 | .If t _ _ _::_=>t
 | _=> .Name "" default
theorem lst0 {α:Type}{l:List α}(h:l.length=0):l=[]:=List.length_eq_zero_iff.mp h
theorem lstS {α:Type}{n:Nat}{l:List α}(h:l.length=n+1):∃ a t,l=a::t∧t.length=n:=by
 cases l with
 | nil=>cases h
 | cons a t=>exact⟨a,t,rfl,Nat.succ.inj h⟩
theorem lst1 {α:Type}{l:List α}(h:l.length=1):∃ a,l=[a]:=by
 obtain⟨a,t,e,h⟩:=lstS h
 exact⟨a,by rw[e,lst0 h]⟩
theorem lst2 {α:Type}{l:List α}(h:l.length=2):∃ a b,l=[a,b]:=by
 obtain⟨a,t,e,h⟩:=lstS h
 obtain⟨b,e2⟩:=lst1 h
 exact⟨a,b,by rw[e,e2]⟩
theorem lst3 {α:Type}{l:List α}(h:l.length=3):∃ a b c,l=[a,b,c]:=by
 obtain⟨a,t,e,h⟩:=lstS h
 obtain⟨b,c,e2⟩:=lst2 h
 exact⟨a,b,c,by rw[e,e2]⟩
theorem lst4 {α:Type}{l:List α}(h:l.length=4):∃ a b c d,l=[a,b,c,d]:=by
 obtain⟨a,t,e,h⟩:=lstS h
 obtain⟨b,c,d,e2⟩:=lst3 h
 exact⟨a,b,c,d,by rw[e,e2]⟩
theorem binds1_of {R:FR}(h:∀ (n q:Str) (b:FuncBody) (sc:Scope) (g:Addr) (cl:List (Str×Addr)) (kw doc pm:Value) (an:Option Addr) (code ct:Value) (bt:Addr) (v:Value),bindArgs ⟨n,q,R.args,b,sc,g,cl,.none,kw,doc,pm,an,code,ct,bt⟩ ⟨[v],[]⟩=pure ([("self",v)]:List (Str×Value))):Binds1 R:=by
 intro fd hp hd v
 obtain⟨n,q,pr,b,sc,g,cl,df,kw,doc,pm,an,code,ct,bt⟩:=fd
 dsimp only at hp hd
 subst hp; subst hd
 exact h ..
theorem binds_of1 {R:FR}(hl:R.d.params.length=1)(h:∀ (n q:Str) (b:FuncBody) (sc:Scope) (g:Addr) (cl:List (Str×Addr)) (kw doc pm:Value) (an:Option Addr) (code ct:Value) (bt:Addr) (v:Value),bindArgs ⟨n,q,R.args,b,sc,g,cl,.none,kw,doc,pm,an,code,ct,bt⟩ ⟨[v],[]⟩=pure (R.d.params.zip [v])):Binds R:=by
 intro fd hp hd vals hv
 obtain⟨n,q,pr,b,sc,g,cl,df,kw,doc,pm,an,code,ct,bt⟩:=fd
 dsimp only at hp hd
 subst hp; subst hd
 rw[hl] at hv
 obtain⟨v,rfl⟩:=lst1 hv
 exact h ..
theorem binds_of2 {R:FR}(hl:R.d.params.length=2)(h:∀ (n q:Str) (b:FuncBody) (sc:Scope) (g:Addr) (cl:List (Str×Addr)) (kw doc pm:Value) (an:Option Addr) (code ct:Value) (bt:Addr) (v w:Value),bindArgs ⟨n,q,R.args,b,sc,g,cl,.none,kw,doc,pm,an,code,ct,bt⟩ ⟨[v,w],[]⟩=pure (R.d.params.zip [v,w])):Binds R:=by
 intro fd hp hd vals hv
 obtain⟨n,q,pr,b,sc,g,cl,df,kw,doc,pm,an,code,ct,bt⟩:=fd
 dsimp only at hp hd
 subst hp; subst hd
 rw[hl] at hv
 obtain⟨v,w,rfl⟩:=lst2 hv
 exact h ..
theorem binds_of3 {R:FR}(hl:R.d.params.length=3)(h:∀ (n q:Str) (b:FuncBody) (sc:Scope) (g:Addr) (cl:List (Str×Addr)) (kw doc pm:Value) (an:Option Addr) (code ct:Value) (bt:Addr) (v w x:Value),bindArgs ⟨n,q,R.args,b,sc,g,cl,.none,kw,doc,pm,an,code,ct,bt⟩ ⟨[v,w,x],[]⟩=pure (R.d.params.zip [v,w,x])):Binds R:=by
 intro fd hp hd vals hv
 obtain⟨n,q,pr,b,sc,g,cl,df,kw,doc,pm,an,code,ct,bt⟩:=fd
 dsimp only at hp hd
 subst hp; subst hd
 rw[hl] at hv
 obtain⟨v,w,x,rfl⟩:=lst3 hv
 exact h ..
theorem binds_of4 {R:FR}(hl:R.d.params.length=4)(h:∀ (n q:Str) (b:FuncBody) (sc:Scope) (g:Addr) (cl:List (Str×Addr)) (kw doc pm:Value) (an:Option Addr) (code ct:Value) (bt:Addr) (v w x y:Value),bindArgs ⟨n,q,R.args,b,sc,g,cl,.none,kw,doc,pm,an,code,ct,bt⟩ ⟨[v,w,x,y],[]⟩=pure (R.d.params.zip [v,w,x,y])):Binds R:=by
 intro fd hp hd vals hv
 obtain⟨n,q,pr,b,sc,g,cl,df,kw,doc,pm,an,code,ct,bt⟩:=fd
 dsimp only at hp hd
 subst hp; subst hd
 rw[hl] at hv
 obtain⟨v,w,x,y,rfl⟩:=lst4 hv
 exact h ..
set_option maxHeartbeats 0
noncomputable abbrev p3:Program:=PySem.Challenge.pw_wa0042_01
noncomputable def dictAt (B:List Stmt)(i:Nat):DictStmt:=match B[i]? with
 | some st=>match st with
  | .Assign ts v ap=>match ts with
   | [t]=>match t with
    | .Name x px=>match v with
     | .Dict ks vs dp=>⟨x,px,ks,vs,dp,ap⟩
     | _=>⟨"",default,[],[],default,default⟩
    | _=>⟨"",default,[],[],default,default⟩
   | _=>⟨"",default,[],[],default,default⟩
  | _=>⟨"",default,[],[],default,default⟩
 | none=>⟨"",default,[],[],default,default⟩
noncomputable def bh3:List Stmt:=behindTheImports p3
noncomputable def g13:List Stmt:=bh3.take 10
noncomputable def g23:List Stmt:=bh3.drop 11
noncomputable def d3:DictStmt:=dictAt bh3 10
noncomputable def tbl3:List (Int×Str):=(constPairs d3.keys d3.values).getD []
theorem hB3:behindTheImports p3=g13++d3.stmt::g23:=by kernel_rfl!
theorem hc3:constPairs d3.keys d3.values=some tbl3:=by kernel_rfl!
theorem len3:tbl3.length=650:=by kernel_rfl!
noncomputable def wf (w:World)(b1 b2:Bool):World:=(w.withFollow "set-order" b1).withFollow "special-get-raises" b2
theorem eA3 (w:World):okB tyA (runA p3 w)=true:=by kernel_rfl!
set_option maxHeartbeats 0
noncomputable def ad3:Ad:=⟨108,107,32,45,52,68,105,75,82,60,37,53,120,131,[("in_table_b1",130),("map_table_b3",176),("_ellipsis_match",28),("_law_spelled",183),("_law_unseen",190),("_law_folded",195),("_law_laps",202),("_law_grown",209),("_law_cuts",214),("law",219)]⟩
theorem r3_part:ShPart (mPart p3):=⟨_,_,_,_,_,rfl,rfl⟩
theorem r3_init:ShInit (mInit p3):=⟨_,_,_,_,_,_,_,_,_,rfl,rfl⟩
theorem r3_pop:ShPop (mPop p3):=by
 refine⟨_,_,_,_,_,_,_,_,rfl,rfl,fun T σ i di c xs hc hd hok hl=>?_,fun T cx σ=>?_⟩
 ·have e:isTK (G0 T) 100 ⟨(mPop p3).d.names,[("self",.lst i)]⟩ σ (ifT' ((mPop p3).body)) (fun b s=>some (b,s))=grd (kindAt σ (.lst i)=kindAt σ (.lst i)∧accOk σ (.lst i)=true) (callMK (G0 T) (.lst i) "part_count" [] σ fun v σ'=>cmpK .Eq σ' v (.int 0) fun t=>some (t,σ')):=by kernel_rfl!
  refine Eq.trans e ?_
  rw[gp' ⟨rfl,hok⟩]
  have e2:callMK (G0 T) (.lst i) "part_count" [] σ (fun v σ'=>cmpK .Eq σ' v (.int 0) fun t=>some (t,σ'))=liftK (partF [.lst i] σ) (fun v σ'=>cmpK .Eq σ' v (.int 0) fun t=>some (t,σ')):=by
   obtain⟨ver,d⟩:=c
   dsimp only at hd
   subst hd
   show opt σ[i]? _=_
   rw[hc]
   rfl
  rw[e2]
  have e3:partF [.lst i] σ=some (.int xs.length,σ):=by
   show opt σ[i]? _=_
   rw[hc]
   show accD c.d _=_
   rw[hd]
   exact if_pos (Nat.le_trans hl (by decide))
  rw[e3]
  show some (decide ((xs.length:Int)=0),σ)=_
  cases xs with
  | nil=>rfl
  | cons a b=>rw[decide_eq_false (by simp; omega)]; rfl
 ·kernel_rfl!
theorem r3_len:ShLen (mLen p3):=⟨_,_,_,_,_,_,_,_,_,_,_,_,_,_,_,_,_,_,_,rfl,by kernel_rfl!,by kernel_rfl!,⟨rfl,fun env=>by kernel_rfl!,by decide+kernel,by kernel_rfl!,by kernel_rfl!,by kernel_rfl!,rfl,by kernel_rfl!⟩⟩
theorem r3_str:ShStr (mStr p3):=⟨_,_,_,_,_,_,_,_,_,_,_,_,_,_,_,_,_,_,rfl,by kernel_rfl!,by kernel_rfl!,⟨rfl,fun env=>by kernel_rfl!,by decide+kernel,by kernel_rfl!,by kernel_rfl!,by kernel_rfl!,rfl,by kernel_rfl!⟩,by kernel_rfl!,by kernel_rfl!⟩
theorem r3_partB:Binds1 (mPart p3):=binds1_of (by intros; kernel_rfl!)
theorem r3_popB:Binds1 (mPop p3):=binds1_of (by intros; kernel_rfl!)
theorem r3_lenB:Binds1 (mLen p3):=binds1_of (by intros; kernel_rfl!)
theorem r3_strB:Binds1 (mStr p3):=binds1_of (by intros; kernel_rfl!)
theorem r3_initB:BindsI (mInit p3):=by
 intro fd T hp hd s o n t x ho hs
 obtain⟨nm,q,pr,b,sc,g,cl,df,kw,doc,pm,an,code,ct,bt⟩:=fd
 dsimp only at hp hd
 subst hp; subst hd
 exact⟨BindsTo.of_defaults rfl ho hs rfl rfl,fun i u=>BindsTo.of_defaults rfl ho hs rfl rfl⟩
theorem r3_pushB:Binds (mPush p3):=binds_of3 (by kernel_rfl!) (by intros; kernel_rfl!)
theorem r3_topsB:∀ x∈ad3.tops,Binds (topR p3 x.1):=by
 intro x hx
 unfold ad3 at hx
 simp only[List.mem_cons,List.not_mem_nil,or_false] at hx
 rcases hx with rfl | rfl | rfl | rfl | rfl | rfl | rfl | rfl | rfl | rfl
 ·exact binds_of1 (by kernel_rfl!) (by intros; kernel_rfl!)
 ·exact binds_of1 (by kernel_rfl!) (by intros; kernel_rfl!)
 ·exact binds_of2 (by kernel_rfl!) (by intros; kernel_rfl!)
 ·exact binds_of2 (by kernel_rfl!) (by intros; kernel_rfl!)
 ·exact binds_of1 (by kernel_rfl!) (by intros; kernel_rfl!)
 ·exact binds_of4 (by kernel_rfl!) (by intros; kernel_rfl!)
 ·exact binds_of1 (by kernel_rfl!) (by intros; kernel_rfl!)
 ·exact binds_of1 (by kernel_rfl!) (by intros; kernel_rfl!)
 ·exact binds_of1 (by kernel_rfl!) (by intros; kernel_rfl!)
 ·exact binds_of1 (by kernel_rfl!) (by intros; kernel_rfl!)
theorem r3_tops:∀ x∈ad3.tops,frOk (topR p3 x.1)=true:=by
 have h:ad3.tops.all (fun x=>frOk (topR p3 x.1))=true:=by kernel_rfl!
 exact List.all_eq_true.mp h
theorem r3:PrOk p3 ad3 where
 top:=by kernel_rfl!
 part:=r3_part
 partS:=by kernel_rfl!
 partP:=by kernel_rfl!
 partB:=r3_partB
 pop:=r3_pop
 popS:=by kernel_rfl!
 popP:=by kernel_rfl!
 popB:=r3_popB
 init:=r3_init
 initS:=by kernel_rfl!
 initP:=by kernel_rfl!
 initB:=r3_initB
 len:=r3_len
 lenM:=by kernel_rfl!
 lenP:=by kernel_rfl!
 lenB:=r3_lenB
 str:=r3_str
 strM:=by kernel_rfl!
 strP:=by kernel_rfl!
 strB:=r3_strB
 pushF:=by kernel_rfl!
 pushB:=r3_pushB
 tops:=r3_tops
 topsB:=r3_topsB
 away:=by decide+kernel
 codes:=by decide
 b3:=by decide
theorem r3_b1 (T:Int→Option Str):Le b1F (runD (G0 T) 50 (topR p3 "in_table_b1").d):=by
 intro args σ r h
 obtain⟨c,e,h1⟩:=chrOf_some h
 subst e
 obtain rfl:=Option.some.inj h1
 rw[← runDK_eq]
 kernel_rfl!
noncomputable abbrev dM3:DefP:=(topR p3 "map_table_b3").d
theorem r3_m0 {β:Type}(T:Int→Option Str)(c:Nat)(σ:Sto)(k:Fl→Cx→Sto→Option β):exK (G0 T) 49 ⟨dM3.names,[("code",.str ⟨#[c]⟩)]⟩ σ (stAt dM3 0) k=match T (c:Int) with
 | some x=>k .nxt ⟨dM3.names,[("r",.str x),("code",.str ⟨#[c]⟩)]⟩ σ
 | none=>k .nxt ⟨dM3.names,[("r",.none),("code",.str ⟨#[c]⟩)]⟩ σ:=by kernel_rfl!
theorem r3_m1 {β:Type}(T:Int→Option Str)(c:Nat)(x:Str)(σ:Sto)(k:Fl→Cx→Sto→Option β):exK (G0 T) 48 ⟨dM3.names,[("r",.str x),("code",.str ⟨#[c]⟩)]⟩ σ (stAt dM3 1) k=k (.ret (.str x)) ⟨dM3.names,[("r",.str x),("code",.str ⟨#[c]⟩)]⟩ σ:=by kernel_rfl!
theorem r3_m1' {β:Type}(T:Int→Option Str)(c:Nat)(σ:Sto)(k:Fl→Cx→Sto→Option β):exK (G0 T) 48 ⟨dM3.names,[("r",.none),("code",.str ⟨#[c]⟩)]⟩ σ (stAt dM3 1) k=k .nxt ⟨dM3.names,[("r",.none),("code",.str ⟨#[c]⟩)]⟩ σ:=by kernel_rfl!
theorem r3_m2 {β:Type}(T:Int→Option Str)(c:Nat)(r:PV)(σ:Sto)(k:Fl→Cx→Sto→Option β):exK (G0 T) 47 ⟨dM3.names,[("r",r),("code",.str ⟨#[c]⟩)]⟩ σ (stAt dM3 2) k=grd ((Txt.lower ⟨#[c]⟩).length≤100000) (k (.ret (.str (Txt.lower ⟨#[c]⟩))) ⟨dM3.names,[("r",r),("code",.str ⟨#[c]⟩)]⟩ σ):=by kernel_rfl!
theorem r3_mB:dM3.body=[stAt dM3 0,stAt dM3 1,stAt dM3 2]:=by kernel_rfl!
theorem r3_mP:dM3.params=(["code"]:List Str):=by kernel_rfl!
theorem r3_b3 (T:Int→Option Str):Le (b3F T) (runD (G0 T) 50 dM3):=by
 intro args σ r h
 obtain⟨c,e,h1⟩:=chrOf_some h
 subst e
 obtain⟨x,hx,h2⟩:=opt_some h1
 obtain rfl:=Option.some.inj h2
 have e0:=fun k=>r3_m0 (β:=PV×Sto) T c σ k
 rw[← runDK_eq,runDK_at (le:=[("code",.str ⟨#[c]⟩)]) r3_mP rfl rfl,r3_mB]
 unfold mapT at hx
 cases hy:T (c:Int) with
 | some y=>
  rw[hy] at hx e0
  obtain rfl:=Option.some.inj hx
  exact seqN e0 (seqR (fun k=>r3_m1 T c y σ k) rfl)
 | none=>
  rw[hy] at hx e0
  obtain⟨hlen,hx⟩:=grd_some (show grd ((Txt.lower ⟨#[c]⟩).length≤100000) (some (Txt.lower ⟨#[c]⟩))=some x from hx)
  obtain rfl:=Option.some.inj hx
  exact seqN e0 (seqN (fun k=>r3_m1' T c σ k) (seqR (fun k=>(r3_m2 T c _ σ k).trans (gp' hlen)) rfl))
noncomputable abbrev dP3:DefP:=(mPush p3).d
theorem r3_p0 {β:Type}(T:Int→Option Str)(i:Nat)(a b:PV)(σ:Sto)(k:Fl→Cx→Sto→Option β):exK (G0 T) 49 ⟨dP3.names,[("self",.lst i),("fws",a),("string",b)]⟩ σ (stAt dP3 0) k=
  grd (kindAt σ (.lst i)=kindAt σ (.lst i)∧accOk σ (.lst i)=true) (callMK (G0 T) (.lst i) "append" [.tup [a,b]] σ fun _ σ'=>k .nxt ⟨dP3.names,[("self",.lst i),("fws",a),("string",b)]⟩ σ'):=by kernel_rfl!
theorem r3_pB:dP3.body=[stAt dP3 0]:=by kernel_rfl!
theorem r3_pP:dP3.params=(["self","fws","string"]:List Str):=by kernel_rfl!
theorem r3_push (T:Int→Option Str):Le pushF (runD (G0 T) 50 dP3):=by
 intro args σ r h
 obtain⟨v,a,b,e1,h1⟩:=three_some h
 obtain⟨i,e2,h2⟩:=onLst_some h1
 subst e1 e2
 obtain⟨hacc,h3⟩:=grd_some h2
 obtain⟨⟨ver,d⟩,hc,h4⟩:=opt_some h3
 obtain⟨di,xs,e3,h5⟩:=accD_some h4
 obtain rfl:d=_:=e3
 obtain⟨hl,h6⟩:=grd_some h5
 obtain rfl:=Option.some.inj h6
 have e4:appendF [.lst i,.tup [a,b]] σ=some (PV.none,setCell σ i (.acc di (xs++[PV.tup [a,b]]))):=by
  show opt σ[i]? _=_
  rw[hc]
  exact if_pos hl
 rw[← runDK_eq,runDK_at (le:=[("self",.lst i),("fws",a),("string",b)]) r3_pP rfl rfl,r3_pB,exsK_cons,r3_p0,gp' ⟨rfl,hacc⟩]
 show opt σ[i]? _=_
 rw[hc]
 show liftK (appendF [.lst i,.tup [a,b]] σ) _=_
 rw[e4]
 rfl
theorem has_int {R:WRecords}{x:WData}(h:WShape.has R x .int=true):∃ i,x= .int i:=by
 cases x with
 | int i=>exact⟨i,rfl⟩
 | _=>cases h
theorem ints_of {R:WRecords}:∀ {xs:List WData},WShape.hasItems R xs .int=true→∃ l:List Int,xs=l.map .int
 | [],_=>⟨[],rfl⟩
 | x::xs,h=>by
  obtain⟨h1,h2⟩:=Bool.and_eq_true _ _▸(h:(WShape.has R x .int&&WShape.hasItems R xs .int)=true)
  obtain⟨l,e⟩:=ints_of h2
  obtain⟨i,e1⟩:=has_int h1
  exact⟨i::l,e1▸e▸rfl⟩
theorem well_ints {P:Params}{B:Bs}{ρ:List Addr}{h:Heap}:∀ {l:List Int} {vs:List Value},WellAll P h vs (l.map .int)→VRs B ρ h (l.map .int) vs
 | [],_,w=>by cases w; exact rfl
 | i::l,_,w=>by
  cases w with
  | cons a b=>
   cases a
   exact⟨_,_,rfl,⟨_,rfl⟩,well_ints b⟩
structure Behind (p:Program) (ad:Ad) (tbl:List (Int×Str)) (w:World) (os:OsState) (s₁:Shared):Prop where
 look:TopLook p w.params s₁.heap
 same:s₁.os=os
 gens:s₁.gens=#[]
 life:s₁.heap.life=(boot_heap w.params).life
 run:∃ n t,schedN (denote table) p w n (.single ⟨boot_heap w.params,#[],boot_drawn,boot_toks,os⟩ (topStub p))= .running (.single s₁ t)∧through t=true
 kk:∃ kk,lookV ad kk=lookW p ad∧∀ a o,kk a=some o→s₁.heap.get? a=some o
 tab:∃ es,IDict s₁.heap ad.b3 es∧Paired isEnt tbl es.toList
structure LawIs (l:OpenLaw):Prop where
 name:l.name="law"
 writes:l.writes=false
 most:l.most=some 63
 bound:l.bound=none
noncomputable def preF (o:Option Bool):Option WData:=match (match o.map WData.bool with
 | some (.bool b)=>some (WData.bool (!b))
 | _=>none) with
 | some (.bool false)=>some (.bool false)
 | some (.bool true)=>some (.bool true)
 | _=>none
theorem has_list {xs:List WData}{args:List WData}(h:WShape.hasAll [] args [.list .int]=true):∃ script:List Int,args=[.list (script.map .int)]:=by
 cases args with
 | nil=>cases h
 | cons a r=>
  obtain⟨h1,h2⟩:=Bool.and_eq_true _ _▸(h:(WShape.has [] a (.list .int)&&WShape.hasAll [] r [])=true)
  cases r with
  | cons _ _=>cases h2
  | nil=>
   cases a with
   | list xs=>
    obtain⟨l,e⟩:=ints_of (R:=[]) (xs:=xs) ((Bool.or_false _).symm.trans (show (WShape.hasItems [] xs .int || false)=true from h1))
    exact⟨l,by rw[e]⟩
   | _=>cases h1
theorem pre_of {l:OpenLaw}(L:LawIs l){args:List WData}(h:l.row.toRowW.claim.pre args=true):∃ script:List Int,args=[.list (script.map .int)]∧script.length≤63:=by
 have h':(WShape.hasAll [] args [.list .int]&&l.pre.holds [] { args:=args })=true:=h
 rw[Bool.and_eq_true] at h'
 obtain⟨h1,h2⟩:=h'
 obtain⟨script,e⟩:=has_list (xs:=[]) h1
 refine⟨script,e,?_⟩
 subst e
 unfold OpenLaw.pre at h2
 rw[L.most,L.bound] at h2
 have e:∀ xs:List WData,WTm.value [] (.and (.not (.lt (.lit (.int (63:Nat))) (.len (.arg 0)))) (.lit (.bool true))) { args:=[.list xs] }=preF (some (decide ((63:Int) < (xs.length:Int)))):=fun xs=>by kernel_rfl!
 refine Nat.le_of_not_lt fun hl=>?_
 have hd:decide ((63:Int) < ((script.map WData.int).length:Int))=true:=decide_eq_true (by rw[List.length_map]; exact Int.ofNat_lt.mpr hl)
 have h3:=e (script.map .int)
 rw[hd] at h3
 unfold WTm.holds at h2
 rw[h3] at h2
 cases h2
theorem callerR:Room 7 callerA:=⟨rfl,by decide+kernel,by decide+kernel⟩
section
variable {p:Program}{ad:Ad}{kk:Nat→Option Obj}{B:Bs}{T:Int→Option Str}(R:PrOk p ad)(N:Env p ad kk B T)
include R N
theorem env_glob {n:Str}{a:Nat}(hL:(n,a)∈ad.tops):glob (kk 3) n=some (.ref a):=by
 have e:=(env_look R N).2.2.1
 unfold lv3 lw3 at e
 exact List.map_inj_left.mp e _ hL
theorem env_tab {b:Nat}(h:b∈ad.tb):kk b=some { cls:=Value.none,data:= .fields #[] }:=by
 have e:=(env_look R N).2.2.2.2.2.2.2.2.1
 unfold lv9 lw9 at e
 obtain⟨e1,e2⟩:=List.cons.inj e
 rcases List.mem_cons.mp h with rfl | h
 ·exact e1
 ·rw[List.mem_singleton.mp h]; exact (List.cons.inj e2).1
theorem env_inv (hk:∀ a o,kk a=some o→B.h₀.get? a=some o):B.inv B.h₀:=(N.inv _).mpr fun cp hcp=>by
 have hP:cp.2∈ad.tb:=N.tb▸((env_codes R N).tb cp.2).mpr ⟨cp.1,hcp⟩
 have hb:codeOkB (kk cp.1) none cp.2=true:=by
  have e8:=(env_bools R N).2.2.2.2
  rcases List.mem_cons.mp hcp with rfl | h
  ·exact e8.1
  ·rw[List.mem_singleton.mp h]; exact e8.2
 cases hc:kk cp.1 with
 | none=>rw[hc] at hb; exact absurd hb Bool.false_ne_true
 | some oc=>
  rw[hc] at hb
  exact codeOk_of (hk _ _ hc) (hk _ _ (env_tab R N hP)) hb fun e=>(env_codes R N).off cp hcp (by rw[e,N.tb]; exact hP)
theorem env_old {ρ':List Addr}{σ':Sto}{s₂ s':Shared}{a:Addr}{c:Cell}(x':St B ρ' σ' s')(ev:Evo B [] [a] [c] s₂.heap ρ' σ' s'.heap)(hσ:σ'[0]?=some c)(hi:B.inv s₂.heap)(hk:∀ b o,kk b=some o→s₂.heap.get? b=some o):OldK s₂.heap s'.heap:=by
 refine⟨fun b o hb=>?_,fun b o hb=>ev.kp.live b o hb⟩
 by_cases hba:b=a
 ·subst hba
  obtain⟨c',hc',hv1,hv2⟩:=ev.ver 0 _ rfl
  have e:c'=c:=Option.some.inj (hc'.symm.trans hσ)
  exact .inl ((hv2 (e▸rfl)).2 b rfl o hb)
 ·by_cases hbt:b∈ad.tb
  ·obtain⟨c,hc⟩:=((env_codes R N).tb b).mp (N.tb▸hbt)
   obtain⟨ps,h1,h2⟩:=(N.inv _).mp hi _ hc
   obtain⟨ps',h1',h2'⟩:=(N.inv _).mp x'.inv _ hc
   obtain rfl:=Option.some.inj (hb.symm.trans (hk _ _ (env_tab R N hbt)))
   exact .inr (.inl ⟨h2.isCodeTable,rfl,#[],ps',rfl,by simpa using h2'.2⟩)
  ·exact .inl (ev.kp.keep b o hb (fun h=>hba (List.mem_singleton.mp h)) (N.tb▸hbt) (fun h=>nomatch h))
end
theorem st_laid {B:Bs}{s₂:Shared}{a:Addr}{us:List Value}{n:Nat}{script:List Int}(os:s₂.os=B.os)(gens:s₂.gens=#[])(base:∀ b o,B.h₀.get? b=some o→s₂.heap.get? b=some o)(hnew:B.h₀.get? a=none)(hT:a∉B.Tb)
  (ha:s₂.heap.get? a=some { cls:= .type "list",data:= .seq us.toArray n }) (hus:VRs B [a] s₂.heap (script.map .int) us) (inv:B.inv s₂.heap):St B [a] [⟨0,.lst (script.map .int)⟩] s₂ where
 os:=os
 gens:= .of_eq gens
 base:=fun b o ho _=>base b o ho
 len:=rfl
 nodup:=List.nodup_cons.mpr ⟨List.not_mem_nil,List.nodup_nil⟩
 fresh:=fun b hb=>List.mem_singleton.mp hb▸hnew
 off:=fun b hb=>List.mem_singleton.mp hb▸hT
 cells:=fun i c b hc hb=>by
  cases i with
  | succ i=>exact nos hc
  | zero=>
   obtain rfl:=Option.some.inj hc
   obtain rfl:=Option.some.inj hb
   exact⟨us,⟨_,ha⟩,hus⟩
 inv:=inv
noncomputable def lawBs (p:Program)(w:World)(h:Heap)(ad:Ad)(os:OsState):Bs:=⟨p,w,h,ad.tb,os,fun h=>∀ cp∈ad.codes,∃ ps,h.IsCode cp.1 cp.2 ps∧h.TableAt cp.1 cp.2 ps,ad.kc⟩
theorem law_env {p:Program}{ad:Ad}{tbl:List (Int×Str)}{w:World}{os:OsState}{s₁:Shared}{kk:Nat→Option Obj}(R:PrOk p ad)(hlook:lookV ad kk=lookW p ad)(hkk:∀ a o,kk a=some o→s₁.heap.get? a=some o)(tab:∃ es,IDict s₁.heap ad.b3 es∧Paired isEnt tbl es.toList):
  Env p ad kk (lawBs p w s₁.heap ad os) (fun i=>tbl.lookup i) where
 look:=hlook
 has:=fun a o ho _=>hkk a o ho
 prog:=rfl
 tb:=rfl
 cls:=rfl
 inv:=fun h=>Iff.rfl
 tab:=fun h hk=>by
  obtain⟨es,⟨o,ep,ho,hx,hd⟩,hpair⟩:=tab
  have hb3:ad.b3∉ad.tb:=R.away _ (aw 24 rfl)
  exact mapOf_ents (hk _ _ ho hb3) hx hd hpair
theorem laid_one {P:Params}{h:Heap}{Rr:WRecords}{cl:Str→Option Addr}{vs:List Value}{xs:List WData}{as:List Addr}(hw:WellAll P h vs [.list xs])(hr:ReadsAllW Rr cl h vs [.list xs] as):
  ∃ a us ai,vs=[.ref a]∧as=a::ai∧h.get? a=some { cls:= .type "list",data:= .seq us.toArray }∧WellAll P h us xs:=by
 cases hw with
 | cons hv hvr=>
  cases hvr
  cases hv with
  | list ha hus=>
   cases hr with
   | cons r1 r2=>
    cases r1
    exact⟨_,_,_,rfl,rfl,ha,hus⟩
theorem law_go {p:Program}{ad:Ad}{tbl:List (Int×Str)}{w:World}{os:OsState}{s₁ s₂:Shared}{kk:Nat→Option Obj}{F:Fn}{n:Str}{aL:Nat}{script:List Int}{Rr:WRecords}{cl:Str→Option Addr}{vs:List Value}{as:List Addr}{σ':Sto}
  (R:PrOk p ad) (N:Env p ad kk (lawBs p w s₁.heap ad os) fun i=>tbl.lookup i) (hkk:∀ a o,kk a=some o→s₁.heap.get? a=some o) (fn:FnOk (lawBs p w s₁.heap ad os) 7 (.ref aL) F) (hL:(n,aL)∈ad.tops)
  (hF:F [.lst 0] [⟨0,.lst (script.map .int)⟩]=some (.bool true,σ')) (hσ:σ'[0]?=some ⟨0,.lst (script.map .int)⟩)
  (hw:WellAll w.params s₂.heap vs [.list (script.map .int)]) (hr:ReadsAllW Rr cl s₂.heap vs [.list (script.map .int)] as) (hin:In s₁.heap.objs.size s₂.heap.objs.size as) (keeps:∀ b o,s₁.heap.get? b=some o→s₂.heap.get? b=some o) (hos:s₂.os=os) (hg:s₂.gens=#[])
  {α:Type} {t:Value→Sem α} {z:Sem α} {Q:α→Shared→Prop} {E:Value→Shared→Prop} (q:∀ s' ρ',St (lawBs p w s₁.heap ad os) ρ' σ' s'→OldK s₂.heap s'.heap→wpAny (model p w) callerA (t (.bool true)) Q E s'):
  wpAny (model p w) callerA (do match ← nsGet mainNs n with
   | some f=>do let v ← PySem.call f vs; t v
   | none=>z) Q E s₂:=by
 obtain⟨a,us,ai,e1,e2,ha,hus⟩:=laid_one hw hr
 subst e1 e2
 have hsz:s₁.heap.objs.size≤a:=(hin.2.2 a List.mem_cons_self).1
 have hnew:s₁.heap.get? a=none:=by
  cases e:s₁.heap.get? a with
  | none=>rfl
  | some o=>exact absurd (Heap.lt_size e) (Nat.not_lt.mpr hsz)
 have hcodes:=env_inv R N hkk
 have hTnew:a∉(lawBs p w s₁.heap ad os).Tb:=fun hm=>by
  obtain⟨o,ho⟩:=(env_codes R N).ok.tb _ hcodes a hm
  exact nos (hnew.symm.trans ho)
 have hinv₂:(lawBs p w s₁.heap ad os).inv s₂.heap:=fun cp hcp=>(hcodes cp hcp).imp fun ps h=>⟨h.1.keeps keeps,h.2.keeps keeps⟩
 have St₂:=st_laid (B:=lawBs p w s₁.heap ad os) hos hg keeps hnew hTnew ha (well_ints hus) hinv₂
 refine wpAny_bind (wpAny_nsGet (m:=glob (kk 3)) ((env_g R N).at' fun o ho=>keeps _ o ho) ?_)
 rw[env_glob R N hL]
 refine wpAny_bind (wpAny_mono (fn.run callerA [a] [⟨0,.lst (script.map .int)⟩] s₂ [.lst 0] [.ref a] _ σ' callerR St₂ ⟨_,_,rfl,⟨a,rfl,rfl⟩,rfl⟩ hF) (fun v s' hv=>?_) fun _ _ z=>z.elim)
 obtain⟨ρ',x',ev,e⟩:=hv
 obtain rfl:v= .bool true:=e
 exact q s' ρ' x' (env_old R N x' ev hσ hinv₂ fun b o ho=>keeps _ _ (hkk _ _ ho))
theorem law_def {p:Program}{ad:Ad}{tbl:List (Int×Str)}{w:World}{os:OsState}{s₁:Shared}{kk:Nat→Option Obj}{n:Str}{aL:Nat}(R:PrOk p ad)(N:Env p ad kk (lawBs p w s₁.heap ad os) fun i=>tbl.lookup i)(hkk:∀ a o,kk a=some o→s₁.heap.get? a=some o)(hL:(n,aL)∈ad.tops):
  globalOf s₁.heap n=some (.ref aL):=by
 rw[globalOf_glob]
 have e3:=env_glob R N hL
 cases h3:kk 3 with
 | none=>rw[h3] at e3; exact nos e3
 | some o3=>
  rw[h3] at e3
  rw[hkk 3 o3 h3]
  exact e3
theorem law_holds {l:OpenLaw}{ad:Ad}{tbl:List (Int×Str)}{F:Fn}{aL:Nat}(L:LawIs l)(rs:l.row.wellSaid=true)(prom:l.row.toRowW.promised)(bare:l.prog.bare)(ow:opensWell l.prog=true)(fr:frees l.row.toRowW=true)
  (op:opening l.prog=plainProg l.prog.main.scope.names) (fence:∀ s,fenceModules? l.prog s=some s)
  (thed:l.prog.theDef l.name=some ((topR l.prog l.name).args,(topR l.prog l.name).body,(topR l.prog l.name).scope)) (nodef:(topR l.prog l.name).args.defaults=[]) (nokw:kwWritten? (topR l.prog l.name).args.kwonlyargs (topR l.prog l.name).args.kw_defaults=some []) (nm:(topR l.prog l.name).name=l.name∧(topR l.prog l.name).qual=l.name)
  (R:PrOk l.prog ad) (hL:(l.name,aL)∈ad.tops)
  (top:∀ (w:World) (os:OsState),(⟨boot_heap w.params,#[],boot_drawn,boot_toks,os⟩:Shared).asleep→∃ s₁,Behind l.prog ad tbl w os s₁)
  (fn:∀ kk B,Env l.prog ad kk B (fun i=>tbl.lookup i)→FnOk B 7 (.ref aL) F)
  (tr:∀ v (script:List Int),script.length≤1000→∃ σ',F [.lst 0] [⟨v,.lst (script.map .int)⟩]=some (.bool true,σ')∧σ'[0]?=some ⟨v,.lst (script.map .int)⟩):l.row.Holds:=by
 refine⟨rs,prom,⟨bare,ow,rfl⟩,prom.witness,fun w=>?_⟩
 obtain⟨b1,b2⟩:=behind_boot op fence w
 refine⟨b1,fun s hs=>?_⟩
 obtain⟨hf,hz,os,rfl⟩:=b2 s hs
 obtain⟨s₁,T⟩:=top w os hz
 have hT:TopRan l.prog w ⟨boot_heap w.params,#[],boot_drawn,boot_toks,os⟩ s₁:=topLook_ran T.look T.run T.life T.same T.gens
 obtain⟨kk,hlook,hkk⟩:=T.kk
 have N:=law_env (w:=w) (os:=os) R hlook hkk T.tab
 have hz₁:s₁.asleep:=Shared.asleep_of_life T.life hz
 refine⟨_,hf,rfl,s₁,hT,fun n hn=>?_,fun x hx=>(nomatch hx),fun x hx=>(nomatch hx),?_⟩
 ·obtain rfl:n=l.name:=by
   have hn':n∈[l.name]:=hn
   simpa using hn'
  obtain⟨o,fd,ho,hd,I⟩:=(env_top R N hL).get
  refine⟨aL,o,fd,_,_,_,law_def R N hkk hL,hkk _ _ ho,hd,thed,by rw[I.name]; exact nm.1,by rw[I.qual]; exact nm.2,I.args,I.body,I.scope,I.glob,I.clo,I.bt,.inl ⟨nodef,I.dflt⟩,[],nokw,.inl ⟨rfl,I.kw⟩⟩
 ·have tree:callStub l.row.toRowW.name=fun vs=>⟨do match ← nsGet mainNs l.name with
    | some f=>do ret (← PySem.call f vs)
    | none=>unsupported "claim.caller:no-such-global",.builtin "claim.caller" {},default,[]⟩:=rfl
  rw[tree]
  refine ClaimW.callFrom_of_specG (c:=l.row.toRowW.claim) hz₁ T.gens fun args hpre hlay ord hord=>?_
  obtain⟨script,rfl,hsl⟩:=pre_of L hpre
  obtain⟨⟨vs,s₂⟩,hlaid⟩:=Option.isSome_iff_exists.mp (layAllW_isSome (P:=w.params) (ord:=ord) (fun c hc=>by have hc':(WRecords.fields? [] c).isSome=true:=hc; simp[WRecords.fields?] at hc') [.list (script.map .int)] l.row.toRowW.args s₁ (pre_splitW hpre).1)
  have keeps:=layAllW_keeps _ _ _ hlaid
  have hal:=layAllW_rest _ _ _ hlaid
  obtain⟨as,hrd,hin,hold⟩:=reads_layAllW hord _ _ _ hlaid hlay s₂.heap (fun _ _ e=>e)
  have La:Laid l.row.toRowW.records w s₁ s₂ [.list (script.map .int)] vs as:=⟨⟨ord,hord,hlaid⟩,hrd,hin,hold,keeps,hal.1.trans T.gens,hal.2.2.1⟩
  refine⟨vs,s₂,hlaid,?_⟩
  obtain⟨σ',hF,hσ⟩:=tr 0 script (Nat.le_trans hsl (by decide))
  refine law_go R N hkk (fn kk _ N) hL hF hσ La.well hrd hin keeps (hal.2.2.1.trans T.same) (hal.1.trans T.gens) fun s' ρ' x' hold'=>wpAny_pure ?_
  obtain⟨hsame,hu,haf,hap,hmk⟩:=frees_parts fr
  have G:GoodWG l.row.toRowW.claim (classAt s₁.heap) (ExcName.means s₁.heap) [.list (script.map .int)] s₂ (.ok (.ret (.bool true))) s':=
   ⟨.inl ⟨.bool true,.bool true,[],rfl,fun cls=>rfl,.bool true,by kernel_rfl!,fun _=>⟨List.nodup_nil,fun a h=>nomatch h⟩⟩,hold',x'.os.trans (hal.2.2.1.trans T.same).symm,x'.gens⟩
  have z:=G.laid (c:=l.row.toRowW.claim) hsame rfl (ident_freeW hu haf hap) La
  exact⟨_,rfl,z.1,z.2.1,z.2.2,fun q=>absurd (show l.writes=true from q) (by rw[L.writes]; decide)⟩
noncomputable def incr:List Int→Bool
 | []=>true
 | [_]=>true
 | a::b::r=>decide (a < b)&&incr (b::r)
theorem incr_lt:∀ {l:List Int} {a:Int},incr (a::l)=true→∀ x∈l,a < x
 | [],_,_,x,hx=>nomatch hx
 | b::r,a,h,x,hx=>by
  have h':(decide (a < b)&&incr (b::r))=true:=h
  rw[Bool.and_eq_true,decide_eq_true_eq] at h'
  rcases List.mem_cons.mp hx with rfl | hx
  ·exact h'.1
  ·exact Int.lt_trans h'.1 (incr_lt h'.2 x hx)
theorem incr_nodup:∀ {l:List Int},incr l=true→l.Nodup
 | [],_=> .nil
 | [a],_=>by simp
 | a::b::r,h=>by
  have h':(decide (a < b)&&incr (b::r))=true:=h
  rw[Bool.and_eq_true] at h'
  exact List.nodup_cons.mpr ⟨fun hm=>absurd (incr_lt h a hm) (Int.lt_irrefl a),incr_nodup h'.2⟩
noncomputable def headV (p:Program)(ad:Ad)(G1 G2:List Stmt)(d:DictStmt)(c n₀:Nat)(w:World)(p1 q:Pos)(tk:Nat):=
 (okB isNext (runB p w (behindTheImports p) G1 p1),(kB p w (behindTheImports p) G1 p1).n,kget (kB p w (behindTheImports p) G1 p1).kn n₀,
  okB isNext (runC p w (behindTheImports p) G1 d.x d.px G2 c p1 q tk),
  oldAs.map (kget (kC p w (behindTheImports p) G1 d.x d.px G2 c p1 q tk).kn),
  namesOk p (kget (kC p w (behindTheImports p) G1 d.x d.px G2 c p1 q tk).kn 3),
  laidNames.map (glob (kget (kC p w (behindTheImports p) G1 d.x d.px G2 c p1 q tk).kn 3)),
  glob (kget (kC p w (behindTheImports p) G1 d.x d.px G2 c p1 q tk).kn 3) "__builtins__",
  lookV ad (kget (kC p w (behindTheImports p) G1 d.x d.px G2 c p1 q tk).kn))
noncomputable def headW (p:Program)(ad:Ad)(n₀:Nat)(P:Params):=
 (true,n₀,(none:Option Obj),true,oldOs P,true,laidNames.map (bootGlob P),some (Value.ref 4),lookW p ad)
theorem behind_of {p:Program}{ad:Ad}{G1 G2:List Stmt}{d:DictStmt}{tbl:List (Int×Str)}{c:Nat}{w:World}{os:OsState}(hz:(⟨boot_heap w.params,#[],boot_drawn,boot_toks,os⟩:Shared).asleep)
  (hB:behindTheImports p=G1++d.stmt::G2) (hc:constPairs d.keys d.values=some tbl) (hin:incr (tbl.map Prod.fst)=true) (hlen:tbl.length≤100000) (hne:tbl≠[]) (hcc:(tbl.length+16) / 17=c) (hb3:1 < ad.b3)
  (eA:okB tyA (runA p w)=true) (H:∀ p1 q tk,headV p ad G1 G2 d c ad.b3 w p1 q tk=headW p ad ad.b3 w.params):∃ s₁,Behind p ad tbl w os s₁:=by
 have h:=fun p1 q tk=>by
  have e:=H p1 q tk
  unfold headV headW at e
  simp only[Prod.mk.injEq] at e
  exact e
 have wp:=top_wp (os:=os) G1 G2 d tbl ad.b3 hB hc (incr_nodup hin) hlen hne eA (fun p1=>(h p1 default 0).1) (fun p1=>(h p1 default 0).2.1) (fun p1=>(h p1 default 0).2.2.1) hb3 (fun p1 q tk=>by rw[hcc]; exact (h p1 q tk).2.2.2.1)
 obtain⟨s₁,⟨hos,p1,q,tk,es,K,hd,hp⟩,hg,hl,hrun⟩:=ran_of_wp hz wp
 rw[hcc] at K
 obtain⟨_,_,_,_,e5,e6,e7,e8,e9⟩:=h p1 q tk
 generalize hkk:kget (kC p w (behindTheImports p) G1 d.x d.px G2 c p1 q tk).kn=kk at *
 have hget:∀ a o,kk a=some o→s₁.heap.get? a=some o:=fun a o ho=>K.kn a o (hkk▸ho)
 have h3:∃ o,kk 3=some o:=by
  cases ho:kk 3 with
  | none=>rw[ho] at e8; cases e8
  | some o=>exact⟨o,rfl⟩
 obtain⟨o3,ho3⟩:=h3
 have g3:s₁.heap.get? 3=kk 3:=by rw[ho3]; exact hget 3 o3 ho3
 refine⟨s₁,⟨?_,?_,?_,?_⟩,hos,hg,hl,hrun,⟨kk,e9,hget⟩,⟨es,hd,hp⟩⟩
 ·rw[← e5]
  apply List.map_congr_left
  intro a ha
  have hx:kk a∈oldOs w.params:=by rw[← e5]; exact List.mem_map.mpr ⟨a,ha,rfl⟩
  have hs:∃ o,kk a=some o:=by
   unfold oldOs at hx
   simp only[List.mem_cons,List.not_mem_nil,or_false] at hx
   rcases hx with h | h | h | h | h | h | h | h | h | h <;> exact⟨_,h⟩
  obtain⟨o,ho⟩:=hs
  rw[ho]; exact hget a o ho
 ·rw[g3]; exact e6
 ·rw[g3]; exact e7
 ·rw[g3]; exact e8
set_option maxHeartbeats 0
theorem hd3_ff (w:World)(p1 q:Pos)(tk:Nat):headV p3 ad3 g13 g23 d3 39 131 (wf w false false) p1 q tk=headW p3 ad3 131 (wf w false false).params:=by kernel_rfl!
theorem hd3_ft (w:World)(p1 q:Pos)(tk:Nat):headV p3 ad3 g13 g23 d3 39 131 (wf w false true) p1 q tk=headW p3 ad3 131 (wf w false true).params:=by kernel_rfl!
theorem hd3_tf (w:World)(p1 q:Pos)(tk:Nat):headV p3 ad3 g13 g23 d3 39 131 (wf w true false) p1 q tk=headW p3 ad3 131 (wf w true false).params:=by kernel_rfl!
theorem hd3_tt (w:World)(p1 q:Pos)(tk:Nat):headV p3 ad3 g13 g23 d3 39 131 (wf w true true) p1 q tk=headW p3 ad3 131 (wf w true true).params:=by kernel_rfl!
noncomputable def lcE:Expr→Expr
 | .ListComp e _ _ _=>e
 | e=>e
noncomputable def lcG:Expr→Comprehension
 | .ListComp _ (g::_) _ _=>g
 | e=>⟨e,e,[],0⟩
noncomputable def lcT (e:Expr):Expr:=(lcG e).target
noncomputable def lcI (e:Expr):Expr:=(lcG e).iter
noncomputable def lcF (e:Expr):List Expr:=(lcG e).ifs
noncomputable def lcN:Expr→List (Str×NameKind)
 | .ListComp _ _ sc _=>sc.names
 | _=>[]
noncomputable def LcIs (cx:Cx)(e:Expr):Prop:=∀ (β:Type) (G:Gl) (n:Nat) (σ:Sto) (k:PV→Sto→Option β),
  evK G (n+1) cx σ e k=evItK G n cx σ (lcI e) fun items w σ₁=>evCompK G n ⟨lcN e,capt cx (lcN e)⟩ σ₁ (lcE e) (lcT e) (lcF e) w items fun vs σ₂=>grd (vs.length≤100000) (k (.lst σ₂.length) (σ₂++[⟨0,.lst vs⟩]))
section
variable {β:Type}{G:Gl}
theorem evK_lc (n:Nat)(cx:Cx)(σ:Sto)(e:Expr)(k:PV→Sto→Option β)(h:LcIs cx e):
  evK G (n+1) cx σ e k=evItK G n cx σ (lcI e) fun items w σ₁=>evCompK G n ⟨lcN e,capt cx (lcN e)⟩ σ₁ (lcE e) (lcT e) (lcF e) w items fun vs σ₂=>grd (vs.length≤100000) (k (.lst σ₂.length) (σ₂++[⟨0,.lst vs⟩])):=h ..
noncomputable def compB (G:Gl)(n:Nat)(cx':Cx)(σ:Sto)(e:Expr)(K:Option PV→Sto→Option β):Option β:=isTsK G n cx' σ .And (lcF e) fun b σ₁=>match b with
  | true=>evK G n cx' σ₁ (lcE e) fun x σ₂=>K (some x) σ₂
  | false=>K none σ₁
theorem evCompK_nil (n:Nat)(cx:Cx)(σ:Sto)(a b:Expr)(c:List Expr)(w:Option (Nat×Nat))(k:List PV→Sto→Option β)(hw:watch σ w=true):evCompK G (n+1) cx σ a b c w [] k=k [] σ:=by
 show onB (watch σ w) _ none=_
 rw[hw]
 rfl
theorem evCompK_cons (n:Nat)(cx cx':Cx)(σ:Sto)(e:Expr)(w:Option (Nat×Nat))(v:PV)(rest:List PV)(k:List PV→Sto→Option β)(hw:watch σ w=true)(hb:bindT cx (lcT e) v=some cx'):
  evCompK G (n+1) cx σ (lcE e) (lcT e) (lcF e) w (v::rest) k=compB G n cx' σ e fun o σ'=>match o with
   | some x=>evCompK G n cx' σ' (lcE e) (lcT e) (lcF e) w rest fun xs σ''=>k (x::xs) σ''
   | none=>evCompK G n cx' σ' (lcE e) (lcT e) (lcF e) w rest k:=by
 show onB (watch σ w) (opt (bindT cx (lcT e) v) _) none=_
 rw[hw,hb]
 rfl
theorem comp_map1 {N:List (Str×NameKind)}{b:PV→LE}{σ:Sto}{e:Expr}{w:Option (Nat×Nat)}(f:PV→Option PV)(d:Nat)(hw:watch σ w=true):∀ (items:List PV) (u:PV) (n:Nat) (k:List PV→Sto→Option β),
  (∀ v∈items,∀ u,bindT ⟨N,b u⟩ (lcT e) v=some ⟨N,b v⟩)→
  (∀ v∈items,∀ n (K:Option PV→Sto→Option β),compB G (n+d) ⟨N,b v⟩ σ e K=K (f v) σ)→evCompK G (n+(d+1)+items.length) ⟨N,b u⟩ σ (lcE e) (lcT e) (lcF e) w items k=k (items.filterMap f) σ
 | [],u,n,k,_,_=>evCompK_nil (n+d) _ _ _ _ _ _ _ hw
 | v::rest,u,n,k,hb,hf=>by
  rw[show n+(d+1)+(v::rest).length=(n+(d+1)+rest.length)+1 by simp; lia,evCompK_cons _ _ _ _ _ _ _ _ _ hw (hb v List.mem_cons_self u),
   show n+(d+1)+rest.length=(n+1+rest.length)+d by lia,hf v List.mem_cons_self]
  have ih:=fun k=>comp_map1 (w:=w) f d hw rest v n k (fun u hu=>hb u (List.mem_cons_of_mem _ hu)) fun u hu=>hf u (List.mem_cons_of_mem _ hu)
  rw[List.filterMap_cons]
  cases f v with
  | none=>
   simp only
   rw[show (n+1+rest.length)+d=n+(d+1)+rest.length by lia,ih]
  | some x=>
   simp only
   rw[show (n+1+rest.length)+d=n+(d+1)+rest.length by lia,ih]
theorem comp_map {N:List (Str×NameKind)}{L0:LE}{b:PV→LE}{σ:Sto}{e:Expr}{w:Option (Nat×Nat)}(f:PV→Option PV)(d:Nat)(hw:watch σ w=true)(items:List PV)(n:Nat)(k:List PV→Sto→Option β)
  (hb0:∀ v∈items,bindT ⟨N,L0⟩ (lcT e) v=some ⟨N,b v⟩) (hb:∀ v∈items,∀ u,bindT ⟨N,b u⟩ (lcT e) v=some ⟨N,b v⟩)
  (hf:∀ v∈items,∀ n (K:Option PV→Sto→Option β),compB G (n+d) ⟨N,b v⟩ σ e K=K (f v) σ):evCompK G (n+(d+1)+items.length) ⟨N,L0⟩ σ (lcE e) (lcT e) (lcF e) w items k=k (items.filterMap f) σ:=by
 cases items with
 | nil=>exact evCompK_nil (n+d) _ _ _ _ _ _ _ hw
 | cons v rest=>
  rw[show n+(d+1)+(v::rest).length=(n+(d+1)+rest.length)+1 by simp; lia,evCompK_cons _ _ _ _ _ _ _ _ _ hw (hb0 v List.mem_cons_self),
   show n+(d+1)+rest.length=(n+1+rest.length)+d by lia,hf v List.mem_cons_self]
  have ih:=fun k=>comp_map1 (G:=G) (N:=N) (b:=b) (w:=w) f d hw rest v n k (fun u hu=>hb u (List.mem_cons_of_mem _ hu)) fun u hu=>hf u (List.mem_cons_of_mem _ hu)
  rw[List.filterMap_cons]
  cases f v with
  | none=>
   simp only
   rw[show (n+1+rest.length)+d=n+(d+1)+rest.length by lia,ih]
  | some x=>
   simp only
   rw[show (n+1+rest.length)+d=n+(d+1)+rest.length by lia,ih]
noncomputable def joinS:Expr→Str
 | .Call (.Attribute (.Constant (.str s) _ _) _ _) _ _ _=>s
 | _=>""
noncomputable def joinX:Expr→Expr
 | .Call _ (x::_) _ _=>x
 | e=>e
noncomputable def JoinIs (e:Expr):Prop:=∀ (β:Type) (G:Gl) (n:Nat) (cx:Cx) (σ:Sto) (k:PV→Sto→Option β),evK G (n+3) cx σ e k=evK G (n+1) cx σ (joinX e) fun v σ'=>callMK G (.str (joinS e)) "join" [v] σ' k
theorem evK_join (n:Nat)(cx:Cx)(σ:Sto)(e:Expr)(k:PV→Sto→Option β)(h:JoinIs e):evK G (n+3) cx σ e k=evK G (n+1) cx σ (joinX e) fun v σ'=>callMK G (.str (joinS e)) "join" [v] σ' k:=h ..
theorem strsOf_map:∀ (ts:List Str),strsOf (ts.map .str)=some ts
 | []=>rfl
 | t::ts=>by
  show (strsOf (ts.map .str)).map (t::·)=_
  rw[strsOf_map ts]; rfl
theorem join_at (s:Str)(ts:List Str)(σ:Sto)(i:Nat)(k:PV→Sto→Option β)(hi:getL σ i=some (ts.map .str))(hj:JoinOk s ts=true):callMK G (.str s) "join" [.lst i] σ k=k (.str (Txt.join s ts)) σ:=by
 show opt (getL σ i) (fun xs=>opt (strsOf xs) fun ts=>grd (JoinOk s ts=true) (k (.str (Txt.join s ts)) σ))=_
 rw[hi]
 show opt (strsOf (ts.map .str)) _=_
 rw[strsOf_map]
 exact if_pos hj
theorem getL_last (σ:Sto)(v:Nat)(xs:List PV):getL (σ++[⟨v,.lst xs⟩]) σ.length=some xs:=by
 simp[getL]
theorem join_comp {cx:Cx}{σ:Sto}{e:Expr}(b:PV→LE)(f:PV→Option PV)(d:Nat){items:List PV}{ts:List Str}(hj:JoinIs e)(hlc:LcIs cx (joinX e))(n:Nat)(k:PV→Sto→Option β)
  (hit:∀ n (K:List PV→Option (Nat×Nat)→Sto→Option β),evItK G (n+5) cx σ (lcI (joinX e)) K=K items none σ)
  (hb0:∀ v∈items,bindT ⟨lcN (joinX e),capt cx (lcN (joinX e))⟩ (lcT (joinX e)) v=some ⟨lcN (joinX e),b v⟩) (hb:∀ v∈items,∀ u,bindT ⟨lcN (joinX e),b u⟩ (lcT (joinX e)) v=some ⟨lcN (joinX e),b v⟩)
  (hf:∀ v∈items,∀ n (K:Option PV→Sto→Option β),compB G (n+d) ⟨lcN (joinX e),b v⟩ σ (joinX e) K=K (f v) σ)
  (hts:items.filterMap f=ts.map .str) (hl:ts.length≤100000) (hok:JoinOk (joinS e) ts=true):
  evK G (n+(d+10)+items.length) cx σ e k=k (.str (Txt.join (joinS e) ts)) (σ++[⟨0,.lst (ts.map .str)⟩]):=by
 rw[show n+(d+10)+items.length=(n+6+(d+1)+items.length)+3 by lia,evK_join _ _ _ _ _ hj,
  show n+6+(d+1)+items.length+1=(n+7+(d+0)+items.length)+1 by lia,evK_lc _ _ _ _ _ hlc,
  show n+7+(d+0)+items.length=(n+2+d+items.length)+5 by lia,hit]
 rw[show n+2+d+items.length+5=(n+6)+(d+1)+items.length by lia,comp_map (b:=b) f d rfl items _ _ hb0 hb hf,hts]
 unfold grd
 rw[if_pos (by simpa using hl)]
 exact join_at _ _ _ _ _ (getL_last ..) hok
noncomputable def itK {β:Type}(k:List PV→Option (Nat×Nat)→Sto→Option β)(v:PV)(σ₁:Sto):Option β:=match itV v σ₁ with
   | some (items,w,σ₂)=>k items w σ₂
   | none=>none
end
noncomputable def S (l:List Nat):Str:=⟨l.toArray⟩
theorem S_len (l:List Nat):(S l).length=l.length:=by simp[S,Str.length]
theorem S_app (a b:List Nat):S a++S b=S (a++b):=by
 show (⟨a.toArray++b.toArray⟩:Str)=_
 simp[S]
theorem S_inj {a b:List Nat}:S a=S b↔a=b:=by simp[S]
theorem signs_S (l:List Nat):signs (S l)=l.map fun c=> .str ⟨#[c]⟩:=by simp[signs,S]
theorem join_fold:∀ (ts:List (List Nat)) (acc:List Nat),(List.foldl (fun acc (p:Str)=>acc++(Str.ofString "").cps++p.cps) acc.toArray (ts.map S))=(acc++ts.flatten).toArray
 | [],acc=>by simp
 | t::ts,acc=>by
  rw[List.map_cons,List.foldl_cons]
  have:acc.toArray++(Str.ofString "").cps++(S t).cps=(acc++t).toArray:=by
   show acc.toArray++#[]++t.toArray=_
   simp
  rw[this,join_fold ts (acc++t)]
  simp
theorem join_S (ts:List (List Nat)):Txt.join "" (ts.map S)=S ts.flatten:=by
 cases ts with
 | nil=>rfl
 | cons t ts=>
  show (⟨List.foldl (fun acc (p:Str)=>acc++(Str.ofString "").cps++p.cps) (S t).cps (ts.map S)⟩:Str)=_
  have:=join_fold ts t
  show (⟨List.foldl (fun acc (p:Str)=>acc++(Str.ofString "").cps++p.cps) t.toArray (ts.map S)⟩:Str)=_
  rw[this]
  simp[S]
theorem joinOk_fold:∀ (ts:List Str) (sl a:Nat),List.foldl (fun acc (p:Str)=>acc+p.length+sl) a ts=a+(ts.map (·.length)).sum+ts.length * sl
 | [],sl,a=>by simp
 | t::ts,sl,a=>by
  rw[List.foldl_cons,joinOk_fold ts]
  simp only[List.map_cons,List.sum_cons,List.length_cons,Nat.add_mul]
  lia
theorem joinOk_of (s:Str)(ts:List Str)(h:(ts.map (·.length)).sum+ts.length * s.length≤16000000):JoinOk s ts=true:=by
 unfold JoinOk
 rw[List.foldl_toArray' _ _ _ rfl,joinOk_fold ts]
 unfold PySem.Builtin.Str.tooLong sizeLine
 simp
 lia
noncomputable def ifT:Stmt→Expr
 | .If t _ _ _=>t
 | _=> .Name "" default
noncomputable def ifA:Stmt→List Stmt
 | .If _ a _ _=>a
 | _=>[]
noncomputable def ifB:Stmt→List Stmt
 | .If _ _ b _=>b
 | _=>[]
noncomputable def cmpL:Expr→Expr
 | .Compare l _ _ _=>l
 | e=>e
noncomputable def cmpR:Expr→Expr
 | .Compare _ _ (r::_) _=>r
 | e=>e
noncomputable def cmpO:Expr→CmpOp
 | .Compare _ (o::_) _ _=>o
 | _=> .Eq
noncomputable def asgE:Stmt→Expr
 | .Assign [_] v _=>v
 | _=> .Name "" default
noncomputable def asgT:Stmt→Expr
 | .Assign (t::_) _ _=>t
 | _=> .Name "" default
noncomputable def IfIs (st:Stmt):Prop:=∀ (β:Type) (G:Gl) (n:Nat) (cx:Cx) (σ:Sto) (k:Fl→Cx→Sto→Option β),exK G (n+1) cx σ st k=isTK G n cx σ (ifT st) fun c σ₁=>onB c (exsK G n cx σ₁ (ifA st) k) (exsK G n cx σ₁ (ifB st) k)
noncomputable def CmpIs (e:Expr):Prop:=∀ (β:Type) (G:Gl) (n:Nat) (cx:Cx) (σ:Sto) (k:Bool→Sto→Option β),isTK G (n+1) cx σ e k=evK G n cx σ (cmpL e) fun a σ₁=>evK G n cx σ₁ (cmpR e) fun b σ₂=>cmpK (cmpO e) σ₂ a b fun t=>k t σ₂
noncomputable def AsgIs (st:Stmt):Prop:=∀ (β:Type) (G:Gl) (n:Nat) (cx:Cx) (σ:Sto) (k:Fl→Cx→Sto→Option β),exK G (n+1) cx σ st k=evK G n cx σ (asgE st) fun x σ₁=>opt (bindT cx (asgT st) x) fun cx'=>k .nxt cx' σ₁
noncomputable def rgA:Expr→List Expr
 | .Call _ a _ _=>a
 | _=>[]
noncomputable def rkG {β:Type}(r:Int→Int→Int→Option (List PV))(vs:List PV)(k:List PV→Option β):Option β:=opt (rangeArgs vs) fun a=>opt (r a.1 a.2.1 a.2.2) k
theorem rkG_at {β:Type}(r:Int→Int→Int→Option (List PV))(b:Int)(l:List PV)(h:r 0 b 1=some l)(k:List PV→Option β):rkG r [.int b] k=k l:=by
 show opt (r 0 b 1) k=_
 rw[h]
 rfl
noncomputable def RgIs (cx:Cx)(e:Expr):Prop:=∀ (β:Type) (G:Gl) (n:Nat) (σ:Sto) (k:List PV→Option (Nat×Nat)→Sto→Option β),evItK G (n+1) cx σ e k=evsK G n cx σ (rgA e) fun vs σ₁=>rkG ranged vs fun l=>k l none σ₁
noncomputable def iL (l:List Int):List PV:=l.map .int
theorem toDs_ints (σ:Sto):∀ (l:List Int) (n:Nat),toDs (n+2+l.length) σ (iL l)=some (l.map .int)
 | [],n=>rfl
 | i::l,n=>by
  have ih:=toDs_ints σ l n
  rw[show n+2+(i::l).length=(n+2+l.length)+1 by simp; lia]
  have e:toDs ((n+2+l.length)+1) σ (iL (i::l))=opt (toD (n+2+l.length) σ (.int i)) fun d=>opt (toDs (n+2+l.length) σ (iL l)) fun ds=>some (d::ds):=rfl
  rw[e,ih,show n+2+l.length=(n+1+l.length)+1 by lia]
  rfl
theorem toD_ints (σ:Sto)(i:Nat)(l:List Int)(hi:getL σ i=some (iL l))(hl:l.length≤9000):toD 100000 σ (.lst i)=some (.list (l.map .int)):=by
 have h:=toDs_ints σ l (99997 - l.length)
 rw[show 99997 - l.length+2+l.length=99999 by lia] at h
 have e:toD 100000 σ (.lst i)=opt (getL σ i) fun xs=>opt (toDs 99999 σ xs) fun ds=>some (.list ds):=rfl
 rw[e,hi]
 show opt (toDs 99999 σ (iL l)) _=_
 rw[h]
 rfl
theorem lay_ints:∀ l:List Int,PyData.canLayAll0 (l.map .int)=true
 | []=>rfl
 | i::l=>by
  show (true&&PyData.canLayAll0 (l.map .int))=true
  rw[lay_ints l]; rfl
theorem depth_ints:∀ l:List Int,PyData.depthAll (l.map .int)=0
 | []=>rfl
 | i::l=>by
  show max 0 (PyData.depthAll (l.map .int))=0
  rw[depth_ints l]; rfl
theorem eqv_ints:∀ a b:List Int,PyData.eqvAll (a.map .int) (b.map .int)=decide (a=b)
 | [],[]=>rfl
 | i::a,j::b=>by
  show ((i==j)&&PyData.eqvAll (a.map .int) (b.map .int))=_
  rw[eqv_ints a b]
  by_cases h:i=j <;> simp[h]
 | [],_::_=>rfl
 | _::_,[]=>rfl
theorem eqV_ints (σ:Sto)(i j:Nat)(a b:List Int)(hi:getL σ i=some (iL a))(hj:getL σ j=some (iL b))(ha:a.length≤9000)(hb:b.length≤9000):eqV σ (.lst i) (.lst j)=some (decide (a=b)):=by
 show opt (toD 100000 σ (.lst i)) (fun da=>opt (toD 100000 σ (.lst j)) fun db=>_)=_
 rw[toD_ints σ i a hi ha,toD_ints σ j b hj hb]
 show grd _ _=_
 unfold grd
 rw[if_pos ⟨lay_ints a,lay_ints b,by
  show min (PyData.depthAll (a.map .int)+1) (PyData.depthAll (b.map .int)+1)≤8
  rw[depth_ints,depth_ints]; decide⟩]
 show some (PyData.eqvAll (a.map .int) (b.map .int))=_
 rw[eqv_ints]
theorem cmp_ne_ints {β:Type}(σ:Sto)(i j:Nat)(a b:List Int)(k:Bool→Option β)(hi:getL σ i=some (iL a))(hj:getL σ j=some (iL b))(ha:a.length≤9000)(hb:b.length≤9000):cmpK .NotEq σ (.lst i) (.lst j) k=k (!(decide (a=b))):=by
 show opt ((eqV σ (.lst i) (.lst j)).map (!·)) k=_
 rw[eqV_ints σ i j a b hi hj ha hb]
 rfl
theorem ranged_nat (n:Nat)(h:n≤1000):ranged 0 (n:Int) 1=some ((List.range n).map fun k=> .int (k:Int)):=by
 have e:Builtin.Range.rangeSize 0 (n:Int) 1=n:=by
  unfold Builtin.Range.rangeSize
  simp
  lia
 unfold ranged
 rw[e,if_pos ⟨by decide,by decide,by
  have fits:∀ x:Int,0≤x→x≤1001→Builtin.Range.rangeFitsLong x=true:=fun x h1 h2=>by
   unfold Builtin.Range.rangeFitsLong
   simp
   lia
  unfold Builtin.Range.small
  rw[e,fits 0 (by lia) (by lia),fits n (by lia) (by lia),fits 1 (by lia) (by lia),if_pos (by decide),fits ((n:Int)+(1 - 1)) (by lia) (by lia)]
  simp,by lia,by simpa using h⟩]
 simp
noncomputable def elF (e:Str→Str→Option Bool):Fn:=fun args σ=>two args fun a b=>onStr a fun w=>onStr b fun g=>opt (e w g) fun r=>some (.bool r,σ)
theorem elF_at {e:Str→Str→Option Bool}{w g:Str}{σ:Sto}{r:Bool}(h:e w g=some r):elF e [.str w,.str g] σ=some (.bool r,σ):=by
 show opt (e w g) _=_
 rw[h]
 rfl
section
variable {β:Type}{G:Gl}{n:Nat}{cx cx':Cx}{σ σ':Sto}{st:Stmt}
theorem asgN (h:AsgIs st){x:PV}(he:∀ K:PV→Sto→Option β,evK G n cx σ (asgE st) K=K x σ')(hb:bindT cx (asgT st) x=some cx')(k:Fl→Cx→Sto→Option β):exK G (n+1) cx σ st k=k .nxt cx' σ':=
 (h ..).trans ((he _).trans (congrArg (fun o=>opt o fun cx'=>k .nxt cx' σ') hb))
end
noncomputable abbrev dE:DefP:=defP p3 "_ellipsis_match"
theorem dE_body:dE.body=[stAt dE 0,stAt dE 1,stAt dE 2,stAt dE 3,stAt dE 4,stAt dE 5,stAt dE 6,stAt dE 7,stAt dE 8,stAt dE 9,stAt dE 10]:=by kernel_rfl!
theorem dE_params:dE.params=(["want","got"]:List Str):=by kernel_rfl!
theorem el_0 {β:Type}(T:Int→Option Str)(n:Nat)(want got:Str)(σ:Sto)(k:Fl→Cx→Sto→Option β):
 exK (G0 T) (n+20) ⟨dE.names,[("want",.str want),("got",.str got)]⟩ σ (stAt dE 0) k=match !(Txt.contains want "...") with
  | true=>k (.ret (.bool (decide (want=got)))) ⟨dE.names,[("want",.str want),("got",.str got)]⟩ σ
  | false=>k .nxt ⟨dE.names,[("want",.str want),("got",.str got)]⟩ σ:=by kernel_rfl!
theorem el_1 {β:Type}(T:Int→Option Str)(n:Nat)(want got:Str)(k:Fl→Cx→Sto→Option β):
 exK (G0 T) (n+20) ⟨dE.names,[("want",.str want),("got",.str got)]⟩ [] (stAt dE 1) k=
  grd ((Txt.split want "...").length≤1000∧want.length≤100000) (k .nxt ⟨dE.names,bse (.lst 0) want got⟩ [⟨0,.lst ((Txt.split want "...").map .str)⟩]):=by kernel_rfl!
theorem el_2 {β:Type}(T:Int→Option Str)(n:Nat)(want got:Str)(L:List PV)(k:Fl→Cx→Sto→Option β):
 exK (G0 T) (n+20) ⟨dE.names,bse (.lst 0) want got⟩ [⟨0,.lst L⟩] (stAt dE 2) k=
  grd (L.length≤100000) (match decide ((L.length:Int)≥2) with
   | true=>k .nxt ⟨dE.names,bse (.lst 0) want got⟩ [⟨0,.lst L⟩]
   | false=>none):=by kernel_rfl!
theorem el_3 {β:Type}(T:Int→Option Str)(n:Nat)(want got:Str)(σ:Sto)(k:Fl→Cx→Sto→Option β):
 exK (G0 T) (n+20) ⟨dE.names,bse (.lst 0) want got⟩ σ (stAt dE 3) k=grd (got.length≤100000) (k .nxt ⟨dE.names,elZ got.length (bse (.lst 0) want got)⟩ σ):=by kernel_rfl!
theorem el_4 {β:Type}(T:Int→Option Str)(n:Nat)(want got:Str)(e:Int)(σ:Sto)(k:Fl→Cx→Sto→Option β):
 exK (G0 T) (n+20) ⟨dE.names,elZ e (bse (.lst 0) want got)⟩ σ (stAt dE 4) k=subK (.lst 0) (.int 0) σ fun x=>k .nxt ⟨dE.names,elC 0 x e (bse (.lst 0) want got)⟩ σ:=by kernel_rfl!
theorem el_5 {β:Type}(T:Int→Option Str)(n:Nat)(a want got:Str)(e:Int)(L:List PV)(k:Fl→Cx→Sto→Option β):
 exK (G0 T) (n+20) ⟨dE.names,elC 0 (.str a) e (bse (.lst 0) want got)⟩ [⟨0,.lst L⟩] (stAt dE 5) k=
  elFirst dE.names a e want got L (fun _ cx σ=>k .nxt cx σ) (k (.ret (.bool false)) ⟨dE.names,elC 0 (.str a) e (bse (.lst 0) want got)⟩ [⟨0,.lst L⟩]):=by kernel_rfl!
theorem el_6 {β:Type}(T:Int→Option Str)(n:Nat)(x:PV)(want got:Str)(p e:Int)(σ:Sto)(k:Fl→Cx→Sto→Option β):
 exK (G0 T) (n+20) ⟨dE.names,elS p x e (bse (.lst 0) want got)⟩ σ (stAt dE 6) k=subK (.lst 0) (.int (-1)) σ fun x=>k .nxt ⟨dE.names,elB p x e (bse (.lst 0) want got)⟩ σ:=by kernel_rfl!
theorem el_6' {β:Type}(T:Int→Option Str)(n:Nat)(x:PV)(want got:Str)(p e:Int)(σ:Sto)(k:Fl→Cx→Sto→Option β):
 exK (G0 T) (n+20) ⟨dE.names,elC p x e (bse (.lst 0) want got)⟩ σ (stAt dE 6) k=subK (.lst 0) (.int (-1)) σ fun x=>k .nxt ⟨dE.names,elC p x e (bse (.lst 0) want got)⟩ σ:=by kernel_rfl!
theorem el_7 {β:Type}(T:Int→Option Str)(n:Nat)(b want got:Str)(p e:Int)(v:Nat)(L:List PV)(k:Fl→Cx→Sto→Option β):
 exK (G0 T) (n+20) ⟨dE.names,elB p (.str b) e (bse (.lst 0) want got)⟩ [⟨v,.lst L⟩] (stAt dE 7) k=
  elLast dE.names b p e (bse (.lst 0) want got) v got L (elB p (.str b) e (bse (.lst 0) want got)) (fun cx σ=>k .nxt cx σ) (k (.ret (.bool false)) ⟨dE.names,elB p (.str b) e (bse (.lst 0) want got)⟩ [⟨v,.lst L⟩]):=by kernel_rfl!
theorem el_7' {β:Type}(T:Int→Option Str)(n:Nat)(b want got:Str)(p e:Int)(v:Nat)(L:List PV)(k:Fl→Cx→Sto→Option β):
 exK (G0 T) (n+20) ⟨dE.names,elC p (.str b) e (bse (.lst 0) want got)⟩ [⟨v,.lst L⟩] (stAt dE 7) k=
  elLast dE.names b p e (bse (.lst 0) want got) v got L (elC p (.str b) e (bse (.lst 0) want got)) (fun cx σ=>k .nxt cx σ) (k (.ret (.bool false)) ⟨dE.names,elC p (.str b) e (bse (.lst 0) want got)⟩ [⟨v,.lst L⟩]):=by kernel_rfl!
theorem el_8A {β:Type}(T:Int→Option Str)(n:Nat)(x:PV)(want got:Str)(p e:Int)(σ:Sto)(k:Fl→Cx→Sto→Option β):
 exK (G0 T) (n+20) ⟨dE.names,elA p x e (bse (.lst 0) want got)⟩ σ (stAt dE 8) k=match decide (p > e) with
  | true=>k (.ret (.bool false)) ⟨dE.names,elA p x e (bse (.lst 0) want got)⟩ σ
  | false=>k .nxt ⟨dE.names,elA p x e (bse (.lst 0) want got)⟩ σ:=by kernel_rfl!
theorem el_8B {β:Type}(T:Int→Option Str)(n:Nat)(x:PV)(want got:Str)(p e:Int)(σ:Sto)(k:Fl→Cx→Sto→Option β):
 exK (G0 T) (n+20) ⟨dE.names,elB p x e (bse (.lst 0) want got)⟩ σ (stAt dE 8) k=match decide (p > e) with
  | true=>k (.ret (.bool false)) ⟨dE.names,elB p x e (bse (.lst 0) want got)⟩ σ
  | false=>k .nxt ⟨dE.names,elB p x e (bse (.lst 0) want got)⟩ σ:=by kernel_rfl!
theorem el_8C {β:Type}(T:Int→Option Str)(n:Nat)(x:PV)(want got:Str)(p e:Int)(σ:Sto)(k:Fl→Cx→Sto→Option β):
 exK (G0 T) (n+20) ⟨dE.names,elC p x e (bse (.lst 0) want got)⟩ σ (stAt dE 8) k=match decide (p > e) with
  | true=>k (.ret (.bool false)) ⟨dE.names,elC p x e (bse (.lst 0) want got)⟩ σ
  | false=>k .nxt ⟨dE.names,elC p x e (bse (.lst 0) want got)⟩ σ:=by kernel_rfl!
theorem el_TS {β:Type}(T:Int→Option Str)(n:Nat)(p:Int)(v:PV)(w:Str)(e:Int)(ws:PV)(want got:Str)(σ:Sto)(k:Fl→Cx→Sto→Option β):
  turnK (G0 T) (n+20) ⟨dE.names,elS p v e (bse ws want got)⟩ (.str w) σ (stAt dE 9) k=elTurn dE.names p w e ws want got σ k:=by kernel_rfl!
theorem el_TA {β:Type}(T:Int→Option Str)(n:Nat)(p:Int)(v:PV)(w:Str)(e:Int)(ws:PV)(want got:Str)(σ:Sto)(k:Fl→Cx→Sto→Option β):
  turnK (G0 T) (n+20) ⟨dE.names,elA p v e (bse ws want got)⟩ (.str w) σ (stAt dE 9) k=elTurn dE.names p w e ws want got σ k:=by kernel_rfl!
theorem el_TB {β:Type}(T:Int→Option Str)(n:Nat)(p:Int)(v:PV)(w:Str)(e:Int)(ws:PV)(want got:Str)(σ:Sto)(k:Fl→Cx→Sto→Option β):
  turnK (G0 T) (n+20) ⟨dE.names,elB p v e (bse ws want got)⟩ (.str w) σ (stAt dE 9) k=elTurn dE.names p w e ws want got σ k:=by kernel_rfl!
theorem el_TC {β:Type}(T:Int→Option Str)(n:Nat)(p:Int)(v:PV)(w:Str)(e:Int)(ws:PV)(want got:Str)(σ:Sto)(k:Fl→Cx→Sto→Option β):
  turnK (G0 T) (n+20) ⟨dE.names,elC p v e (bse ws want got)⟩ (.str w) σ (stAt dE 9) k=elTurn dE.names p w e ws want got σ k:=by kernel_rfl!
theorem el_9i {β:Type}(T:Int→Option Str)(n:Nat)(B:LE)(v:Nat)(L:List PV)(a b c:PV)(k:List PV→Option (Nat×Nat)→Sto→Option β):
 evItK (G0 T) (n+20) ⟨dE.names,("endpos",a)::("w",b)::("startpos",c)::("ws",.lst 0)::B⟩ [⟨v,.lst L⟩] (forI (stAt dE 9)) k=k L (some (0,v)) [⟨v,.lst L⟩]:=by kernel_rfl!
theorem el_9j {β:Type}(T:Int→Option Str)(n:Nat)(B:LE)(v:Nat)(L:List PV)(a b c:PV)(k:List PV→Option (Nat×Nat)→Sto→Option β):
 evItK (G0 T) (n+20) ⟨dE.names,("w",b)::("startpos",c)::("endpos",a)::("ws",.lst 0)::B⟩ [⟨v,.lst L⟩] (forI (stAt dE 9)) k=k L (some (0,v)) [⟨v,.lst L⟩]:=by kernel_rfl!
theorem el_9k {β:Type}(T:Int→Option Str)(n:Nat)(B:LE)(v:Nat)(L:List PV)(a b c:PV)(k:List PV→Option (Nat×Nat)→Sto→Option β):
 evItK (G0 T) (n+20) ⟨dE.names,("w",b)::("endpos",a)::("startpos",c)::("ws",.lst 0)::B⟩ [⟨v,.lst L⟩] (forI (stAt dE 9)) k=k L (some (0,v)) [⟨v,.lst L⟩]:=by kernel_rfl!
theorem el_9s:ForIs (stAt dE 9):=fun β G n cx σ k=>by kernel_rfl!
theorem el_10 {β:Type}(T:Int→Option Str)(n:Nat)(cx:Cx)(σ:Sto)(k:Fl→Cx→Sto→Option β):
 exK (G0 T) (n+20) cx σ (stAt dE 10) k=k (.ret (.bool true)) cx σ:=by kernel_rfl!
noncomputable def loopE (got:Str)(e:Int):Int→List Str→Bool
 | _,[]=>true
 | p,w::ws=>match decide (find4 got w p e < 0) with
  | true=>false
  | false=>loopE got e (find4 got w p e+w.length) ws
theorem watch0 (v:Nat)(d:CD)(σ:Sto):watch (⟨v,d⟩::σ) (some (0,v))=true:=Nat.beq_refl v
theorem loopE_no {got:Str}{e p:Int}{w:Str}{ws:List Str}(h:decide (find4 got w p e < 0)=true):loopE got e p (w::ws)=false:=by unfold loopE; rw[h]
theorem loopE_go {got:Str}{e p:Int}{w:Str}{ws:List Str}(h:decide (find4 got w p e < 0)=false):loopE got e p (w::ws)=loopE got e (find4 got w p e+w.length) ws:=by rw[loopE,h]
section
variable {β:Type}(T:Int→Option Str)(want got:Str)(e:Int)(v:Nat)(L:List PV)(he:0≤e∧e≤got.length)
include he
theorem el_no {N:List (Str×NameKind)}{p:Int}{w:Str}{ws:PV}{σ:Sto}(hp:0≤p)(h:decide (find4 got w p e < 0)=true)(k:Fl→Cx→Sto→Option β):elTurn N p w e ws want got σ k=k (.ret (.bool false)) ⟨N,elS (find4 got w p e) (.str w) e (bse ws want got)⟩ σ:=by
 unfold elTurn
 rw[h]
 exact if_pos ⟨hp,he⟩
theorem el_go {N:List (Str×NameKind)}{p:Int}{w:Str}{ws:PV}{σ:Sto}(hp:0≤p)(h:decide (find4 got w p e < 0)=false)(hw:w.length≤100000)(k:Fl→Cx→Sto→Option β):elTurn N p w e ws want got σ k=k .nxt ⟨N,elS (find4 got w p e+w.length) (.str w) e (bse ws want got)⟩ σ:=by
 unfold elTurn
 rw[h]
 exact (if_pos ⟨hp,he⟩).trans (if_pos hw)
omit he in
theorem el_up {p:Int}{w:Str}(h:decide (find4 got w p e < 0)=false):0≤find4 got w p e+w.length:=Int.add_nonneg (Int.not_lt.mp (of_decide_eq_false h)) (Int.natCast_nonneg _)
theorem el_loopS:∀ (ws:List Str) (n:Nat) (p:Int) (x:PV),0≤p→(∀ w∈ws,w.length≤100000)→∃ cx',∀ k:Fl→Cx→Sto→Option β,exForK (G0 T) (n+ws.length+21) ⟨dE.names,elS p x e (bse (.lst 0) want got)⟩ [⟨v,.lst L⟩] (forT (stAt dE 9)) (forB (stAt dE 9)) (some (0,v)) (ws.map .str) k=
   onB (loopE got e p ws) (k .nxt cx' [⟨v,.lst L⟩]) (k (.ret (.bool false)) cx' [⟨v,.lst L⟩])
 | [],n,p,x,hp,hw=>⟨_,fun k=>exForK_nil (n+20) _ _ _ _ _ _ (watch0 ..)⟩
 | w::ws,n,p,x,hp,hw=>by
  cases hd:decide (find4 got w p e < 0) with
  | true=>
   rw[loopE_no hd]
   exact⟨_,fun k=>(exForK_cons (n+ws.length+21) _ _ _ _ _ _ k (watch0 ..)).trans ((el_TS T (n+ws.length+1) ..).trans (el_no want got e he hp hd _))⟩
  | false=>
   obtain⟨cx',hc⟩:=el_loopS ws n _ (.str w) (el_up got e hd) fun u hu=>hw u (List.mem_cons_of_mem _ hu)
   rw[loopE_go hd]
   exact⟨cx',fun k=>loopN (watch0 ..) (fun k=>(el_TS T (n+ws.length+1) ..).trans (el_go want got e he hp hd (hw w List.mem_cons_self) k)) (hc k)⟩
theorem el_loop (le:LE)(p:Int)(hp:0≤p)
  (hle:∀ (n:Nat) (w:Str) (k:Fl→Cx→Sto→Option β),turnK (G0 T) (n+20) ⟨dE.names,le⟩ (.str w) [⟨v,.lst L⟩] (stAt dE 9) k=elTurn dE.names p w e (.lst 0) want got [⟨v,.lst L⟩] k) (ws:List Str) (n:Nat) (hw:∀ w∈ws,w.length≤100000):
  ∃ cx',∀ k:Fl→Cx→Sto→Option β,exForK (G0 T) (n+ws.length+21) ⟨dE.names,le⟩ [⟨v,.lst L⟩] (forT (stAt dE 9)) (forB (stAt dE 9)) (some (0,v)) (ws.map .str) k=
   onB (loopE got e p ws) (k .nxt cx' [⟨v,.lst L⟩]) (k (.ret (.bool false)) cx' [⟨v,.lst L⟩]):=by
 cases ws with
 | nil=>exact⟨_,fun k=>exForK_nil (n+20) _ _ _ _ _ _ (watch0 ..)⟩
 | cons w ws=>
  cases hd:decide (find4 got w p e < 0) with
  | true=>
   rw[loopE_no hd]
   exact⟨_,fun k=>(exForK_cons (n+ws.length+21) _ _ _ _ _ _ k (watch0 ..)).trans ((hle (n+ws.length+1) w _).trans (el_no want got e he hp hd _))⟩
  | false=>
   obtain⟨cx',hc⟩:=el_loopS (β:=β) T want got e v L he ws n _ (.str w) (el_up got e hd) fun u hu=>hw u (List.mem_cons_of_mem _ hu)
   rw[loopE_go hd]
   exact⟨cx',fun k=>loopN (watch0 ..) (fun k=>(hle (n+ws.length+1) w k).trans (el_go want got e he hp hd (hw w List.mem_cons_self) k)) (hc k)⟩
end
noncomputable def ellP (a:Str)(mid:List Str)(b got:Str):Bool:=
 ((a.length==0) || Txt.startswith got a)&&(((b.length==0) || Txt.endswith got b)&&(decide ((a.length:Int)≤(got.length:Int) - b.length)&&
  loopE got ((got.length:Int) - b.length) a.length ((if a.length==0 then [a] else [])++mid++(if b.length==0 then [b] else []))))
theorem seq_last (r:List PV)(x:PV):seqIndex? (-1) (r++[x]).length=some r.length:=by unfold seqIndex?; simp; lia
theorem seq_first (x:PV)(r:List PV):seqIndex? 0 (x::r).length=some 0:=by unfold seqIndex?; simp
theorem subK_first {β:Type}(x:PV)(r:List PV)(v:Nat)(k:PV→Option β):subK (.lst 0) (.int 0) [⟨v,.lst (x::r)⟩] k=k x:=by
 have e:=seq_first x r
 show grd _ (opt (seqIndex? 0 (x::r).length) _)=_
 rw[e]
 exact if_pos (by decide)
theorem subK_last {β:Type}(x:PV)(r:List PV)(v:Nat)(k:PV→Option β):subK (.lst 0) (.int (-1)) [⟨v,.lst (r++[x])⟩] k=k x:=by
 have e:=seq_last r x
 show grd _ (opt (seqIndex? (-1) (r++[x]).length) fun p=>opt (r++[x])[p]? k)=_
 rw[e]
 show grd _ (opt (r++[x])[r.length]? k)=_
 rw[List.getElem?_concat_length]
 exact if_pos (by decide)
theorem subK_lastM {β:Type}(M:List Str)(b:Str)(v:Nat)(k:PV→Option β):subK (.lst 0) (.int (-1)) [⟨v,.lst ((M++[b]).map .str)⟩] k=k (.str b):=by
 rw[List.map_append]
 exact subK_last (.str b) (M.map .str) v k
theorem el_8on (T:Int→Option Str)(want got:Str)(p e:Int)(v:Nat)(ws:List Str)(le:LE)(hp:0≤p)(he:0≤e∧e≤got.length)(hn:ws.length≤1000)(hw:∀ w∈ws,w.length≤100000)
  (h8:∀ k:Fl→Cx→Sto→Option (PV×Sto),exK (G0 T) 1991 ⟨dE.names,le⟩ [⟨v,.lst (ws.map .str)⟩] (stAt dE 8) k=match decide (p > e) with
   | true=>k (.ret (.bool false)) ⟨dE.names,le⟩ [⟨v,.lst (ws.map .str)⟩]
   | false=>k .nxt ⟨dE.names,le⟩ [⟨v,.lst (ws.map .str)⟩])
  (h9:∀ k:List PV→Option (Nat×Nat)→Sto→Option (PV×Sto),evItK (G0 T) 1989 ⟨dE.names,le⟩ [⟨v,.lst (ws.map .str)⟩] (forI (stAt dE 9)) k=k (ws.map .str) (some (0,v)) [⟨v,.lst (ws.map .str)⟩])
  (hle:∀ (n:Nat) (w:Str) (k:Fl→Cx→Sto→Option (PV×Sto)),turnK (G0 T) (n+20) ⟨dE.names,le⟩ (.str w) [⟨v,.lst (ws.map .str)⟩] (stAt dE 9) k=elTurn dE.names p w e (.lst 0) want got [⟨v,.lst (ws.map .str)⟩] k):
  ∃ σ',exsK (G0 T) 1992 ⟨dE.names,le⟩ [⟨v,.lst (ws.map .str)⟩] [stAt dE 8,stAt dE 9,stAt dE 10] endK=some (.bool (decide (p≤e)&&loopE got e p ws),σ'):=by
 by_cases h:p > e
 ·rw[decide_eq_true h] at h8
  rw[decide_eq_false (Int.not_le.mpr h)]
  exact⟨_,seqR h8 rfl⟩
 ·rw[decide_eq_false h] at h8
  rw[decide_eq_true (Int.not_lt.mp h)]
  obtain⟨cx',hc⟩:=el_loop (β:=PV×Sto) T want got e v (ws.map .str) he le p hp hle ws (1968 - ws.length) hw
  rw[show 1968 - ws.length+ws.length+21=1989 by lia] at hc
  cases hl:loopE got e p ws with
  | true=>
   rw[hl] at hc
   exact⟨_,seqN h8 (seqN (forN el_9s h9 hc) (seqR (fun k=>el_10 T 1969 _ _ k) rfl))⟩
  | false=>
   rw[hl] at hc
   exact⟨_,seqN h8 (seqR (forN el_9s h9 hc) rfl)⟩
theorem erase_map {M:List Str}{b:Str}:((M++[b]).map PV.str).eraseIdx M.length=M.map PV.str:=by
 rw[List.map_append,show M.length=(M.map PV.str).length from (List.length_map ..).symm,List.eraseIdx_append_of_length_le (Nat.le_refl _),Nat.sub_self]
 exact List.append_nil _
section
variable (T:Int→Option Str)(want got b:Str)(M:List Str)(p:Int)(v:Nat)(hp:0≤p)(hn:M.length≤901)(hM:∀ w∈M,w.length≤100000)(hb:b.length≤100000)
include hp hn hM hb
theorem el_7on {X:Str→LE}(h7:∀ k:Fl→Cx→Sto→Option (PV×Sto),exK (G0 T) 1992 ⟨dE.names,X b⟩ [⟨v,.lst ((M++[b]).map .str)⟩] (stAt dE 7) k=elLast dE.names b p got.length (bse (.lst 0) want got) v got ((M++[b]).map .str) (X b) (fun cx σ=>k .nxt cx σ) (k (.ret (.bool false)) ⟨dE.names,X b⟩ [⟨v,.lst ((M++[b]).map .str)⟩]))
  (h8:∀ k:Fl→Cx→Sto→Option (PV×Sto),exK (G0 T) 1991 ⟨dE.names,X b⟩ [⟨v,.lst ((M++[b]).map .str)⟩] (stAt dE 8) k=match decide (p > got.length) with
   | true=>k (.ret (.bool false)) ⟨dE.names,X b⟩ [⟨v,.lst ((M++[b]).map .str)⟩]
   | false=>k .nxt ⟨dE.names,X b⟩ [⟨v,.lst ((M++[b]).map .str)⟩])
  (h9:∀ k:List PV→Option (Nat×Nat)→Sto→Option (PV×Sto),evItK (G0 T) 1989 ⟨dE.names,X b⟩ [⟨v,.lst ((M++[b]).map .str)⟩] (forI (stAt dE 9)) k=k ((M++[b]).map .str) (some (0,v)) [⟨v,.lst ((M++[b]).map .str)⟩])
  (ht:∀ (n:Nat) (w:Str) (k:Fl→Cx→Sto→Option (PV×Sto)),turnK (G0 T) (n+20) ⟨dE.names,X b⟩ (.str w) [⟨v,.lst ((M++[b]).map .str)⟩] (stAt dE 9) k=elTurn dE.names p w got.length (.lst 0) want got [⟨v,.lst ((M++[b]).map .str)⟩] k):
  ∃ σ',exsK (G0 T) 1993 ⟨dE.names,X b⟩ [⟨v,.lst ((M++[b]).map .str)⟩] [stAt dE 7,stAt dE 8,stAt dE 9,stAt dE 10] endK=
   some (.bool (((b.length==0) || Txt.endswith got b)&&(decide (p≤(got.length:Int) - b.length)&&loopE got ((got.length:Int) - b.length) p (M++(if b.length==0 then [b] else [])))),σ'):=by
 have hl:(M++[b]).length=M.length+1:=List.length_append
 unfold elLast at h7
 have h1000:b.length≤1000000:=Nat.le_trans hb (by decide)
 cases h1:b.length==0 with
 | true=>
  have h0:b.length=0:=eq_of_beq h1
  have hbn:((b.length:Int) !=0)=false:=by rw[h0]; rfl
  rw[hbn] at h7
  have hall:∀ w∈M++[b],w.length≤100000:=fun w hw=>(List.mem_append.mp hw).elim (hM w) fun h=>List.mem_singleton.mp h▸hb
  obtain⟨σ',h⟩:=el_8on T want got p got.length v (M++[b]) (X b) hp ⟨Int.natCast_nonneg _,Int.le_refl _⟩ (by rw[hl]; exact Nat.le_trans (Nat.succ_le_succ hn) (by decide)) hall h8 h9 ht
  refine⟨σ',seqN (fun k=>(h7 k).trans (if_pos h1000)) (h.trans ?_)⟩
  rw[h0,show ((got.length:Int) - ((0:Nat):Int))=got.length from Int.sub_zero _]
  rfl
 | false=>
  have h0:b.length≠0:=fun e=>by rw[e] at h1; cases h1
  have hbn:((b.length:Int) !=0)=true:=bne_iff_ne.mpr fun e=>h0 (Int.ofNat.inj e)
  rw[hbn] at h7
  cases h2:Txt.endswith got b with
  | false=>
   rw[h2] at h7
   exact⟨_,seqR (fun k=>(h7 k).trans (if_pos h1000)) rfl⟩
  | true=>
   rw[h2] at h7
   have hge:b.length≤got.length:=by
    unfold Txt.endswith at h2
    simp at h2
    exact h2.1
   have hs:seqIndex? (-1) ((M++[b]).map PV.str).length=some M.length:=by rw[List.length_map]; unfold seqIndex?; simp; lia
   have g2:¬ 10000 < ((M++[b]).map PV.str).length:=by rw[List.length_map,hl]; lia
   have he:0≤(got.length:Int) - b.length∧(got.length:Int) - b.length≤got.length:=⟨Int.sub_nonneg_of_le (Int.ofNat_le.mpr hge),Int.sub_le_self _ (Int.natCast_nonneg _)⟩
   rw[hs] at h7
   obtain⟨σ',h⟩:=el_8on T want got p ((got.length:Int) - b.length) (v+1) M _ hp he (Nat.le_trans hn (by decide)) hM
    (fun k=>el_8A T 1971 _ _ _ _ _ _ k) (fun k=>el_9i T 1969 _ _ _ _ _ _ k) (fun n w k=>el_TA T n _ _ _ _ _ _ _ _ k)
   refine⟨σ',seqN (cx':=⟨dE.names,elA p (.str b) ((got.length:Int) - b.length) (bse (.lst 0) want got)⟩) (σ':=[⟨v+1,.lst (M.map .str)⟩]) (fun k=>(h7 k).trans ((if_pos h1000).trans ((if_pos hb).trans ((if_pos g2).trans ?_)))) (h.trans ?_)⟩
   ·show k .nxt ⟨dE.names,elA p (.str b) ((got.length:Int) - b.length) (bse (.lst 0) want got)⟩ [⟨v+1,.lst (((M++[b]).map PV.str).eraseIdx M.length)⟩]=_
    rw[erase_map]
   ·rw[show (if false=true then [b] else [])=([]:List Str) from rfl,List.append_nil]
    rfl
end
theorem el_7onB (T:Int→Option Str)(want got b:Str)(M:List Str)(p:Int)(v:Nat)(hp:0≤p)(hn:M.length≤901)(hM:∀ w∈M,w.length≤100000)(hb:b.length≤100000):
  ∃ σ',exsK (G0 T) 1993 ⟨dE.names,elB p (.str b) got.length (bse (.lst 0) want got)⟩ [⟨v,.lst ((M++[b]).map .str)⟩] [stAt dE 7,stAt dE 8,stAt dE 9,stAt dE 10] endK=
   some (.bool (((b.length==0) || Txt.endswith got b)&&(decide (p≤(got.length:Int) - b.length)&&loopE got ((got.length:Int) - b.length) p (M++(if b.length==0 then [b] else [])))),σ'):=
 el_7on T want got b M p v hp hn hM hb (X:=fun b=>elB p (.str b) got.length (bse (.lst 0) want got)) (fun k=>el_7 T 1972 _ _ _ _ _ _ _ k) (fun k=>el_8B T 1971 _ _ _ _ _ _ k) (fun k=>el_9j T 1969 _ _ _ _ _ _ k) (fun n w k=>el_TB T n _ _ _ _ _ _ _ _ k)
theorem el_7onC (T:Int→Option Str)(want got b:Str)(M:List Str)(v:Nat)(hn:M.length≤901)(hM:∀ w∈M,w.length≤100000)(hb:b.length≤100000):
  ∃ σ',exsK (G0 T) 1993 ⟨dE.names,elC 0 (.str b) got.length (bse (.lst 0) want got)⟩ [⟨v,.lst ((M++[b]).map .str)⟩] [stAt dE 7,stAt dE 8,stAt dE 9,stAt dE 10] endK=
   some (.bool (((b.length==0) || Txt.endswith got b)&&(decide (0≤(got.length:Int) - b.length)&&loopE got ((got.length:Int) - b.length) 0 (M++(if b.length==0 then [b] else [])))),σ'):=
 el_7on T want got b M 0 v (Int.le_refl _) hn hM hb (X:=fun b=>elC 0 (.str b) got.length (bse (.lst 0) want got)) (fun k=>el_7' T 1972 _ _ _ _ _ _ _ k) (fun k=>el_8C T 1971 _ _ _ _ _ _ k) (fun k=>el_9k T 1969 _ _ _ _ _ _ k) (fun n w k=>el_TC T n _ _ _ _ _ _ _ _ k)
theorem ell_run (T:Int→Option Str)(want got a b:Str)(mid:List Str)(hc:Txt.contains want "..."=true)(hs:Txt.split want "..."=a::(mid++[b]))(hn:mid.length≤900)(hw:want.length≤100000)(hg:got.length≤100000)
  (hp:∀ w∈a::(mid++[b]),w.length≤100000):∃ σ',runDK (G0 T) 2000 dE [.str want,.str got] []=some (.bool (ellP a mid b got),σ'):=by
 have ha:=hp a List.mem_cons_self
 have hb:=hp b (List.mem_cons_of_mem _ (List.mem_append_right _ List.mem_cons_self))
 have hm:∀ w∈mid,w.length≤100000:=fun w h=>hp w (List.mem_cons_of_mem _ (List.mem_append_left _ h))
 have hl:(a::(mid++[b])).length=mid.length+2:=by rw[List.length_cons,List.length_append,List.length_singleton]
 have hl2:((a::(mid++[b])).map PV.str).length=mid.length+2:=(List.length_map ..).trans hl
 have g1:(a::(mid++[b])).length≤1000∧want.length≤100000:=⟨by rw[hl]; lia,hw⟩
 have g2:((a::(mid++[b])).map PV.str).length≤100000:=by rw[hl2]; lia
 have g3:decide ((((a::(mid++[b])).map PV.str).length:Int)≥2)=true:=by rw[hl2]; exact decide_eq_true (by lia)
 have g4:¬ 10000 < ((a::(mid++[b])).map PV.str).length:=by rw[hl2]; lia
 have g5:a.length≤1000000:=Nat.le_trans ha (by decide)
 have e0:=fun k=>el_0 (β:=PV×Sto) T 1979 want got [] k
 rw[hc] at e0
 have e1:=fun k=>el_1 (β:=PV×Sto) T 1978 want got k
 rw[hs] at e1
 have e2:=fun k=>el_2 (β:=PV×Sto) T 1977 want got ((a::(mid++[b])).map .str) k
 rw[g3] at e2
 have e5:=fun k=>el_5 (β:=PV×Sto) T 1974 a want got got.length ((a::(mid++[b])).map .str) k
 unfold elFirst at e5
 rw[runDK_at (le:=[("want",.str want),("got",.str got)]) dE_params rfl rfl,dE_body]
 have go:∀ {r},exsK (G0 T) 1995 ⟨dE.names,elC 0 (.str a) got.length (bse (.lst 0) want got)⟩ [⟨0,.lst ((a::(mid++[b])).map .str)⟩] [stAt dE 5,stAt dE 6,stAt dE 7,stAt dE 8,stAt dE 9,stAt dE 10] endK=r→
   exsK (G0 T) 2000 ⟨dE.names,[("want",.str want),("got",.str got)]⟩ [] [stAt dE 0,stAt dE 1,stAt dE 2,stAt dE 3,stAt dE 4,stAt dE 5,stAt dE 6,stAt dE 7,stAt dE 8,stAt dE 9,stAt dE 10] endK=r:=fun h=>
  seqN e0 (seqN (fun k=>(e1 k).trans (if_pos g1)) (seqN (fun k=>(e2 k).trans (if_pos g2)) (seqN (fun k=>(el_3 T 1976 _ _ _ k).trans (if_pos hg)) (seqN (fun k=>(el_4 T 1975 _ _ _ _ k).trans (subK_first (.str a) _ 0 _)) h))))
 cases h0:a.length==0 with
 | true=>
  have h0':a.length=0:=eq_of_beq h0
  have hbn:((a.length:Int) !=0)=false:=by rw[h0']; rfl
  rw[hbn] at e5
  obtain⟨σ',h⟩:=el_7onC T want got b (a::mid) 0 (Nat.succ_le_succ hn) (fun w hw=>(List.mem_cons.mp hw).elim (fun e=>e▸ha) (hm w)) hb
  refine⟨σ',go (seqN (fun k=>(e5 k).trans (if_pos g5)) (seqN (fun k=>(el_6' T 1973 _ _ _ _ _ _ k).trans (subK_lastM (a::mid) b 0 _)) (h.trans ?_)))⟩
  unfold ellP
  rw[h0,h0']
  rfl
 | false=>
  have h0':a.length≠0:=fun e=>by rw[e] at h0; cases h0
  have hbn:((a.length:Int) !=0)=true:=bne_iff_ne.mpr fun e=>h0' (Int.ofNat.inj e)
  rw[hbn] at e5
  unfold ellP
  rw[h0]
  cases h2:Txt.startswith got a with
  | false=>
   rw[h2] at e5
   exact⟨_,go (seqR (fun k=>(e5 k).trans (if_pos g5)) rfl)⟩
  | true=>
   rw[h2,List.map_cons,seq_first] at e5
   obtain⟨σ',h⟩:=el_7onB T want got b mid a.length 1 (Int.natCast_nonneg _) (Nat.le_succ_of_le hn) hm hb
   refine⟨σ',go (seqN (fun k=>(e5 k).trans ((if_pos g5).trans ((if_pos ha).trans (if_pos g4)))) (seqN (fun k=>(el_6 T 1973 _ _ _ _ _ _ k).trans (subK_lastM mid b 1 _)) (h.trans rfl)))⟩
open PySem.Builtin PySem.Builtin.Str
noncomputable def hit (x y:List Nat)(hi i:Nat):Bool:=decide (i+y.length≤hi)&&((x.drop i).take y.length==y)
noncomputable def occG (x y:List Nat)(hi limit:Nat):List Nat→Nat→Nat→List Nat
 | [],_,_=>[]
 | i::is,free,cnt=>if cnt < limit∧free≤i∧hit x y hi i=true then i::occG x y hi limit is (i+y.length) (cnt+1) else occG x y hi limit is free cnt
theorem subAt_S (x y:List Nat)(i:Nat):subAt (S x) (S y) i=((x.drop i).take y.length==y):=by
 rw[StrLaws.subAt_eq]
 simp[S,Str.length]
theorem occ_forIn (x y:List Nat)(hi limit:Nat):∀ (l:List Nat) (arr:Array Nat) (free:Nat),(forIn l (arr,free) (StrLaws.occBody (S x) (S y) hi limit)).run.fst.toList=arr.toList++occG x y hi limit l free arr.size
 | [],arr,free=>by simp[occG]
 | i::l,arr,free=>by
  rw[List.forIn_cons]
  unfold StrLaws.occBody
  have hs:(S y).length=y.length:=S_len y
  by_cases h:arr.size < limit∧free≤i∧hit x y hi i=true
  ·have h':((arr.size < limit∧free≤i)∧i+(S y).length≤hi)∧subAt (S x) (S y) i=true:=by
    obtain⟨h1,h2,h3⟩:=h
    unfold hit at h3
    simp only[Bool.and_eq_true,decide_eq_true_eq] at h3
    rw[subAt_S,hs]
    exact⟨⟨⟨h1,h2⟩,h3.1⟩,h3.2⟩
   rw[if_pos h']
   refine (occ_forIn x y hi limit l _ _).trans ?_
   rw[occG,if_pos h,hs]
   simp
  ·have h':¬ (((arr.size < limit∧free≤i)∧i+(S y).length≤hi)∧subAt (S x) (S y) i=true):=by
    rintro ⟨⟨⟨h1,h2⟩,h3⟩,h4⟩
    rw[subAt_S] at h4
    rw[hs] at h3
    refine h ⟨h1,h2,?_⟩
    unfold hit
    simp only[Bool.and_eq_true,decide_eq_true_eq]
    exact⟨h3,h4⟩
   rw[if_neg h']
   refine (occ_forIn x y hi limit l _ _).trans ?_
   rw[occG,if_neg h]
theorem occ_S (x y:List Nat)(lo hi limit:Nat):occurrences (S x) (S y) lo hi limit=occG x y hi limit (List.range' lo (hi+1 - lo)) lo 0:=by
 rw[StrLaws.occ_eq,occ_forIn]
 simp
noncomputable def findL (y:List Nat):Nat→List Nat→Option Nat
 | i,[]=>if y=[] then some i else none
 | i,c::r=>if y.isPrefixOf (c::r) then some i else findL y (i+1) r
noncomputable def cutL (y:List Nat):List Nat→Option (List Nat)
 | []=>if y=[] then some [] else none
 | c::r=>if y.isPrefixOf (c::r) then some ((c::r).drop y.length) else cutL y r
noncomputable def loopL:List Nat→List (List Nat)→Bool
 | _,[]=>true
 | reg,y::ys=>match cutL y reg with
  | some r=>loopL r ys
  | none=>false
theorem isPre_iff (y l:List Nat):y.isPrefixOf l=true↔(l.take y.length==y)=true∧y.length≤l.length:=by
 rw[List.isPrefixOf_iff_prefix,beq_iff_eq]
 constructor
 ·rintro ⟨t,rfl⟩
  simp
 ·rintro ⟨h,_⟩
  refine⟨l.drop y.length,?_⟩
  have e:=List.take_append_drop y.length l
  rw[h] at e
  exact e
theorem occG_done (x y:List Nat)(hi:Nat):∀ (l:List Nat) (free cnt:Nat),1≤cnt→occG x y hi 1 l free cnt=[]
 | [],_,_,_=>rfl
 | i::l,free,cnt,h=>by
  rw[occG,if_neg (by lia),occG_done x y hi l free cnt h]
theorem hit_iff (x y:List Nat)(e p:Nat)(he:e≤x.length)(hp:p≤e):hit x y e p=y.isPrefixOf ((x.take e).drop p):=by
 rw[Bool.eq_iff_iff,isPre_iff]
 unfold hit
 simp only[Bool.and_eq_true,decide_eq_true_eq,List.length_drop,List.length_take,beq_iff_eq]
 constructor
 ·rintro ⟨h1,h2⟩
  refine⟨?_,by lia⟩
  rw[List.drop_take,List.take_take,Nat.min_eq_left (by lia)]
  exact h2
 ·rintro ⟨h1,h2⟩
  refine⟨by lia,?_⟩
  rw[List.drop_take,List.take_take,Nat.min_eq_left (by lia)] at h1
  exact h1
theorem occ_first (x y:List Nat)(e:Nat)(he:e≤x.length):∀ (n p free:Nat),p+n=e→free≤p→occG x y e 1 (List.range' p (n+1)) free 0=(findL y p ((x.take e).drop p)).toList
 | 0,p,free,hn,hf=>by
  have hreg:(x.take e).drop p=[]:=by apply List.drop_eq_nil_of_le; simp; lia
  have hh:=hit_iff x y e p he (by lia)
  rw[hreg] at hh ⊢
  rw[List.range'_succ,occG,findL]
  by_cases hy:y=[]
  ·subst hy
   rw[if_pos ⟨by decide,hf,by rw[hh]; rfl⟩,if_pos rfl]
   simp[occG]
  ·rw[if_neg (by rintro ⟨_,_,h⟩; rw[hh] at h; cases y with | nil=>exact hy rfl | cons a b=>simp at h),if_neg hy]
   simp[occG]
 | n+1,p,free,hn,hf=>by
  have hlt:p < (x.take e).length:=by simp; lia
  have hreg:(x.take e).drop p=(x.take e)[p]::(x.take e).drop (p+1):=List.drop_eq_getElem_cons hlt
  have hh:=hit_iff x y e p he (by lia)
  have ih:=occ_first x y e he n (p+1) free (by lia) (by lia)
  rw[List.range'_succ,occG,hreg,findL,← hreg,← hh]
  by_cases h:hit x y e p=true
  ·rw[if_pos ⟨by decide,hf,h⟩,if_pos h,occG_done _ _ _ _ _ _ (by lia)]
   rfl
  ·rw[if_neg (fun q=>h q.2.2),if_neg h,ih]
theorem findL_cut (y:List Nat):∀ (reg:List Nat) (p:Nat),(∀ q,findL y p reg=some q→p≤q∧q+y.length≤p+reg.length∧cutL y reg=some (reg.drop (q+y.length - p)))∧(findL y p reg=none→cutL y reg=none)
 | [],p=>by
  unfold findL cutL
  constructor
  ·intro q h
   split at h
   ·rename_i hy; cases h; subst hy; simp
   ·cases h
  ·intro h
   split at h
   ·cases h
   ·rename_i hy; simp[hy]
 | c::r,p=>by
  unfold findL cutL
  constructor
  ·intro q h
   split at h
   ·rename_i hy
    cases h
    rw[if_pos hy]
    have:=((isPre_iff y (c::r)).mp hy).2
    exact⟨Nat.le_refl _,by lia,by simp⟩
   ·rename_i hy
    rw[if_neg hy]
    obtain⟨h1,h2,h3⟩:=(findL_cut y r (p+1)).1 q h
    refine⟨by lia,by simp; lia,?_⟩
    rw[h3,show q+y.length - p=(q+y.length - (p+1))+1 by lia]
    rfl
  ·intro h
   split at h
   ·cases h
   ·rename_i hy
    rw[if_neg hy]
    exact (findL_cut y r (p+1)).2 h
theorem find4_S (x y:List Nat)(p e:Nat)(hp:p≤e)(he:e≤x.length):find4 (S x) (S y) p e=match findL y p ((x.take e).drop p) with
  | some q=>(q:Int)
  | none=> -1:=by
 have f1:fromIndex (S x).length (p:Int)=p:=by
  unfold fromIndex
  rw[if_neg (by lia)]
  lia
 have f2:fromIndex (S x).length (e:Int)=e:=by
  unfold fromIndex
  rw[if_neg (by lia)]
  lia
 unfold find4
 rw[f1,f2,S_len,Nat.min_eq_left he,occ_S,show e+1 - p=(e - p)+1 by lia,occ_first x y e he (e - p) p p (by lia) (Nat.le_refl _)]
 cases findL y p ((x.take e).drop p) <;> rfl
theorem loopE_S (x:List Nat)(e:Nat)(he:e≤x.length):∀ (ys:List (List Nat)) (p:Nat),p≤e→loopE (S x) e p (ys.map S)=loopL ((x.take e).drop p) ys
 | [],p,_=>rfl
 | y::ys,p,hp=>by
  rw[List.map_cons,loopE,find4_S x y p e hp he,loopL]
  have hc:=findL_cut y ((x.take e).drop p) p
  cases hf:findL y p ((x.take e).drop p) with
  | none=>
   rw[hc.2 hf]
   rfl
  | some q=>
   obtain⟨h1,h2,h3⟩:=hc.1 q hf
   have hlen:((x.take e).drop p).length=e - p:=by simp; lia
   rw[h3]
   rw[show decide ((q:Int) < 0)=false from decide_eq_false (by lia)]
   simp only
   rw[S_len,show (q:Int)+(y.length:Int)=((q+y.length:Nat):Int) by lia,loopE_S x e he ys (q+y.length) (by lia),List.drop_drop]
   congr 2
   lia
open PySem.Builtin PySem.Builtin.Str
noncomputable def dots:List Nat:=[46,46,46]
theorem dots_S:(Str.ofString "...":Str)=S dots:=by decide+kernel
noncomputable def glue:List (List Nat)→List Nat
 | []=>[]
 | [p]=>p
 | p::q::r=>p++(dots++glue (q::r))
noncomputable def posOf:Nat→List (List Nat)→List Nat
 | _,[]=>[]
 | _,[_]=>[]
 | i,p::q::r=>(i+p.length)::posOf (i+p.length+3) (q::r)
theorem occG_skip (x:List Nat)(hi limit:Nat):∀ (p pre rest:List Nat) (l:List Nat) (free cnt:Nat),x=pre++(p++rest)→46∉p→occG x dots hi limit (List.range' pre.length p.length++l) free cnt=occG x dots hi limit l free cnt
 | [],pre,rest,l,free,cnt,_,_=>by simp
 | c::p,pre,rest,l,free,cnt,hx,hp=>by
  have hc:c≠46:=fun e=>hp (by simp[e])
  have hn:hit x dots hi pre.length=false:=by
   unfold hit
   rw[hx,List.drop_left]
   show (_&&(((c::p)++rest).take 3==[46,46,46]))=false
   have:(((c::p)++rest).take 3==[46,46,46])=false:=by
    rw[List.cons_append,List.take_succ_cons]
    simp[hc]
   rw[this,Bool.and_false]
  rw[List.length_cons,List.range'_succ,List.cons_append,occG,if_neg (by rw[hn]; simp)]
  have ih:=occG_skip x hi limit p (pre++[c]) rest l free cnt (by rw[hx]; simp) (fun h=>hp (List.mem_cons_of_mem _ h))
  rw[show (pre++[c]).length=pre.length+1 by simp] at ih
  exact ih
theorem occG_pieces (x:List Nat)(limit:Nat):∀ (ps:List (List Nat)) (pre:List Nat) (free cnt:Nat),x=pre++glue ps→ps≠[]→(∀ p∈ps,46∉p)→free≤pre.length→cnt+ps.length≤limit→
  occG x dots x.length limit (List.range' pre.length (x.length+1 - pre.length)) free cnt=posOf pre.length ps
 | [],_,_,_,_,h,_,_,_=>absurd rfl h
 | [p],pre,free,cnt,hx,_,hp,hf,hl=>by
  have hlen:x.length=pre.length+p.length:=by rw[hx]; simp[glue]
  have hd:occG x dots x.length limit (List.range' (pre.length+p.length) 1) free cnt=[]:=by
   rw[List.range'_succ,occG,if_neg]
   ·simp[occG]
   ·rintro ⟨_,_,h⟩
    unfold hit at h
    simp only[Bool.and_eq_true,decide_eq_true_eq] at h
    have:dots.length=3:=rfl
    lia
  rw[show x.length+1 - pre.length=p.length+1 by lia,← List.range'_append_1,occG_skip x x.length limit p pre [] _ free cnt (by rw[hx]; simp[glue]) (hp p (by simp)),hd]
  rfl
 | p::q::r,pre,free,cnt,hx,_,hp,hf,hl=>by
  have hgl:glue (p::q::r)=p++(dots++glue (q::r)):=rfl
  have hlen:x.length=pre.length+p.length+3+(glue (q::r)).length:=by rw[hx,hgl]; simp[dots]; lia
  have hdrop:x.drop (pre.length+p.length)=dots++glue (q::r):=by
   rw[hx,hgl,← List.append_assoc,← List.length_append,List.drop_left]
  have hh:hit x dots x.length (pre.length+p.length)=true:=by
   unfold hit
   rw[hdrop]
   have:dots.length=3:=rfl
   simp only[Bool.and_eq_true,decide_eq_true_eq,beq_iff_eq]
   exact⟨by lia,List.take_left⟩
  have hfree:∀ (l:List Nat) (a b:Nat),occG x dots x.length limit (a::b::l) (pre.length+p.length+3) (cnt+1)=occG x dots x.length limit l (pre.length+p.length+3) (cnt+1)∨¬ (a < pre.length+p.length+3∧b < pre.length+p.length+3):=fun l a b=>by
   by_cases h:a < pre.length+p.length+3∧b < pre.length+p.length+3
   ·left
    rw[occG,if_neg (by lia),occG,if_neg (by lia)]
   ·right; exact h
  rw[show x.length+1 - pre.length=p.length+(3+((glue (q::r)).length+1)) by lia,← List.range'_append_1,
   occG_skip x x.length limit p pre (dots++glue (q::r)) _ free cnt (by rw[hx,hgl]) (hp p (by simp)),show 3+((glue (q::r)).length+1)=(1+(1+((glue (q::r)).length+1)))+1 by lia,List.range'_succ,occG,
   if_pos ⟨by simp at hl; lia,by lia,hh⟩,show 1+(1+((glue (q::r)).length+1))=(1+((glue (q::r)).length+1))+1 by lia,List.range'_succ,show 1+((glue (q::r)).length+1)=((glue (q::r)).length+1)+1 by lia,List.range'_succ]
  have hd3:dots.length=3:=rfl
  rw[hd3]
  rcases hfree (List.range' (pre.length+p.length+1+1+1) ((glue (q::r)).length+1)) (pre.length+p.length+1) (pre.length+p.length+1+1) with h | h
  ·rw[h]
   have ih:=occG_pieces x limit (q::r) (pre++(p++dots)) (pre.length+p.length+3) (cnt+1) (by rw[hx,hgl]; simp) (by simp) (fun u hu=>hp u (List.mem_cons_of_mem _ hu)) (by simp[dots]; lia) (by simp at hl ⊢; lia)
   have hl2:(pre++(p++dots)).length=pre.length+p.length+3:=by simp[dots]; lia
   rw[hl2,show x.length+1 - (pre.length+p.length+3)=(glue (q::r)).length+1 by lia] at ih
   rw[show pre.length+p.length+1+1+1=pre.length+p.length+3 by lia,ih]
   rfl
  ·exact absurd (by lia) h
theorem parts_glue (x:List Nat):∀ (ps:List (List Nat)) (pre:List Nat),x=pre++glue ps→ps≠[]→((pre.length::(posOf pre.length ps).map (· +3)).zip (posOf pre.length ps++[x.length])).map (fun (i,j)=>strSub (S x) i j)=ps.map S
 | [],_,_,h=>absurd rfl h
 | [p],pre,hx,_=>by
  have:strSub (S x) pre.length x.length=S p:=by
   unfold strSub S
   rw[hx]
   simp[glue]
  simp[posOf,this]
 | p::q::r,pre,hx,_=>by
  have hgl:glue (p::q::r)=p++(dots++glue (q::r)):=rfl
  have h1:strSub (S x) pre.length (pre.length+p.length)=S p:=by
   unfold strSub S
   rw[hx,hgl]
   simp
  have ih:=parts_glue x (q::r) (pre++(p++dots)) (by rw[hx,hgl]; simp) (by simp)
  have hl2:(pre++(p++dots)).length=pre.length+p.length+3:=by simp[dots]; lia
  rw[hl2] at ih
  rw[show posOf pre.length (p::q::r)=(pre.length+p.length)::posOf (pre.length+p.length+3) (q::r) from rfl]
  rw[List.map_cons,List.cons_append,List.zip_cons_cons,List.map_cons,ih]
  simp[h1]
theorem split_S (p q:List Nat)(r:List (List Nat))(hp:∀ u∈p::q::r,46∉u):Txt.split (S (glue (p::q::r))) "..."=(p::q::r).map S∧Txt.contains (S (glue (p::q::r))) "..."=true:=by
 have hgl:glue (p::q::r)=p++(dots++glue (q::r)):=rfl
 have hl3:3≤(glue (p::q::r)).length:=by rw[hgl]; simp[dots]; lia
 have hnum:∀ ps:List (List Nat),ps.length≤(glue ps).length+1:=by
  intro ps
  induction ps with
  | nil=>simp
  | cons a t ih=>
   cases t with
   | nil=>simp
   | cons b t=>simp only[glue,List.length_append,List.length_cons] at ih ⊢; simp[dots]; lia
 have o1:=occG_pieces (glue (p::q::r)) ((glue (p::q::r)).length+1) (p::q::r) [] 0 0 rfl (by simp) hp (by simp) (by have:=hnum (p::q::r); lia)
 have e1:occurrences (S (glue (p::q::r))) (Str.ofString "...") 0 (S (glue (p::q::r))).length ((S (glue (p::q::r))).length+1)=posOf 0 (p::q::r):=by
  rw[dots_S,occ_S,S_len]
  exact o1
 constructor
 ·unfold Txt.split
  rw[e1]
  have h1:(decide ((S (glue (p::q::r))).length < (Str.ofString "...").length) || decide (PySem.Builtin.Str.strKind (S (glue (p::q::r))) < PySem.Builtin.Str.strKind (Str.ofString "...")))=false:=by
   rw[S_len,show (Str.ofString "...").length=3 by decide+kernel,show PySem.Builtin.Str.strKind (Str.ofString "...")=1 by decide+kernel]
   have:1≤PySem.Builtin.Str.strKind (S (glue (p::q::r))):=by unfold PySem.Builtin.Str.strKind; split <;> (try split) <;> lia
   simp
   lia
  rw[h1]
  simp only[Bool.false_eq_true,if_false]
  rw[show (posOf 0 (p::q::r)).isEmpty=false from rfl]
  simp only[Bool.false_eq_true,if_false]
  unfold partsBetween
  have:=parts_glue (glue (p::q::r)) (p::q::r) [] rfl (by simp)
  rw[show (Str.ofString "...").length=3 by decide+kernel,S_len]
  exact this
 ·have hh:hit (glue (p::q::r)) dots (glue (p::q::r)).length p.length=true:=by
   unfold hit
   rw[hgl,List.drop_left]
   simp only[Bool.and_eq_true,decide_eq_true_eq,beq_iff_eq]
   exact⟨by simp[dots],List.take_left⟩
  unfold Txt.contains
  rw[dots_S,StrLaws.found_iff]
  unfold hit at hh
  simp only[Bool.and_eq_true,decide_eq_true_eq] at hh
  exact⟨p.length,by rw[S_len,S_len]; exact hh.1,by rw[subAt_S]; exact hh.2⟩
open PySem.Builtin PySem.Builtin.Str
theorem starts_S (x y:List Nat):Txt.startswith (S x) (S y)=y.isPrefixOf x:=by
 rw[Bool.eq_iff_iff,isPre_iff]
 unfold Txt.startswith
 rw[subAt_S,S_len,S_len]
 simp only[Bool.and_eq_true,decide_eq_true_eq,List.drop_zero]
 constructor
 ·rintro ⟨h1,h2⟩; exact⟨h2,by lia⟩
 ·rintro ⟨h1,h2⟩; exact⟨by lia,h1⟩
noncomputable def sufB (y x:List Nat):Bool:=decide (y.length≤x.length)&&(x.drop (x.length - y.length)==y)
theorem ends_S (x y:List Nat):Txt.endswith (S x) (S y)=sufB y x:=by
 unfold Txt.endswith sufB
 rw[subAt_S,S_len,S_len,Nat.zero_add]
 by_cases h:y.length≤x.length
 ·rw[List.take_of_length_le (by simp; lia)]
 ·simp[h]
theorem sliceRange_nat (a b:Nat)(h:a≤b):sliceRange (a:Int) (b:Int) 1=List.range' a (b - a):=by
 unfold sliceRange
 rw[if_pos (by decide)]
 have hc:(if (a:Int) < (b:Int) then ((b:Int) - a+1 - 1) / 1 else 0).toNat=b - a:=by
  split <;> simp <;> lia
 simp only[hc]
 rw[List.range'_eq_map_range]
 apply List.map_congr_left
 intro k _
 lia
theorem pick_range (l:List Nat):∀ (c a:Nat),(List.range' a c).filterMap (fun i=>l.toArray[i]?)=(l.drop a).take c
 | 0,a=>by simp
 | c+1,a=>by
  rw[List.range'_succ,List.filterMap_cons,pick_range l c (a+1)]
  simp only[List.getElem?_toArray]
  by_cases h:a < l.length
  ·rw[List.getElem?_eq_getElem h]
   simp only
   rw[List.drop_eq_getElem_cons h,List.take_succ_cons]
  ·rw[List.getElem?_eq_none (by lia),List.drop_of_length_le (by lia),List.drop_of_length_le (by lia)]
   simp
theorem sli_of (l:List Nat)(lo hi:Option Int)(a b:Nat)(h:strSliceIndices lo hi 1 l.length=List.range' a (b - a))(hb:b≤l.length)(hab:a≤b):sliStr (S l) lo hi none=S ((l.drop a).take (b - a)):=by
 unfold sliStr
 simp only[Option.getD_none,S_len,h,List.length_range']
 by_cases hc:b - a=l.length
 ·rw[if_pos (by simp[hc])]
  have ha:a=0:=by lia
  subst ha
  rw[List.drop_zero,List.take_of_length_le (by lia)]
 ·rw[if_neg (by simp[hc])]
  show (⟨((List.range' a (b - a)).filterMap (fun i=>l.toArray[i]?)).toArray⟩:Str)=_
  rw[pick_range]
  rfl
theorem sli_take (l:List Nat)(t:Nat)(h:t≤l.length):sliStr (S l) none (some (t:Int)) none=S (l.take t):=by
 have e:strSliceIndices none (some (t:Int)) 1 l.length=List.range' 0 (t - 0):=by
  rw[← sliceRange_nat 0 t (by lia)]
  unfold strSliceIndices
  simp only[show (1:Int) > 0 by decide,if_true]
  congr 1
  simp only[show ¬ ((t:Int) < 0) by lia,if_false]
  lia
 rw[sli_of l _ _ 0 t e h (by lia),List.drop_zero,Nat.sub_zero]
theorem sli_drop (l:List Nat)(t:Nat)(h:t≤l.length):sliStr (S l) (some (t:Int)) none none=S (l.drop t):=by
 have e:strSliceIndices (some (t:Int)) none 1 l.length=List.range' t (l.length - t):=by
  rw[← sliceRange_nat t l.length h]
  unfold strSliceIndices
  simp only[show (1:Int) > 0 by decide,if_true]
  congr 1
  simp only[show ¬ ((t:Int) < 0) by lia,if_false]
  lia
 rw[sli_of l _ _ t l.length e (by lia) h,List.take_of_length_le (by simp)]
theorem charAt_nat (l:List Nat)(i:Nat):Txt.charAt (S l) (i:Int)=l[i]?:=by
 unfold Txt.charAt
 rw[S_len]
 unfold seqIndex?
 simp only[show ¬ ((i:Int) < 0) by lia,if_false]
 by_cases h:i < l.length
 ·rw[if_pos (by simp; lia)]
  simp[S]
 ·rw[if_neg (by simp; lia),List.getElem?_eq_none (by lia)]
  rfl
theorem charAt_last (l:List Nat)(h:l≠[]):Txt.charAt (S l) (-1)=l[l.length - 1]?:=by
 have hp:0 < l.length:=List.length_pos_iff.mpr h
 unfold Txt.charAt
 rw[S_len]
 unfold seqIndex?
 simp only[show ((-1:Int) < 0) by decide,if_true]
 rw[if_pos (by simp; lia),show (-1+(l.length:Int)).toNat=l.length - 1 by lia]
 simp[S]
theorem item_nat (l:List Nat)(i:Nat):Txt.item (S l) (i:Int)=S [l.getD i 0]:=by
 unfold Txt.item
 rw[charAt_nat]
 simp[S]
theorem item_last (l:List Nat)(h:l≠[]):Txt.item (S l) (-1)=S [l.getD (l.length - 1) 0]:=by
 unfold Txt.item
 rw[charAt_last l h]
 simp[S]
noncomputable def ellL (a:List Nat)(mid:List (List Nat))(b g:List Nat):Bool:=a.isPrefixOf g&&(sufB b g&&(decide (a.length+b.length≤g.length)&&loopL ((g.take (g.length - b.length)).drop a.length) mid))
theorem cutL_nil (r:List Nat):cutL [] r=some r:=by cases r <;> simp[cutL]
theorem loopL_nil (r:List Nat)(ys:List (List Nat)):loopL r ([]::ys)=loopL r ys:=by rw[loopL,cutL_nil]
theorem loopL_end:∀ (ys:List (List Nat)) (r:List Nat),loopL r (ys++[[]])=loopL r ys
 | [],r=>by rw[List.nil_append,loopL_nil]
 | y::ys,r=>by
  rw[List.cons_append,loopL,loopL]
  cases cutL y r with
  | none=>rfl
  | some r=>exact loopL_end ys r
theorem ellP_S (a:List Nat)(mid:List (List Nat))(b g:List Nat):ellP (S a) (mid.map S) (S b) (S g)=ellL a mid b g:=by
 unfold ellP ellL
 rw[starts_S,ends_S,S_len,S_len,S_len]
 have e1:((a.length==0) || a.isPrefixOf g)=a.isPrefixOf g:=by cases a <;> simp
 have e2:((b.length==0) || sufB b g)=sufB b g:=by cases b <;> simp[sufB]
 have e3:decide ((a.length:Int)≤(g.length:Int) - b.length)=decide (a.length+b.length≤g.length):=by rw[decide_eq_decide]; lia
 rw[e1,e2,e3]
 by_cases h:a.length+b.length≤g.length
 ·have e4:((if (a.length==0)=true then [S a] else [])++mid.map S++(if (b.length==0)=true then [S b] else []))=((if (a.length==0)=true then [a] else [])++mid++(if (b.length==0)=true then [b] else [])).map S:=by
   cases a <;> cases b <;> simp
  rw[e4,show (g.length:Int) - b.length=((g.length - b.length:Nat):Int) by lia,loopE_S g (g.length - b.length) (by lia) _ _ (by lia)]
  have e5:∀ r,loopL r ((if (a.length==0)=true then [a] else [])++mid++(if (b.length==0)=true then [b] else []))=loopL r mid:=by
   intro r
   cases a <;> cases b <;> simp[loopL_nil,loopL_end]
  rw[e5]
 ·rw[show decide (a.length+b.length≤g.length)=false by simpa using h]
  simp
theorem ell_S (T:Int→Option Str)(a:List Nat)(mid:List (List Nat))(b g:List Nat)(hd:∀ u∈a::(mid++[b]),46∉u)(hn:mid.length≤900)(hw:(glue (a::(mid++[b]))).length≤100000)(hg:g.length≤100000)
  (hp:∀ w∈a::(mid++[b]),w.length≤100000):∃ σ',runDK (G0 T) 2000 dE [.str (S (glue (a::(mid++[b])))),.str (S g)] []=some (.bool (ellL a mid b g),σ'):=by
 obtain⟨q,r,e⟩:∃ q r,mid++[b]=q::r:=by cases mid <;> simp
 have hs:=split_S a q r (by rw[← e]; exact hd)
 rw[← e] at hs
 rw[← ellP_S]
 exact ell_run T (S (glue (a::(mid++[b])))) (S g) (S a) (S b) (mid.map S) hs.2 (by rw[hs.1]; simp) (by simpa using hn) (by rw[S_len]; exact hw) (by rw[S_len]; exact hg) (by
  intro w h
  have h':w∈(a::(mid++[b])).map S:=by simpa using h
  obtain⟨u,hu,rfl⟩:=List.mem_map.mp h'
  rw[S_len]
  exact hp u hu)
theorem gp {β:Type}{c:Prop} [Decidable c] {x:Option β}(h:c):grd c x=x:=if_pos h
structure EllOk (e:Str→Str→Option Bool):Prop where
 dots:∀ (a:List Nat) (mid:List (List Nat)) (b g:List Nat),(∀ u∈a::(mid++[b]),46∉u)→mid.length≤100→(glue (a::(mid++[b]))).length≤10000→g.length≤10000→e (S (glue (a::(mid++[b])))) (S g)=some (ellL a mid b g)
 none:∀ (w g:List Nat),46∉w→e (S w) (S g)=some (decide (w=g))
theorem getD_mem {w:List Nat}{i:Nat}(h:i < w.length):w.getD i 0∈w:=by
 rw[List.getD_eq_getElem?_getD,List.getElem?_eq_getElem h]; exact List.getElem_mem h
noncomputable def natI (l:List Nat):List Int:=l.map fun (t:Nat)=>(t:Int)
section
variable {e:Str→Str→Option Bool}(H:EllOk e)
include H
theorem el_2p (a b g:List Nat)(ha:46∉a)(hb:46∉b)(hl:a.length+b.length≤9000)(hg:g.length≤10000):e (S (a++dots++b)) (S g)=some (ellL a [] b g):=by
 have h:=H.dots a [] b g (by intro u hu; simp -iota at hu; rcases hu with rfl | rfl <;> assumption) (by simp -iota) (by simp -iota [glue,dots]; lia) hg
 simpa -iota [glue] using h
theorem el_3p (a m b g:List Nat)(ha:46∉a)(hm:46∉m)(hb:46∉b)(hl:a.length+m.length+b.length≤9000)(hg:g.length≤10000):e (S (a++dots++m++dots++b)) (S g)=some (ellL a [m] b g):=by
 have h:=H.dots a [m] b g (by intro u hu; simp -iota at hu; rcases hu with rfl | rfl | rfl <;> assumption) (by simp -iota) (by simp -iota [glue,dots]; lia) hg
 simpa -iota [glue] using h
end
noncomputable def pvT (f:Nat→Bool):PV→Option PV
 | .int i=>if f i.toNat=true then some (.int i) else none
 | _=>none
theorem pvT_range (f:Nat→Bool)(l:List Nat):(l.map fun (k:Nat)=>PV.int (k:Int)).filterMap (pvT f)=iL (natI (l.filter f)):=by
 induction l with
 | nil=>simp -iota [natI,iL]
 | cons a l ih=>
  rw[List.map_cons,List.filterMap_cons,ih]
  have e:pvT f (PV.int (a:Int))=if f a=true then some (PV.int (a:Int)) else none:=by show (if f ((a:Int)).toNat=true then some (PV.int (a:Int)) else none)=_; rw[Int.toNat_natCast]
  rw[e,List.filter_cons]
  by_cases h:f a=true
  ·rw[if_pos h,if_pos h]; rfl
  ·rw[if_neg h,if_neg h]
theorem liftK_some {β:Type}(v:PV)(σ:Sto)(k:PV→Sto→Option β):liftK (some (v,σ)) k=k v σ:=rfl
noncomputable def rgL (m:Nat):List PV:=(List.range m).map fun (j:Nat)=> .int (j:Int)
theorem rgL_len (m:Nat):(rgL m).length=m:=by simp -iota [rgL]
theorem rgL_mem {m:Nat}{v:PV}(h:v∈rgL m):∃ t:Nat,v= .int (t:Int)∧t < m:=by
 obtain⟨t,ht,e⟩:=List.mem_map.mp h
 exact⟨t,e.symm,List.mem_range.mp ht⟩
theorem evItK_rangeN {β:Type}{G:Gl}(n:Nat)(cx:Cx)(σ:Sto)(e:Expr)(k:List PV→Option (Nat×Nat)→Sto→Option β)(h:RgIs cx e)(m:Nat)(hm:m≤1000)
  (hi:∀ K:List PV→Sto→Option β,evsK G n cx σ (rgA e) K=K [.int (m:Int)] σ):evItK G (n+1) cx σ e k=k (rgL m) none σ:=
 (h ..).trans ((hi _).trans (rkG_at ranged m _ (ranged_nat m hm) (fun l=>k l none σ)))
noncomputable def strF' (F:Nat→List Nat):PV→Option PV
 | .int i=>some (.str (S (F i.toNat)))
 | _=>none
theorem strF'_map (F:Nat→List Nat)(m:Nat):(rgL m).filterMap (strF' F)=(((List.range m).map F).map S).map .str:=by
 unfold rgL
 generalize List.range m=l
 induction l with
 | nil=>rfl
 | cons a l ih=>rw[List.map_cons,List.filterMap_cons,ih]; rfl
theorem sum_len (ts:List (List Nat)):((ts.map S).map (·.length)).sum=ts.flatten.length:=by
 induction ts with
 | nil=>rfl
 | cons t ts ih=>
  rw[List.map_cons,List.map_cons,List.sum_cons,ih,List.flatten_cons,List.length_append,S_len]
theorem iL_mem {l:List Nat}:(iL (natI l))=l.map fun (t:Nat)=>PV.int (t:Int):=by simp -iota [iL,natI]
theorem iL_len (l:List Int):(iL l).length=l.length:=by simp -iota [iL]
theorem natI_len (l:List Nat):(natI l).length=l.length:=by simp -iota [natI]
theorem cmp_eq_ints {β:Type}(σ:Sto)(a b:List Int)(k:Bool→Option β)(ha:a.length≤9000)(hb:b.length≤9000):cmpK .Eq (σ++[⟨0,.lst (iL a)⟩]++[⟨0,.lst (iL b)⟩]) (.lst σ.length) (.lst (σ++[⟨0,.lst (iL a)⟩]:Sto).length) k=k (decide (a=b)):=by
 rw[show ∀ (s:Sto) (x y:PV),cmpK .Eq s x y k=opt (eqV s x y) k from fun _ _ _=>rfl,eqV_ints _ _ _ a b (by simp[getL]) (by simp[getL]) ha hb]
 rfl
theorem subK_nat {β:Type}(σ:Sto)(a i:Nat)(xs:List PV)(k:PV→Option β)(hσ:getL σ a=some xs)(hi:i < xs.length)(hl:xs.length≤100000):subK (.lst a) (.int (i:Int)) σ k=k (xs[i]):=by
 have es:seqIndex? (i:Int) xs.length=some i:=by unfold seqIndex?; simp; lia
 have h1:(i:Int) < 2 ^ 63:=Int.lt_of_lt_of_le (Int.ofNat_lt.mpr (Nat.lt_of_lt_of_le hi hl)) (by decide)
 have h0:(-(2 ^ 63):Int)≤i:=Int.le_trans (by decide) (Int.natCast_nonneg i)
 show grd _ (opt (getL σ a) fun xs=>itemK (i:Int) xs k)=_
 rw[hσ]
 refine (gp ⟨h0,h1⟩).trans ?_
 show opt (seqIndex? (i:Int) xs.length) _=_
 rw[es]
 show opt xs[i]? k=_
 rw[List.getElem?_eq_getElem hi]
 rfl
noncomputable abbrev dS:DefP:=defP p3 "_law_spelled"
noncomputable def frTup:List PV:=[.int 0,.int 1,.int 2,.int 4,.int 7,.int 8,.int 9,.int 10,.int 11,.int 12]
noncomputable def unTup:List PV:=[.int 173,.int 847,.int 6150,.int 6155,.int 6156,.int 6157,.int 8203,.int 8204,.int 8205,.int 8288,.int 65279]
theorem dS_body:dS.body=[stAt dS 0,stAt dS 1,stAt dS 2]:=by kernel_rfl!
theorem dS_params:dS.params=(["letters","n"]:List Str):=by kernel_rfl!
noncomputable def sL0 (w:Str)(m:Int):LE:=[("letters",.str w),("n",.int m)]
noncomputable def sL1 (w:Str)(m:Int):LE:=("forms",.lst 0)::sL0 w m
noncomputable def sL2 (x:PV)(w:Str)(m:Int):LE:=("letter",x)::sL1 w m
section
variable {β:Type}(T:Int→Option Str)(E P:Fn)(n:Nat)(w:Str)(m:Int)
theorem sp_0 (k:Fl→Cx→Sto→Option β):exK (G1 T E P) (n+20) ⟨dS.names,sL0 w m⟩ [] (stAt dS 0) k=k .nxt ⟨dS.names,sL1 w m⟩ [⟨0,.lst []⟩]:=by kernel_rfl!
theorem sp_1s:ForIs (stAt dS 1):=fun β G n cx σ k=>by kernel_rfl!
theorem sp_1i (σ:Sto)(k:List PV→Option (Nat×Nat)→Sto→Option β):evItK (G1 T E P) (n+5) ⟨dS.names,sL1 w m⟩ σ (forI (stAt dS 1)) k=k (signs w) none σ:=by kernel_rfl!
noncomputable def spTurn (T:Int→Option Str)(E P:Fn)(c:Nat)(w:Str)(m:Int)(r:Int)(v:Nat)(L:List PV)(k:Fl→Cx→Sto→Option β):Option β:=onB (decide (r < 2))
 (grd ((Txt.upper ⟨#[c]⟩).length≤100000) (subK (.tup [.str ⟨#[c]⟩,.str (Txt.upper ⟨#[c]⟩)]) (.int r) [⟨v,.lst L⟩] fun x=>grd (L.length≤10000) (k .nxt ⟨dS.names,sL2 (.str ⟨#[c]⟩) w m⟩ [⟨v+1,.lst (L++[x])⟩])))
 (subK (.tup frTup) (.int (r - 2)) [⟨v,.lst L⟩] fun x=>binLK .Mult (.int 52) x [⟨v,.lst L⟩] fun r σ=>binLK .Add (.int 119808) r σ fun r σ=>binLK .Add r (.int (c:Int)) σ fun r σ=>binLK .Sub r (.int 97) σ fun r σ=>callBK (G1 T E P) "chr" [r] σ fun x σ'=>grd (kindAt [⟨v,.lst L⟩] (.lst 0)=kindAt σ' (.lst 0)∧accOk [⟨v,.lst L⟩] (.lst 0)=true) (callMK (G1 T E P) (.lst 0) "append" [x] σ' fun _ σ''=>k .nxt ⟨dS.names,sL2 (.str ⟨#[c]⟩) w m⟩ σ''))
theorem sp_t0 (c:Nat)(v:Nat)(L:List PV)(k:Fl→Cx→Sto→Option β):turnK (G1 T E P) (n+40) ⟨dS.names,sL1 w m⟩ (.str ⟨#[c]⟩) [⟨v,.lst L⟩] (stAt dS 1) k=spTurn T E P c w m (Int.fmod m 12) v L k:=by kernel_rfl!
theorem sp_t1 (x:PV)(c:Nat)(v:Nat)(L:List PV)(k:Fl→Cx→Sto→Option β):turnK (G1 T E P) (n+40) ⟨dS.names,sL2 x w m⟩ (.str ⟨#[c]⟩) [⟨v,.lst L⟩] (stAt dS 1) k=spTurn T E P c w m (Int.fmod m 12) v L k:=by kernel_rfl!
theorem sp_2r:RetIs (stAt dS 2):=fun β G n cx σ k=>by kernel_rfl!
theorem sp_2j:JoinIs (retE (stAt dS 2)):=fun β G n cx σ k=>by kernel_rfl!
theorem sp_2e:joinS (retE (stAt dS 2))="":=by kernel_rfl!
theorem sp_2x0 (σ:Sto)(k:PV→Sto→Option β):evK (G1 T E P) (n+5) ⟨dS.names,sL1 w m⟩ σ (joinX (retE (stAt dS 2))) k=k (.lst 0) σ:=by kernel_rfl!
theorem sp_2x1 (x:PV)(σ:Sto)(k:PV→Sto→Option β):evK (G1 T E P) (n+5) ⟨dS.names,sL2 x w m⟩ σ (joinX (retE (stAt dS 2))) k=k (.lst 0) σ:=by kernel_rfl!
end
noncomputable def frL (c:Nat):List Nat:=[c,c - 32,119808+c - 97,119808+52+c - 97,119808+104+c - 97,119808+208+c - 97,119808+364+c - 97,119808+416+c - 97,119808+468+c - 97,119808+520+c - 97,119808+572+c - 97,119808+624+c - 97]
noncomputable def frC (c m:Nat):Nat:=(frL c).getD (m % 12) 0
noncomputable def hp (c:Nat):Prop:=c=104∨c=112
theorem sp_y {β:Type}(T:Int→Option Str)(E P:Fn)(c:Nat)(hc:hp c)(w:Str)(m:Int)(v:Nat)(L:List PV)(k:Fl→Cx→Sto→Option β):∀ y∈List.range 12,
  spTurn T E P c w m (y:Int) v L k=grd (L.length≤10000) (k .nxt ⟨dS.names,sL2 (.str ⟨#[c]⟩) w m⟩ [⟨v+1,.lst (L++[.str ⟨#[(frL c).getD y 0]⟩])⟩]):=by
 rcases hc with rfl | rfl
 ·exact List.map_inj_left.mp (by kernel_rfl!)
 ·exact List.map_inj_left.mp (by kernel_rfl!)
theorem sp_turn {β:Type}(T:Int→Option Str)(E P:Fn)(c:Nat)(hc:hp c)(w:Str)(m:Nat)(v:Nat)(L:List PV)(hL:L.length≤10000)(k:Fl→Cx→Sto→Option β):
  spTurn T E P c w m (Int.fmod m 12) v L k=k .nxt ⟨dS.names,sL2 (.str ⟨#[c]⟩) w m⟩ [⟨v+1,.lst (L++[.str ⟨#[frC c m]⟩])⟩]:=by
 rw[show Int.fmod (m:Int) 12=((m % 12:Nat):Int) from fmod_nat m 12]
 exact (sp_y T E P c hc w m v L k (m % 12) (List.mem_range.mpr (Nat.mod_lt _ (by decide)))).trans (gp hL)
noncomputable abbrev dU:DefP:=defP p3 "_law_unseen"
theorem dU_body:dU.body=[stAt dU 0,stAt dU 1]:=by kernel_rfl!
theorem dU_params:dU.params=(["n"]:List Str):=by kernel_rfl!
noncomputable def unR (G:Gl)(m y:Int):Option (PV×Sto):=onB (decide (y > 10)) (grd (0≤65013+y∧65013+y≤1114111) (some (.str ⟨#[(65013+y).toNat]⟩,[]))) (subK (.tup unTup) (.int y) [] fun x=>callBK G "chr" [x] [] fun r σ=>some (r,σ))
theorem un_0 {β:Type}(T:Int→Option Str)(E P:Fn)(n:Nat)(m:Int)(k:Fl→Cx→Sto→Option β):exK (G1 T E P) (n+20) ⟨dU.names,[("n",.int m)]⟩ [] (stAt dU 0) k=onB (decide (Int.fmod m 27 > 10))
 (grd (0≤65013+Int.fmod m 27∧65013+Int.fmod m 27≤1114111) (k (.ret (.str ⟨#[(65013+Int.fmod m 27).toNat]⟩)) ⟨dU.names,[("n",.int m)]⟩ []))
 (k .nxt ⟨dU.names,[("n",.int m)]⟩ []):=by kernel_rfl!
theorem un_1 {β:Type}(T:Int→Option Str)(E P:Fn)(n:Nat)(m:Int)(k:Fl→Cx→Sto→Option β):exK (G1 T E P) (n+20) ⟨dU.names,[("n",.int m)]⟩ [] (stAt dU 1) k=subK (.tup unTup) (.int (Int.fmod m 27)) [] fun x=>callBK (G1 T E P) "chr" [x] [] fun r σ=>k (.ret r) ⟨dU.names,[("n",.int m)]⟩ σ:=by kernel_rfl!
noncomputable def unL:List Nat:=[173,847,6150,6155,6156,6157,8203,8204,8205,8288,65279,65024,65025,65026,65027,65028,65029,65030,65031,65032,65033,65034,65035,65036,65037,65038,65039]
noncomputable def unC (m:Nat):Nat:=unL.getD (m % 27) 0
theorem un_y (T:Int→Option Str)(E P:Fn)(m:Int):∀ y∈List.range 27,unR (G1 T E P) m (y:Int)=some (.str ⟨#[unL.getD y 0]⟩,[]):=List.map_inj_left.mp (by kernel_rfl!)
theorem unseen_run (T:Int→Option Str)(E P:Fn)(m:Nat):runDK (G1 T E P) 100 dU [.int (m:Int)] []=some (.str ⟨#[unC m]⟩,[]):=by
 have h:=un_y T E P m (m % 27) (List.mem_range.mpr (Nat.mod_lt _ (by decide)))
 rw[← show Int.fmod (m:Int) 27=((m % 27:Nat):Int) from fmod_nat m 27] at h
 refine Eq.trans ?_ h
 rw[runDK_at (le:=[("n",.int m)]) dU_params rfl rfl,dU_body]
 refine (exsK_cons ..).trans ((un_0 T E P 79 _ _).trans ?_)
 unfold unR
 cases decide (Int.fmod (m:Int) 27 > 10) with
 | true=>rfl
 | false=>exact (exsK_cons ..).trans (un_1 T E P 78 _ _)
section
variable {β:Type}(T:Int→Option Str)(E P:Fn)(w:Str)(m:Nat)
theorem sp_loop1:∀ (cs:List Nat) (n:Nat) (x:PV) (v:Nat) (L:List PV),(∀ c∈cs,hp c)→L.length+cs.length≤10000→
  ∃ x' v',∀ k:Fl→Cx→Sto→Option β,exForK (G1 T E P) (n+cs.length+41) ⟨dS.names,sL2 x w m⟩ [⟨v,.lst L⟩] (forT (stAt dS 1)) (forB (stAt dS 1)) none (cs.map fun c=> .str ⟨#[c]⟩) k=
   k .nxt ⟨dS.names,sL2 x' w m⟩ [⟨v',.lst (L++(cs.map fun c=> .str ⟨#[frC c m]⟩))⟩]
 | [],n,x,v,L,_,_=>⟨x,v,fun k=>by rw[List.map_nil,List.map_nil,List.append_nil]; exact exForK_nil (n+40) _ _ _ _ _ _ rfl⟩
 | c::cs,n,x,v,L,hc,hl=>by
  rw[List.length_cons] at hl
  obtain⟨x',v',e⟩:=sp_loop1 cs n (.str ⟨#[c]⟩) (v+1) (L++[.str ⟨#[frC c m]⟩]) (fun d hd=>hc d (List.mem_cons_of_mem _ hd)) (by rw[List.length_append,List.length_singleton]; lia)
  rw[List.map_cons,List.map_cons,List.append_cons]
  exact⟨x',v',fun k=>loopN rfl (fun k=>(sp_t1 T E P (n+cs.length+1) ..).trans (sp_turn T E P c (hc c List.mem_cons_self) w m v L (by lia) k)) (e k)⟩
theorem sp_loop (c:Nat)(cs:List Nat)(n:Nat)(hc:∀ d∈c::cs,hp d)(hl:cs.length≤9000):
  ∃ x' v',∀ k:Fl→Cx→Sto→Option β,exForK (G1 T E P) (n+(c::cs).length+41) ⟨dS.names,sL1 w m⟩ [⟨0,.lst []⟩] (forT (stAt dS 1)) (forB (stAt dS 1)) none ((c::cs).map fun c=> .str ⟨#[c]⟩) k=
   k .nxt ⟨dS.names,sL2 x' w m⟩ [⟨v',.lst ((c::cs).map fun c=> .str ⟨#[frC c m]⟩)⟩]:=by
 obtain⟨x',v',e⟩:=sp_loop1 (β:=β) T E P w m cs n (.str ⟨#[c]⟩) 1 [.str ⟨#[frC c m]⟩] (fun d hd=>hc d (List.mem_cons_of_mem _ hd)) (by rw[List.length_singleton]; lia)
 exact⟨x',v',fun k=>loopN rfl (fun k=>(sp_t0 T E P (n+cs.length+1) ..).trans (sp_turn T E P c (hc c List.mem_cons_self) w m 0 [] (Nat.zero_le _) k)) (e k)⟩
end
theorem ones_flat:∀ l:List Nat,(l.map fun c=>[c]).flatten=l
 | []=>rfl
 | a::l=>congrArg (a::·) (ones_flat l)
theorem ones_S (l:List Nat):((l.map fun c=>[c]).map S)=l.map fun c=>(⟨#[c]⟩:Str):=List.map_map
theorem ones_join (l:List Nat):Txt.join "" (l.map fun c=>(⟨#[c]⟩:Str))=S l:=by rw[← ones_S,join_S,ones_flat]
theorem ones_ok (l:List Nat)(h:l.length≤100000):JoinOk "" (l.map fun c=>(⟨#[c]⟩:Str))=true:=joinOk_of _ _ (by
 rw[← ones_S,sum_len,ones_flat]
 exact Nat.le_trans h (by decide))
theorem spelled_run (T:Int→Option Str)(E P:Fn)(w:List Nat)(hw:∀ c∈w,hp c)(hl:w.length≤100)(m:Nat):∃ σ',runDK (G1 T E P) 500 dS [.str (S w),.int (m:Int)] []=some (.str (S (w.map fun c=>frC c m)),σ'):=by
 have hi1:=fun k=>sp_1i (β:=PV×Sto) T E P 492 (S w) m [⟨0,.lst []⟩] k
 rw[signs_S] at hi1
 rw[runDK_at (le:=sL0 (S w) m) dS_params rfl rfl,dS_body]
 have hm:(w.map fun c=>PV.str ⟨#[frC c m]⟩)=((w.map fun c=>frC c m).map fun c=>(⟨#[c]⟩:Str)).map .str:=by rw[List.map_map,List.map_map]; rfl
 have hk:JoinOk "" ((w.map fun c=>frC c m).map fun c=>(⟨#[c]⟩:Str))=true:=ones_ok _ (by rw[List.length_map]; exact Nat.le_trans hl (by decide))
 have hj:∀ (v:Nat) (K:PV→Sto→Option (PV×Sto)),callMK (G1 T E P) (.str "") "join" [.lst 0] [⟨v,.lst (w.map fun c=>PV.str ⟨#[frC c m]⟩)⟩] K=K (.str (S (w.map fun c=>frC c m))) [⟨v,.lst (w.map fun c=>PV.str ⟨#[frC c m]⟩)⟩]:=fun v K=>
  (join_at "" ((w.map fun c=>frC c m).map fun c=>(⟨#[c]⟩:Str)) _ 0 K (by rw[hm]; rfl) hk).trans (by rw[ones_join])
 cases w with
 | nil=>exact⟨_,seqN (fun k=>sp_0 T E P 479 _ _ k) (seqN (forN sp_1s hi1 fun k=>exForK_nil 496 _ _ _ _ _ _ rfl) (seqR (retN sp_2r fun K=>(sp_2j _ _ 493 _ _ _).trans ((sp_2x0 T E P 489 _ _ _ _).trans (by rw[sp_2e]; exact hj 0 K))) rfl))⟩
 | cons c cs=>
  obtain⟨x',v',e⟩:=sp_loop (β:=PV×Sto) T E P (S (c::cs)) m c cs (456 - (c::cs).length) hw (Nat.le_trans (Nat.le_succ _) (Nat.le_trans hl (by decide)))
  rw[show 456 - (c::cs).length+(c::cs).length+41=497 by lia] at e
  exact⟨_,seqN (fun k=>sp_0 T E P 479 _ _ k) (seqN (forN sp_1s hi1 e) (seqR (retN sp_2r fun K=>(sp_2j _ _ 493 _ _ _).trans ((sp_2x1 T E P 489 _ _ _ _ _).trans (by rw[sp_2e]; exact hj v' K))) rfl))⟩
noncomputable def ansOwn (o:Str→Int→Option Str):Fn:=fun args σ=>two args fun a b=>onStr a fun l=>onInt b fun i=>opt (o l i) fun r=>some (.str r,σ)
noncomputable def ansIS (u:Int→Option Str):Fn:=fun args σ=>one args fun a=>onInt a fun i=>opt (u i) fun r=>some (.str r,σ)
noncomputable def ansSB (b:Str→Option Bool):Fn:=fun args σ=>one args fun a=>onStr a fun w=>opt (b w) fun r=>some (.bool r,σ)
noncomputable def tups (l:List (Str×Str)):List PV:=l.map fun x=> .tup [.str x.1,.str x.2]
noncomputable def ansTups (c:Str→Option (List (Str×Str))):Fn:=fun args σ=>one args fun a=>onStr a fun w=>opt (c w) fun l=>some (.lst σ.length,σ++[⟨0,.lst (tups l)⟩])
noncomputable def four {α β:Type}(l:List α)(f:α→α→α→α→Option β):Option β:=match l with
 | []=>none
 | a::l=>three l fun b c d=>f a b c d
noncomputable def ansFold (f:Str→Str→Str→Int→Option Str):Fn:=fun args σ=>four args fun a b c d=>onStr a fun w=>onStr b fun l=>onStr c fun h=>onInt d fun i=>opt (f w l h i) fun r=>some (.str r,σ)
noncomputable def intsOf:List PV→Option (List Int)
 | []=>some []
 | v::vs=>onInt v fun i=>opt (intsOf vs) fun l=>some (i::l)
noncomputable def ansGr (g:List Int→Option Str):Fn:=fun args σ=>one args fun a=>onLst a fun i=>opt (getL σ i) fun xs=>opt (intsOf xs) fun l=>opt (g l) fun r=>some (.str r,σ++[⟨0,.lst ((xs.drop 1).take 8)⟩])
structure Ans1 where
 sp:Str→Int→Option Str
 un:Int→Option Str
 fo:Str→Str→Str→Int→Option Str
 la:Str→Option Bool
 gr:List Int→Option Str
 cu:Str→Option (List (Str×Str))
noncomputable def own1 (a:Ans1):Str→Option Fn:=fun n=>
 if n="_law_spelled" then some (ansOwn a.sp) else if n="_law_unseen" then some (ansIS a.un) else if n="_law_folded" then some (ansFold a.fo) else if n="_law_laps" then some (ansSB a.la) else if n="_law_grown" then some (ansGr a.gr) else if n="_law_cuts" then some (ansTups a.cu) else none
theorem ansIS_at {u:Int→Option Str}{i:Int}{r:Str}(h:u i=some r)(σ:Sto):ansIS u [.int i] σ=some (.str r,σ):=by
 show opt (u i) _=_
 rw[h]
 rfl
theorem ansOwn_at {o:Str→Int→Option Str}{l:Str}{i:Int}{r:Str}(h:o l i=some r)(σ:Sto):ansOwn o [.str l,.int i] σ=some (.str r,σ):=by
 show opt (o l i) _=_
 rw[h]
 rfl
theorem ansSB_at {b:Str→Option Bool}{w:Str}{r:Bool}(h:b w=some r)(σ:Sto):ansSB b [.str w] σ=some (.bool r,σ):=by
 show opt (b w) _=_
 rw[h]
 rfl
theorem ansTups_at {c:Str→Option (List (Str×Str))}{w:Str}{l:List (Str×Str)}(h:c w=some l)(σ:Sto):ansTups c [.str w] σ=some (.lst σ.length,σ++[⟨0,.lst (tups l)⟩]):=by
 show opt (c w) _=_
 rw[h]
 rfl
theorem ansFold_at {f:Str→Str→Str→Int→Option Str}{w l g:Str}{i:Int}{r:Str}(h:f w l g i=some r)(σ:Sto):ansFold f [.str w,.str l,.str g,.int i] σ=some (.str r,σ):=by
 show opt (f w l g i) _=_
 rw[h]
 rfl
theorem intsOf_iL:∀ l:List Int,intsOf (iL l)=some l
 | []=>rfl
 | i::l=>congrArg (fun o=>opt o fun l=>some (i::l)) (intsOf_iL l)
theorem add_ss {β:Type}(a b:Str)(σ:Sto)(k:PV→Sto→Option β):binLK .Add (.str a) (.str b) σ k=grd ((a++b).length≤100000) (k (.str (a++b)) σ):=rfl
theorem add_S {β:Type}(a b:List Nat)(h:a.length+b.length≤100000)(σ:Sto)(k:PV→Sto→Option β):binLK .Add (.str (S a)) (.str (S b)) σ k=k (.str (S (a++b))) σ:=by
 rw[add_ss,S_app]
 exact gp (by rw[S_len,List.length_append]; exact h)
noncomputable abbrev dP:DefP:=defP p3 "_law_laps"
theorem dP_body:dP.body=[stAt dP 0,stAt dP 1]:=by kernel_rfl!
theorem dP_params:dP.params=(["text"]:List Str):=by kernel_rfl!
noncomputable def pL0 (w:Str):LE:=[("text",.str w)]
noncomputable def pL1 (q:Int)(fr en la:PV)(w:Str):LE:=("front",fr)::("end",en)::("last",la)::("q",.int q)::pL0 w
section
variable {β:Type}(T:Int→Option Str)(e:Str→Str→Option Bool)(P:Fn)(n:Nat)(w la en fr:Str)(q:Int)
theorem lp_0s:ForIs (stAt dP 0):=fun β G n cx σ k=>by kernel_rfl!
theorem lp_0g:RgIs ⟨dP.names,pL0 w⟩ (forI (stAt dP 0)):=fun β G n σ k=>by kernel_rfl!
theorem lp_0i (σ:Sto)(k:List PV→Sto→Option β):evsK (G1 T (elF e) P) (n+10) ⟨dP.names,pL0 w⟩ σ (rgA (forI (stAt dP 0))) k=grd (w.length≤100000) (k [.int 1,.int (Int.fdiv ((w.length:Int)+1) 2)] σ):=by kernel_rfl!
noncomputable def lpIf (e:Str→Str→Option Bool)(w la en fr:Str)(q:Int)(σ:Sto)(k:Fl→Cx→Sto→Option β):Option β:=
 grd (fitsSsize (-1)=true∧(Txt.charAt la (-1)).isSome=true) (grd ((Txt.item la (-1)++"...").length≤100000) (grd ((Txt.item la (-1)++"..."++la).length≤100000) (grd ((Txt.item la (-1)++"..."++la++"...").length≤100000) (grd ((Txt.item la (-1)++"..."++la++"..."++la).length≤100000)
  (liftK (elF e [.str (Txt.item la (-1)++"..."++la++"..."++la),.str en] σ) fun v σ'=>cmpK .Is σ' v (.bool true) fun t=>onB t
  (grd ((fr++"...").length≤100000) (grd ((fr++"..."++la).length≤100000) (liftK (elF e [.str (fr++"..."++la),.str en] σ') fun v2 σ2=>cmpK .Is σ2 v2 (.bool true) fun t2=>onB t2
   (grd ((fr++"...").length≤100000) (grd ((fr++"..."++fr).length≤100000) (liftK (elF e [.str (fr++"..."++fr),.str en] σ2) fun v3 σ3=>cmpK .Is σ3 v3 (.bool false) fun t3=>k (.ret (.bool t3)) ⟨dP.names,("lies",.bool t2)::pL1 q (.str fr) (.str en) (.str la) w⟩ σ3)))
   (k (.ret (.bool t2)) ⟨dP.names,("lies",.bool t2)::pL1 q (.str fr) (.str en) (.str la) w⟩ σ2))))
  (k .nxt ⟨dP.names,pL1 q (.str fr) (.str en) (.str la) w⟩ σ'))))))
noncomputable def lpTurn (e:Str→Str→Option Bool)(w:Str)(q:Int)(σ:Sto)(k:Fl→Cx→Sto→Option β):Option β:=
 grd (w.length≤100000) (grd (Int.natAbs (-2) < bigN∧q.natAbs < bigN) (grd (w.length≤100000) (grd ((sliStr w (some (-2 * q - 1)) none none).length≤100000)
  (lpIf e w (sliStr w (some (-q)) none none) (sliStr w (some (-2 * q - 1)) none none) (sliStr (sliStr w (some (-2 * q - 1)) none none) none (some (q+1)) none) q σ k))))
theorem lp_t0 (σ:Sto)(k:Fl→Cx→Sto→Option β):turnK (G1 T (elF e) P) (n+50) ⟨dP.names,pL0 w⟩ (.int q) σ (stAt dP 0) k=lpTurn e w q σ k:=by kernel_rfl!
theorem lp_t1 (u:Int)(fr en la:PV)(σ:Sto)(k:Fl→Cx→Sto→Option β):turnK (G1 T (elF e) P) (n+50) ⟨dP.names,pL1 u fr en la w⟩ (.int q) σ (stAt dP 0) k=lpTurn e w q σ k:=by kernel_rfl!
theorem lp_1 (cx:Cx)(σ:Sto)(k:Fl→Cx→Sto→Option β):exK (G1 T (elF e) P) (n+20) cx σ (stAt dP 1) k=k (.ret (.bool false)) cx σ:=by kernel_rfl!
end
theorem sli_neg (l:List Nat)(q:Nat)(h1:1≤q)(h:q≤l.length):sliStr (S l) (some (-(q:Int))) none none=S (l.drop (l.length - q)):=by
 have e:Builtin.Str.strSliceIndices (some (-(q:Int))) none 1 l.length=List.range' (l.length - q) (l.length - (l.length - q)):=by
  rw[← sliceRange_nat (l.length - q) l.length (by lia)]
  unfold Builtin.Str.strSliceIndices
  simp only[show (1:Int) > 0 by decide,if_true]
  congr 1
  simp only[show (-(q:Int) < 0) by lia,if_true]
  lia
 rw[sli_of l _ _ (l.length - q) l.length e (Nat.le_refl _) (Nat.sub_le ..),List.take_of_length_le (by rw[List.length_drop]; exact Nat.le_refl _)]
theorem ranged_one (n:Nat)(h:n≤1000):ranged 1 (n:Int) 1=some ((List.range (n - 1)).map fun (k:Nat)=> .int ((1+k:Nat):Int)):=by
 have e:Builtin.Range.rangeSize 1 (n:Int) 1=((n - 1:Nat):Int):=by
  unfold Builtin.Range.rangeSize
  simp
  lia
 unfold ranged
 rw[e,if_pos ⟨by decide,by decide,by
  have fits:∀ x:Int,0≤x→x≤2001→Builtin.Range.rangeFitsLong x=true:=fun x h1 h2=>by
   unfold Builtin.Range.rangeFitsLong
   simp
   lia
  unfold Builtin.Range.small
  rw[e,fits 1 (by lia) (by lia),fits n (by lia) (by lia),if_pos (by decide),fits ((n:Int)+(1 - 1)) (by lia) (by lia)]
  simp
  exact fits _ (by lia) (by lia),by lia,by simp; lia⟩]
 simp
theorem rkG_at2 {β:Type}(r:Int→Int→Int→Option (List PV))(a b:Int)(l:List PV)(h:r a b 1=some l)(k:List PV→Option β):rkG r [.int a,.int b] k=k l:=by
 show opt (r a b 1) k=_
 rw[h]
 rfl
theorem rkG_at3 {β:Type}(r:Int→Int→Int→Option (List PV))(a b c:Int)(l:List PV)(h:r a b c=some l)(k:List PV→Option β):rkG r [.int a,.int b,.int c] k=k l:=by
 show opt (r a b c) k=_
 rw[h]
 rfl
theorem evItK_range1 {β:Type}{G:Gl}(n:Nat)(cx:Cx)(σ:Sto)(e:Expr)(k:List PV→Option (Nat×Nat)→Sto→Option β)(h:RgIs cx e)(m:Nat)(hm:m≤1000)
  (hi:∀ K:List PV→Sto→Option β,evsK G n cx σ (rgA e) K=K [.int 1,.int (m:Int)] σ):evItK G (n+1) cx σ e k=k ((List.range (m - 1)).map fun (j:Nat)=> .int ((1+j:Nat):Int)) none σ:=
 (h ..).trans ((hi _).trans (rkG_at2 ranged 1 m _ (ranged_one m hm) (fun l=>k l none σ)))
noncomputable def lpLast (t:List Nat)(q:Nat):List Nat:=t.drop (t.length - q)
noncomputable def lpEnd (t:List Nat)(q:Nat):List Nat:=t.drop (t.length - (2 * q+1))
noncomputable def lpFront (t:List Nat)(q:Nat):List Nat:=(lpEnd t q).take (q+1)
noncomputable def lq1 (t:List Nat)(q:Nat):Bool:=ellL [(lpLast t q).getD ((lpLast t q).length - 1) 0] [lpLast t q] (lpLast t q) (lpEnd t q)
noncomputable def lq2 (t:List Nat)(q:Nat):Bool:=ellL (lpFront t q) [] (lpLast t q) (lpEnd t q)
noncomputable def lq3 (t:List Nat)(q:Nat):Bool:=ellL (lpFront t q) [] (lpFront t q) (lpEnd t q)
noncomputable def lapsR (t:List Nat):List Nat→Option Bool
 | []=>none
 | j::js=>match lq1 t (1+j) with
  | true=>some (lq2 t (1+j)&&!lq3 t (1+j))
  | false=>lapsR t js
noncomputable def lapsL (t:List Nat):Bool:=(lapsR t (List.range ((t.length+1) / 2 - 1))).getD false
noncomputable def finK {β:Type}(r:Option Bool)(cx:Cx)(σ:Sto)(k:Fl→Cx→Sto→Option β):Option β:=match r with
 | some b=>k (.ret (.bool b)) cx σ
 | none=>k .nxt cx σ
theorem isbF {β:Type}(σ:Sto)(a:Bool)(k:Bool→Option β):cmpK .Is σ (.bool a) (.bool false) k=k (!a):=by cases a <;> rfl
theorem isbT {β:Type}(σ:Sto)(a:Bool)(k:Bool→Option β):cmpK .Is σ (.bool a) (.bool true) k=k a:=by cases a <;> rfl
theorem isnbT {β:Type}(σ:Sto)(a:Bool)(k:Bool→Option β):cmpK .IsNot σ (.bool a) (.bool true) k=k (!a):=by cases a <;> rfl
theorem isnbF {β:Type}(σ:Sto)(a:Bool)(k:Bool→Option β):cmpK .IsNot σ (.bool a) (.bool false) k=k a:=by cases a <;> rfl
noncomputable def pLq (t:List Nat)(q:Nat):LE:=pL1 q (.str (S (lpFront t q))) (.str (S (lpEnd t q))) (.str (S (lpLast t q))) (S t)
section
variable {β:Type}(T:Int→Option Str){e:Str→Str→Option Bool}(P:Fn)(H:EllOk e)(t:List Nat)(ht:t.length≤200)(hd:46∉t)
include H ht hd
theorem lp_if (q:Nat)(h1:1≤q)(h2:2 * q+1≤t.length)(σ:Sto)(k:Fl→Cx→Sto→Option β):
  lpIf e (S t) (S (lpLast t q)) (S (lpEnd t q)) (S (lpFront t q)) (q:Int) σ k=onB (lq1 t q) (k (.ret (.bool (lq2 t q&&!lq3 t q))) ⟨dP.names,("lies",.bool (lq2 t q))::pLq t q⟩ σ) (k .nxt ⟨dP.names,pLq t q⟩ σ):=by
 have d1:46∉lpLast t q:=fun h=>hd (List.mem_of_mem_drop h)
 have d2:46∉lpFront t q:=fun h=>hd (List.mem_of_mem_drop (List.mem_of_mem_take h))
 have l1:(lpLast t q).length=q:=by unfold lpLast; rw[List.length_drop]; lia
 have l2:(lpEnd t q).length=2 * q+1:=by unfold lpEnd; rw[List.length_drop]; lia
 have l3:(lpFront t q).length=q+1:=by unfold lpFront; rw[List.length_take,l2]; lia
 have l0:lpLast t q≠[]:=fun h=>by rw[h] at l1; exact absurd l1 (by rw[List.length_nil]; lia)
 have d3:46∉[(lpLast t q).getD ((lpLast t q).length - 1) 0]:=fun h=>d1 (List.mem_singleton.mp h▸getD_mem (by lia))
 have hdl:dots.length=3:=rfl
 have e1:=el_3p H [(lpLast t q).getD ((lpLast t q).length - 1) 0] (lpLast t q) (lpLast t q) (lpEnd t q) d3 d1 d1 (by rw[List.length_singleton]; lia) (by lia)
 have e2:=el_2p H (lpFront t q) (lpLast t q) (lpEnd t q) d2 d1 (by lia) (by lia)
 have e3:=el_2p H (lpFront t q) (lpFront t q) (lpEnd t q) d2 d2 (by lia) (by lia)
 have g:∀ l:List Nat,l.length≤100000→(S l).length≤100000:=fun l h=>by rw[S_len]; exact h
 unfold lpIf
 rw[item_last _ l0,charAt_last _ l0,show ("...":Str)=S dots from dots_S,S_app,S_app,S_app,S_app,S_app,S_app,S_app,
  gp ⟨by decide,by rw[List.getElem?_eq_getElem (by lia)]; rfl⟩,
  gp (g _ (by simp only[List.length_append,List.length_singleton]; lia)),gp (g _ (by simp only[List.length_append,List.length_singleton]; lia)),gp (g _ (by simp only[List.length_append,List.length_singleton]; lia)),gp (g _ (by simp only[List.length_append,List.length_singleton]; lia)),
  elF_at (show _=some (lq1 t q) from e1),liftK_some,isbT]
 cases lq1 t q with
 | false=>rfl
 | true=>
  show grd _ (grd _ _)=_
  rw[gp (g _ (by simp only[List.length_append]; lia)),gp (g _ (by simp only[List.length_append]; lia)),elF_at (show _=some (lq2 t q) from e2),liftK_some,isbT]
  cases lq2 t q with
  | false=>rfl
  | true=>
   show grd _ (grd _ _)=_
   rw[gp (g _ (by simp only[List.length_append]; lia)),gp (g _ (by simp only[List.length_append]; lia)),elF_at (show _=some (lq3 t q) from e3),liftK_some,isbF]
   rfl
theorem lp_turn (q:Nat)(h1:1≤q)(h2:2 * q+1≤t.length)(σ:Sto)(k:Fl→Cx→Sto→Option β):
  lpTurn e (S t) (q:Int) σ k=onB (lq1 t q) (k (.ret (.bool (lq2 t q&&!lq3 t q))) ⟨dP.names,("lies",.bool (lq2 t q))::pLq t q⟩ σ) (k .nxt ⟨dP.names,pLq t q⟩ σ):=by
 have l2:(lpEnd t q).length=2 * q+1:=by unfold lpEnd; rw[List.length_drop]; lia
 have s1:sliStr (S t) (some (-(q:Int))) none none=S (lpLast t q):=sli_neg t q h1 (by lia)
 have s2:sliStr (S t) (some (-2 * (q:Int) - 1)) none none=S (lpEnd t q):=by
  rw[show -2 * (q:Int) - 1= -((2 * q+1:Nat):Int) by lia]
  exact sli_neg t (2 * q+1) (by lia) h2
 have s3:sliStr (S (lpEnd t q)) none (some ((q:Int)+1)) none=S (lpFront t q):=by
  rw[show (q:Int)+1=((q+1:Nat):Int) from rfl]
  exact sli_take _ _ (by lia)
 unfold lpTurn
 rw[S_len,s1,s2,s3,S_len,gp (by lia),gp ⟨by decide,by unfold bigN; lia⟩,gp (by lia),gp (by lia)]
 exact lp_if H t ht hd q h1 h2 σ k
theorem lp_step {js:List Nat}{j:Nat}{N:Nat}{cx:Cx}{σ:Sto}(h1:∀ k:Fl→Cx→Sto→Option β,turnK (G1 T (elF e) P) N cx (.int ((1+j:Nat):Int)) σ (stAt dP 0) k=lpTurn e (S t) ((1+j:Nat):Int) σ k)(hj:2 * (1+j)+1≤t.length)
  (h2:∃ cx',∀ k:Fl→Cx→Sto→Option β,exForK (G1 T (elF e) P) N ⟨dP.names,pLq t (1+j)⟩ σ (forT (stAt dP 0)) (forB (stAt dP 0)) none (js.map fun (j:Nat)=> .int ((1+j:Nat):Int)) k=finK (lapsR t js) cx' σ k):
  ∃ cx',∀ k:Fl→Cx→Sto→Option β,exForK (G1 T (elF e) P) (N+1) cx σ (forT (stAt dP 0)) (forB (stAt dP 0)) none ((j::js).map fun (j:Nat)=> .int ((1+j:Nat):Int)) k=finK (lapsR t (j::js)) cx' σ k:=by
 have ht:=fun k:Fl→Cx→Sto→Option β=>(exForK_cons N cx σ (stAt dP 0) none (.int ((1+j:Nat):Int)) (js.map fun (j:Nat)=> .int ((1+j:Nat):Int)) k rfl).trans ((h1 _).trans (lp_turn H t ht hd (1+j) (Nat.le_add_right ..) hj σ _))
 show ∃ cx',∀ k:Fl→Cx→Sto→Option β,exForK (G1 T (elF e) P) (N+1) cx σ (forT (stAt dP 0)) (forB (stAt dP 0)) none (.int ((1+j:Nat):Int)::js.map fun (j:Nat)=> .int ((1+j:Nat):Int)) k=finK (match lq1 t (1+j) with | true=>some (lq2 t (1+j)&&!lq3 t (1+j)) | false=>lapsR t js) cx' σ k
 cases hq:lq1 t (1+j) with
 | true=>exact⟨_,fun k=>(ht k).trans (by rw[hq]; rfl)⟩
 | false=>
  obtain⟨cx',h2⟩:=h2
  exact⟨cx',fun k=>(ht k).trans (by rw[hq]; exact h2 k)⟩
theorem lp_loop1 (σ:Sto):∀ (js:List Nat) (n:Nat) (u:Int) (fr en la:PV),(∀ j∈js,2 * (1+j)+1≤t.length)→
  ∃ cx',∀ k:Fl→Cx→Sto→Option β,exForK (G1 T (elF e) P) (n+js.length+51) ⟨dP.names,pL1 u fr en la (S t)⟩ σ (forT (stAt dP 0)) (forB (stAt dP 0)) none (js.map fun (j:Nat)=> .int ((1+j:Nat):Int)) k=finK (lapsR t js) cx' σ k
 | [],n,u,fr,en,la,_=>⟨_,fun k=>exForK_nil (n+50) _ _ _ _ _ _ rfl⟩
 | j::js,n,u,fr,en,la,hj=>lp_step T P H t ht hd (N:=n+js.length+51) (fun k=>lp_t1 T e P (n+js.length+1) ..) (hj j List.mem_cons_self) (lp_loop1 σ js n _ _ _ _ fun i hi=>hj i (List.mem_cons_of_mem _ hi))
theorem laps_run:∃ σ',runDK (G1 T (elF e) P) 2000 dP [.str (S t)] []=some (.bool (lapsL t),σ'):=by
 have hdiv:Int.fdiv ((t.length:Int)+1) 2=(((t.length+1) / 2:Nat):Int):=fdiv_nat (t.length+1) 2
 have hi1:=fun K=>evItK_range1 (β:=PV×Sto) (G:=G1 T (elF e) P) 1997 ⟨dP.names,pL0 (S t)⟩ [] (forI (stAt dP 0)) K (lp_0g _) ((t.length+1) / 2) (by lia) fun K=>(lp_0i T e P 1987 (S t) [] K).trans (by rw[S_len,gp (Nat.le_trans ht (by decide)),hdiv])
 rw[runDK_at (le:=pL0 (S t)) dP_params rfl rfl,dP_body]
 have hr:∀ j∈List.range ((t.length+1) / 2 - 1),2 * (1+j)+1≤t.length:=fun j h=>by have:=List.mem_range.mp h; lia
 have hl:(List.range ((t.length+1) / 2 - 1)).length≤100:=by rw[List.length_range]; lia
 have main:∃ cx',∀ k:Fl→Cx→Sto→Option (PV×Sto),exForK (G1 T (elF e) P) 1998 ⟨dP.names,pL0 (S t)⟩ [] (forT (stAt dP 0)) (forB (stAt dP 0)) none ((List.range ((t.length+1) / 2 - 1)).map fun (j:Nat)=> .int ((1+j:Nat):Int)) k=finK (lapsR t (List.range ((t.length+1) / 2 - 1))) cx' [] k:=by
  cases hz:List.range ((t.length+1) / 2 - 1) with
  | nil=>exact⟨_,fun k=>exForK_nil 1997 _ _ _ _ _ _ rfl⟩
  | cons j js=>
   rw[hz] at hr hl
   have L:=lp_loop1 (β:=PV×Sto) T P H t ht hd [] js (1946 - js.length) ((1+j:Nat):Int) (.str (S (lpFront t (1+j)))) (.str (S (lpEnd t (1+j)))) (.str (S (lpLast t (1+j)))) fun i hi=>hr i (List.mem_cons_of_mem _ hi)
   rw[show 1946 - js.length+js.length+51=1997 by rw[List.length_cons] at hl; lia] at L
   exact lp_step T P H t ht hd (N:=1997) (fun k=>lp_t0 T e P 1947 ..) (hr j List.mem_cons_self) L
 obtain⟨cx',e1⟩:=main
 refine⟨[],(exsK_cons ..).trans ((lp_0s _ _ 1998 _ _ _).trans ((hi1 _).trans ((e1 _).trans ?_)))⟩
 unfold lapsL
 cases lapsR t (List.range ((t.length+1) / 2 - 1)) with
 | some b=>rfl
 | none=>exact seqR (fun k=>lp_1 T e P 1978 _ _ k) rfl
end
theorem lc_items {β:Type}{G:Gl}{M:Nat}{cx:Cx}{σ σ₁:Sto}{e:Expr}{items:List PV}(hM:items.length+21≤M)(hlc:LcIs cx e)(hit:∀ K:List PV→Option (Nat×Nat)→Sto→Option β,evItK G M cx σ (lcI e) K=K items none σ₁)
  (b:PV→LE) (f:PV→Option PV) (hb0:∀ v∈items,bindT ⟨lcN e,capt cx (lcN e)⟩ (lcT e) v=some ⟨lcN e,b v⟩) (hb:∀ v∈items,∀ u,bindT ⟨lcN e,b u⟩ (lcT e) v=some ⟨lcN e,b v⟩)
  (hf:∀ v∈items,∀ n (K:Option PV→Sto→Option β),compB G (n+20) ⟨lcN e,b v⟩ σ₁ e K=K (f v) σ₁) (hl:items.length≤100000) (k:PV→Sto→Option β):
  evK G (M+1) cx σ e k=k (.lst σ₁.length) (σ₁++[⟨0,.lst (items.filterMap f)⟩]):=by
 obtain⟨n,rfl⟩:∃ n,M=n+(20+1)+items.length:=⟨M - 21 - items.length,by lia⟩
 exact (hlc ..).trans ((hit _).trans ((comp_map (w:=none) f 20 rfl items n (fun vs σ₂=>grd (vs.length≤100000) (k (.lst σ₂.length) (σ₂++[⟨0,.lst vs⟩]))) hb0 hb hf).trans (if_pos (Nat.le_trans (List.length_filterMap_le ..) hl))))
theorem fits_nat {k:Nat}(h:k≤100000):fitsSsize (k:Int)=true:=by
 unfold fitsSsize
 rw[decide_eq_false (Int.not_lt.mpr (Int.le_trans (by decide) (Int.natCast_nonneg k))),decide_eq_false (Int.not_le.mpr (Int.lt_of_le_of_lt (Int.ofNat_le.mpr h) (by decide)))]
 rfl
theorem ranged_two (m:Nat)(h:m≤1000):ranged 0 ((2 * m:Nat):Int) 2=some (((List.range m).map fun k=>2 * k).map fun (k:Nat)=> .int (k:Int)):=by
 have e:Builtin.Range.rangeSize 0 ((2 * m:Nat):Int) 2=m:=by
  unfold Builtin.Range.rangeSize
  simp
  lia
 unfold ranged
 rw[e,if_pos ⟨by decide,by decide,by
  have fits:∀ x:Int,0≤x→x≤3001→Builtin.Range.rangeFitsLong x=true:=fun x h1 h2=>by
   unfold Builtin.Range.rangeFitsLong
   simp
   lia
  unfold Builtin.Range.small
  rw[e,fits 0 (by lia) (by lia),fits ((2 * m:Nat):Int) (by lia) (by lia),fits 2 (by lia) (by lia),if_pos (by decide),fits (((2 * m:Nat):Int)+(2 - 1)) (by lia) (by lia)]
  simp
  exact fits _ (by lia) (by lia),by lia,by simpa using h⟩,List.map_map]
 congr 1
 apply List.map_congr_left
 intro k _
 show PV.int (0+2 * (k:Int))=PV.int ((2 * k:Nat):Int)
 congr 1
 lia
theorem sli_ab (l:List Nat)(a b:Nat)(h1:a≤b)(h2:b≤l.length):sliStr (S l) (some (a:Int)) (some (b:Int)) none=S ((l.drop a).take (b - a)):=by
 have e:Builtin.Str.strSliceIndices (some (a:Int)) (some (b:Int)) 1 l.length=List.range' a (b - a):=by
  rw[← sliceRange_nat a b h1]
  unfold Builtin.Str.strSliceIndices
  simp only[show (1:Int) > 0 by decide,if_true]
  congr 1
  ·simp only[show ¬ ((a:Int) < 0) by lia,if_false]
   lia
  ·simp only[show ¬ ((b:Int) < 0) by lia,if_false]
   lia
 exact sli_of l _ _ a b e h2 h1
noncomputable abbrev dK:DefP:=defP p3 "_law_cuts"
theorem dK_body:dK.body=[stAt dK 0,stAt dK 1,stAt dK 2]:=by kernel_rfl!
theorem dK_params:dK.params=(["text"]:List Str):=by kernel_rfl!
noncomputable def stIn (l:List Stmt)(i:Nat):Stmt:=match l[i]? with
 | some st=>st
 | none=> .Pass default
noncomputable def cuL0 (t:Str):LE:=[("text",.str t)]
noncomputable def cuL1 (t:Str):LE:=("cuts",.lst 0)::cuL0 t
noncomputable def cuF (fr:PV)(t:Str):LE:=("front",fr)::cuL1 t
noncomputable def cuE (inn bk fr:PV)(t:Str):LE:=("inner",inn)::("back",bk)::("front",fr)::cuL1 t
noncomputable def cuG (fr inn bk:PV)(t:Str):LE:=("front",fr)::("inner",inn)::("back",bk)::cuL1 t
noncomputable def iK:Stmt:=stIn (forB (stAt dK 1)) 0
noncomputable def ckB (i:Nat):Stmt:=stIn (forB iK) i
noncomputable def five:List PV:=[.str "",.str "h",.str "p",.str "hh",.str "pp"]
noncomputable def iK2:Stmt:=stIn (ifA (ckB 1)) 0
noncomputable def eK2:Expr:=cmpL (ifT iK2)
noncomputable def cuC (inn:Str):LE:=[("inner",.str inn)]
noncomputable def cuB0 (fr:PV)(bk:PV)(t:Str):LE:=("back",bk)::cuF fr t
noncomputable def cuB1 (bk inn fr:PV)(t:Str):LE:=("back",bk)::("inner",inn)::("front",fr)::cuL1 t
noncomputable def cuB2 (bk fr inn:PV)(t:Str):LE:=("back",bk)::("front",fr)::("inner",inn)::cuL1 t
section
variable {β:Type}(T:Int→Option Str)(e:Str→Str→Option Bool)(P:Fn)(n:Nat)(t fr bk inn:Str)
theorem cu_0 (k:Fl→Cx→Sto→Option β):exK (G1 T (elF e) P) (n+20) ⟨dK.names,cuL0 t⟩ [] (stAt dK 0) k=k .nxt ⟨dK.names,cuL1 t⟩ [⟨0,.lst []⟩]:=by kernel_rfl!
theorem cu_1s:ForIs (stAt dK 1):=fun β G n cx σ k=>by kernel_rfl!
theorem cu_1i (σ:Sto)(k:List PV→Option (Nat×Nat)→Sto→Option β):evItK (G1 T (elF e) P) (n+20) ⟨dK.names,cuL1 t⟩ σ (forI (stAt dK 1)) k=k five none σ:=by kernel_rfl!
theorem cu_1B:forB (stAt dK 1)=[iK]:=by kernel_rfl!
theorem cu_t0 (v:PV):bindT ⟨dK.names,cuL1 t⟩ (forT (stAt dK 1)) v=some ⟨dK.names,cuF v t⟩:=by kernel_rfl!
theorem cu_t1 (u a b v:PV):bindT ⟨dK.names,cuE u a b t⟩ (forT (stAt dK 1)) v=some ⟨dK.names,cuG v u a t⟩:=by kernel_rfl!
theorem cu_is:ForIs iK:=fun β G n cx σ k=>by kernel_rfl!
theorem cu_ii0 (v:PV)(σ:Sto)(k:List PV→Option (Nat×Nat)→Sto→Option β):evItK (G1 T (elF e) P) (n+20) ⟨dK.names,cuF v t⟩ σ (forI iK) k=k five none σ:=by kernel_rfl!
theorem cu_ii1 (v u a:PV)(σ:Sto)(k:List PV→Option (Nat×Nat)→Sto→Option β):evItK (G1 T (elF e) P) (n+20) ⟨dK.names,cuG v u a t⟩ σ (forI iK) k=k five none σ:=by kernel_rfl!
theorem cu_iB:forB iK=[ckB 0,ckB 1]:=by kernel_rfl!
theorem cu_b0 (v x:PV):bindT ⟨dK.names,cuF v t⟩ (forT iK) x=some ⟨dK.names,cuB0 v x t⟩:=by kernel_rfl!
theorem cu_b1 (u a v x:PV):bindT ⟨dK.names,cuE u a v t⟩ (forT iK) x=some ⟨dK.names,cuB1 x u v t⟩:=by kernel_rfl!
theorem cu_b2 (v u a x:PV):bindT ⟨dK.names,cuG v u a t⟩ (forT iK) x=some ⟨dK.names,cuB2 x v u t⟩:=by kernel_rfl!
noncomputable def cuIn (t fr bk:Str)(σ:Sto)(k:Fl→Cx→Sto→Option β):Option β:=
 grd (fr.length≤100000) (grd (t.length≤100000) (grd (bk.length≤100000) (grd (t.length≤100000) (k .nxt ⟨dK.names,cuE (.str (sliStr t (some fr.length) (some ((t.length:Int) - bk.length)) none)) (.str bk) (.str fr) t⟩ σ))))
theorem cu_00 (σ:Sto)(k:Fl→Cx→Sto→Option β):exK (G1 T (elF e) P) (n+20) ⟨dK.names,cuB0 (.str fr) (.str bk) t⟩ σ (ckB 0) k=cuIn t fr bk σ k:=by kernel_rfl!
theorem cu_01 (u:PV)(σ:Sto)(k:Fl→Cx→Sto→Option β):exK (G1 T (elF e) P) (n+20) ⟨dK.names,cuB1 (.str bk) u (.str fr) t⟩ σ (ckB 0) k=cuIn t fr bk σ k:=by kernel_rfl!
theorem cu_02 (u:PV)(σ:Sto)(k:Fl→Cx→Sto→Option β):exK (G1 T (elF e) P) (n+20) ⟨dK.names,cuB2 (.str bk) (.str fr) u t⟩ σ (ckB 0) k=cuIn t fr bk σ k:=by kernel_rfl!
theorem cu_if:IfIs (ckB 1):=fun β G n cx σ k=>by kernel_rfl!
theorem cu_ifB:ifB (ckB 1)=[]:=by kernel_rfl!
theorem cu_ifA:ifA (ckB 1)=[iK2]:=by kernel_rfl!
theorem cu_ift (σ:Sto)(k:Bool→Sto→Option β):isTK (G1 T (elF e) P) (n+30) ⟨dK.names,cuE (.str inn) (.str bk) (.str fr) t⟩ σ (ifT (ckB 1)) k=
 grd (inn.length≤100000) (onB (decide (Int.fmod (inn.length:Int) 2=0))
  (grd ((fr++"...").length≤100000) (grd ((fr++"..."++bk).length≤100000) (liftK (elF e [.str (fr++"..."++bk),.str t] σ) fun v σ'=>cmpK .Is σ' v (.bool true) fun t=>onB t (k true σ') (k false σ'))))
  (k false σ)):=by kernel_rfl!
theorem cu_2if:IfIs iK2:=fun β G n cx σ k=>by kernel_rfl!
theorem cu_2B:ifB iK2=[]:=by kernel_rfl!
theorem cu_2c:CmpIs (ifT iK2):=fun β G n cx σ k=>by kernel_rfl!
theorem cu_2o:cmpO (ifT iK2)= .Eq:=by kernel_rfl!
theorem cu_2r (cx:Cx)(σ:Sto)(k:PV→Sto→Option β):evK (G1 T (elF e) P) (n+5) cx σ (cmpR (ifT iK2)) k=k (.lst σ.length) (σ++[⟨0,.lst []⟩]):=by kernel_rfl!
theorem cu_2l:LcIs ⟨dK.names,cuE (.str inn) (.str bk) (.str fr) t⟩ eK2:=fun β G n σ k=>by kernel_rfl!
theorem cu_2g:RgIs ⟨dK.names,cuE (.str inn) (.str bk) (.str fr) t⟩ (lcI eK2):=fun β G n σ k=>by kernel_rfl!
theorem cu_2i (σ:Sto)(k:List PV→Sto→Option β):evsK (G1 T (elF e) P) (n+10) ⟨dK.names,cuE (.str inn) (.str bk) (.str fr) t⟩ σ (rgA (lcI eK2)) k=grd (inn.length≤100000) (k [.int 0,.int inn.length,.int 2] σ):=by kernel_rfl!
theorem cu_2a (v:PV):bindT ⟨lcN eK2,capt ⟨dK.names,cuE (.str inn) (.str bk) (.str fr) t⟩ (lcN eK2)⟩ (lcT eK2) v=some ⟨lcN eK2,("k",v)::cuC inn⟩:=by kernel_rfl!
theorem cu_2b (u v:PV):bindT ⟨lcN eK2,("k",u)::cuC inn⟩ (lcT eK2) v=some ⟨lcN eK2,("k",v)::cuC inn⟩:=by kernel_rfl!
theorem cu_2d (i:Int)(σ:Sto)(K:Option PV→Sto→Option β):compB (G1 T (elF e) P) (n+20) ⟨lcN eK2,("k",.int i)::cuC inn⟩ σ eK2 K=
 grd (fitsSsize i=true∧(Txt.charAt inn i).isSome=true) (grd (fitsSsize (i+1)=true∧(Txt.charAt inn (i+1)).isSome=true) (onB (decide (Txt.item inn i=Txt.item inn (i+1))) (K (some (.int i)) σ) (K none σ))):=by kernel_rfl!
theorem cu_2A (v:Nat)(L:List PV)(σ:Sto)(k:Fl→Cx→Sto→Option β):exsK (G1 T (elF e) P) (n+20) ⟨dK.names,cuE (.str inn) (.str bk) (.str fr) t⟩ (⟨v,.lst L⟩::σ) (ifA iK2) k=grd (L.length≤10000) (k .nxt ⟨dK.names,cuE (.str inn) (.str bk) (.str fr) t⟩ (⟨v+1,.lst (L++[.tup [.str fr,.str bk]])⟩::σ)):=by kernel_rfl!
theorem cu_20 (σ:Sto)(k:Fl→Cx→Sto→Option β)(a b c:PV):exK (G1 T (elF e) P) (n+20) ⟨dK.names,cuE a b c t⟩ σ (stAt dK 2) k=k (.ret (.lst 0)) ⟨dK.names,cuE a b c t⟩ σ:=by kernel_rfl!
end
noncomputable def cutIn (t fr bk:List Nat):List Nat:=(t.drop fr.length).take (t.length - bk.length - fr.length)
noncomputable def likeAt (l:List Nat)(k:Nat):Bool:=decide (l.getD k 0=l.getD (k+1) 0)
noncomputable def likes (l:List Nat):List Nat:=((List.range (l.length / 2)).map fun k=>2 * k).filter (likeAt l)
noncomputable def cutQ (t fr bk:List Nat):Bool:=decide ((cutIn t fr bk).length % 2=0)&&(ellL fr [] bk t&&(likes (cutIn t fr bk)).isEmpty)
noncomputable def cutI (t fr bk:List Nat):List (List Nat×List Nat):=match cutQ t fr bk with
 | true=>[(fr,bk)]
 | false=>[]
noncomputable def tupL (l:List (List Nat×List Nat)):List PV:=l.map fun x=> .tup [.str (S x.1),.str (S x.2)]
noncomputable def fiveL:List (List Nat):=[[],[104],[112],[104,104],[112,112]]
noncomputable def cutsL (t:List Nat):List (List Nat×List Nat):=fiveL.flatMap fun fr=>fiveL.flatMap fun bk=>cutI t fr bk
theorem five_S:five=fiveL.map fun l=> .str (S l):=by
 have e:([("":Str),"h","p","hh","pp"]:List Str)=fiveL.map S:=by decide+kernel
 exact (congrArg (List.map PV.str) e).trans List.map_map
theorem like_comp {β:Type}(T:Int→Option Str)(e:Str→Str→Option Bool)(P:Fn)(l:List Nat)(hl:l.length≤200)(m k:Nat)(hm:l.length=2 * m)(hk:k < m)(n:Nat)(σ:Sto)(K:Option PV→Sto→Option β):
  compB (G1 T (elF e) P) (n+20) ⟨lcN eK2,("k",.int ((2 * k:Nat):Int))::cuC (S l)⟩ σ eK2 K=K (pvT (likeAt l) (.int ((2 * k:Nat):Int))) σ:=by
 have c1:(l[2 * k]?).isSome=true:=by rw[List.getElem?_eq_getElem (by lia)]; rfl
 have c2:(l[2 * k+1]?).isSome=true:=by rw[List.getElem?_eq_getElem (by lia)]; rfl
 refine (cu_2d T e P n (S l) _ σ K).trans ?_
 rw[show ((2 * k:Nat):Int)+1=((2 * k+1:Nat):Int) from rfl,charAt_nat,charAt_nat,item_nat,item_nat,gp ⟨fits_nat (by lia),c1⟩,gp ⟨fits_nat (by lia),c2⟩]
 have hs:(S [l.getD (2 * k) 0]=S [l.getD (2 * k+1) 0])↔l.getD (2 * k) 0=l.getD (2 * k+1) 0:=S_inj.trans ⟨fun h=>(List.cons.inj h).1,fun h=>congrArg (fun x=>[x]) h⟩
 show _=K (if likeAt l (((2 * k:Nat):Int)).toNat=true then some (.int ((2 * k:Nat):Int)) else none) σ
 rw[Int.toNat_natCast]
 unfold likeAt
 by_cases h:l.getD (2 * k) 0=l.getD (2 * k+1) 0
 ·rw[decide_eq_true (hs.mpr h),if_pos (decide_eq_true h)]; rfl
 ·rw[decide_eq_false (fun x=>h (hs.mp x)),if_neg (by rw[decide_eq_false h]; exact Bool.false_ne_true)]; rfl
theorem onB_T {β:Type}(x y:Option β):onB true x y=x:=rfl
theorem onB_F {β:Type}(x y:Option β):onB false x y=y:=rfl
theorem natI_nil (l:List Nat):decide (natI l=[])=l.isEmpty:=by cases l <;> rfl
section
variable {β:Type}(T:Int→Option Str){e:Str→Str→Option Bool}(P:Fn)(H:EllOk e)(t:List Nat)(ht:t.length≤200)(ht4:4≤t.length)(fr bk:List Nat)(hf:fr.length≤2)(hb:bk.length≤2)(df:46∉fr)(db:46∉bk)
noncomputable def cuX (t fr bk:List Nat):Cx:=⟨dK.names,cuE (.str (S (cutIn t fr bk))) (.str (S bk)) (.str (S fr)) (S t)⟩
include ht ht4 hf hb
theorem cutIn_len:(cutIn t fr bk).length=t.length - bk.length - fr.length:=by
 unfold cutIn
 rw[List.length_take,List.length_drop]
 lia
theorem cuIn_at (σ:Sto)(k:Fl→Cx→Sto→Option β):cuIn (S t) (S fr) (S bk) σ k=k .nxt (cuX t fr bk) σ:=by
 have h:((t.length:Int) - (bk.length:Int))=((t.length - bk.length:Nat):Int):=by lia
 unfold cuIn
 rw[S_len,S_len,S_len,gp (by lia),gp (by lia),gp (by lia),gp (by lia),h,sli_ab t fr.length (t.length - bk.length) (by lia) (Nat.sub_le ..)]
 rfl
include H df db
theorem cu_test (n:Nat)(σ:Sto)(k:Bool→Sto→Option β):isTK (G1 T (elF e) P) (n+30) (cuX t fr bk) σ (ifT (ckB 1)) k=k (decide ((cutIn t fr bk).length % 2=0)&&ellL fr [] bk t) σ:=by
 have hl:=cutIn_len t ht ht4 fr bk hf hb
 have e1:=el_2p H fr bk t df db (by lia) (by lia)
 have hm:(Int.fmod ((cutIn t fr bk).length:Int) 2=0)↔(cutIn t fr bk).length % 2=0:=by
  rw[show Int.fmod ((cutIn t fr bk).length:Int) 2=(((cutIn t fr bk).length % 2:Nat):Int) from fmod_nat _ 2]
  exact Int.ofNat_inj (n:=0)
 have hdl:dots.length=3:=rfl
 refine (cu_ift T e P n (S t) (S fr) (S bk) (S (cutIn t fr bk)) σ k).trans ?_
 rw[S_len,gp (by lia),decide_eq_decide.mpr hm,show ("...":Str)=S dots from dots_S,S_app,S_app,S_len,S_len]
 cases decide ((cutIn t fr bk).length % 2=0) with
 | false=>rfl
 | true=>
  show grd _ (grd _ _)=_
  rw[gp (by rw[List.length_append]; lia),gp (by rw[List.length_append,List.length_append]; lia),elF_at e1,liftK_some,isbT]
  cases ellL fr [] bk t <;> rfl
theorem cu_body (n v:Nat)(hn:250≤n)(L:List PV)(g:Sto)(hL:L.length≤1000){cx:Cx}(h0:∀ k:Fl→Cx→Sto→Option β,exK (G1 T (elF e) P) (n+49) cx (⟨v,.lst L⟩::g) (ckB 0) k=cuIn (S t) (S fr) (S bk) (⟨v,.lst L⟩::g) k):
  ∃ v' g',∀ k:Fl→Cx→Sto→Option β,exsK (G1 T (elF e) P) (n+50) cx (⟨v,.lst L⟩::g) [ckB 0,ckB 1] k=k .nxt (cuX t fr bk) (⟨v',.lst (L++tupL (cutI t fr bk))⟩::g'):=by
 have hl:=cutIn_len t ht ht4 fr bk hf hb
 have s1:=fun k:Fl→Cx→Sto→Option β=>(h0 k).trans (cuIn_at t ht ht4 fr bk hf hb _ k)
 have t1:=fun k:Bool→Sto→Option β=>cu_test T P H t ht ht4 fr bk hf hb df db (n+17) (⟨v,.lst L⟩::g) k
 have s2:=fun k:Fl→Cx→Sto→Option β=>(cu_if _ (G1 T (elF e) P) (n+47) (cuX t fr bk) (⟨v,.lst L⟩::g) k).trans (t1 _)
 have no:cutQ t fr bk=false→L++tupL (cutI t fr bk)=L:=fun h=>by
  unfold cutI
  rw[h]
  exact List.append_nil L
 cases hq:(decide ((cutIn t fr bk).length % 2=0)&&ellL fr [] bk t) with
 | false=>
  rw[hq] at s2
  refine⟨v,g,fun k=>seqN s1 (seqN (fun k=>(s2 k).trans ?_) rfl)⟩
  rw[no (by unfold cutQ; rw[← Bool.and_assoc,hq]; rfl),cu_ifB]
  rfl
 | true=>
  rw[hq] at s2
  obtain⟨q1,q2⟩:=(Bool.and_eq_true ..).mp hq
  obtain⟨m,hm⟩:∃ m,(cutIn t fr bk).length=2 * m:=⟨(cutIn t fr bk).length / 2,by have:=of_decide_eq_true q1; lia⟩
  have hit:=fun K:List PV→Option (Nat×Nat)→Sto→Option β=>(cu_2g (S t) (S fr) (S bk) (S (cutIn t fr bk)) _ (G1 T (elF e) P) (n+42) (⟨v,.lst L⟩::g) K).trans ((cu_2i T e P (n+32) _ _ _ _ _ _).trans
   ((gp (by rw[S_len]; lia)).trans (rkG_at3 ranged 0 ((S (cutIn t fr bk)).length:Int) 2 _ (by rw[S_len,hm]; exact ranged_two m (by lia)) (fun l=>K l none (⟨v,.lst L⟩::g)))))
  have lc:=fun k=>lc_items (M:=n+43) (items:=((List.range m).map fun k=>2 * k).map fun (k:Nat)=>PV.int (k:Int)) (by rw[List.length_map,List.length_map,List.length_range]; lia) (cu_2l (S t) (S fr) (S bk) (S (cutIn t fr bk))) hit
   (fun v=>("k",v)::cuC (S (cutIn t fr bk))) (pvT (likeAt (cutIn t fr bk))) (fun v _=>cu_2a _ _ _ _ v) (fun v _ u=>cu_2b _ u v) (fun v hv n K=>by
    obtain⟨j,hj,rfl⟩:=List.mem_map.mp hv
    obtain⟨i,hi,rfl⟩:=List.mem_map.mp hj
    exact like_comp T e P (cutIn t fr bk) (by lia) m i hm (List.mem_range.mp hi) n _ K) (by rw[List.length_map,List.length_map,List.length_range]; lia) k
  have hlk:((List.range m).map fun k=>2 * k).filter (likeAt (cutIn t fr bk))=likes (cutIn t fr bk):=by
   unfold likes
   rw[hm,Nat.mul_div_cancel_left m (by decide)]
  rw[pvT_range,hlk] at lc
  have hll:(natI (likes (cutIn t fr bk))).length≤9000:=by
   rw[natI_len]
   unfold likes
   refine Nat.le_trans (List.length_filter_le ..) ?_
   rw[List.length_map,List.length_range]
   lia
  have s3:∀ k:Fl→Cx→Sto→Option β,exK (G1 T (elF e) P) (n+46) (cuX t fr bk) (⟨v,.lst L⟩::g) iK2 k=onB ((likes (cutIn t fr bk)).isEmpty)
    (exsK (G1 T (elF e) P) (n+45) (cuX t fr bk) (⟨v,.lst L⟩::(g++[⟨0,.lst (iL (natI (likes (cutIn t fr bk))))⟩]++[⟨0,.lst []⟩])) (ifA iK2) k)
    (exsK (G1 T (elF e) P) (n+45) (cuX t fr bk) (⟨v,.lst L⟩::(g++[⟨0,.lst (iL (natI (likes (cutIn t fr bk))))⟩]++[⟨0,.lst []⟩])) (ifB iK2) k):=fun k=>by
   refine (cu_2if _ (G1 T (elF e) P) (n+45) (cuX t fr bk) (⟨v,.lst L⟩::g) k).trans ((cu_2c _ _ (n+44) _ _ _).trans ((lc _).trans ((cu_2r T e P (n+39) _ _ _).trans ?_)))
   rw[cu_2o]
   refine (cmp_eq_ints (⟨v,.lst L⟩::g) (natI (likes (cutIn t fr bk))) [] _ hll (Nat.zero_le _)).trans ?_
   rw[natI_nil]
   rfl
  cases hp:(likes (cutIn t fr bk)).isEmpty with
  | false=>
   rw[hp] at s3
   refine⟨v,g++[⟨0,.lst (iL (natI (likes (cutIn t fr bk))))⟩]++[⟨0,.lst []⟩],fun k=>seqN s1 (seqN (fun k=>(s2 k).trans ((onB_T ..).trans ?_)) rfl)⟩
   rw[no (by unfold cutQ; rw[q1,q2,hp]; rfl),cu_ifA]
   rw[cu_2B] at s3
   exact seqN (fun k=>(s3 k).trans ((onB_F ..).trans rfl)) rfl
  | true=>
   rw[hp] at s3
   have yes:L++tupL (cutI t fr bk)=L++[.tup [.str (S fr),.str (S bk)]]:=by
    unfold cutI
    rw[show cutQ t fr bk=true by unfold cutQ; rw[q1,q2,hp]; rfl]
    rfl
   refine⟨v+1,g++[⟨0,.lst (iL (natI (likes (cutIn t fr bk))))⟩]++[⟨0,.lst []⟩],fun k=>seqN s1 (seqN (fun k=>(s2 k).trans ((onB_T ..).trans ?_)) rfl)⟩
   rw[yes,cu_ifA]
   exact seqN (fun k=>(s3 k).trans ((onB_T ..).trans ((cu_2A T e P (n+25) _ _ _ _ v L _ k).trans (gp (Nat.le_trans hL (by decide)))))) rfl
end
noncomputable def okB2 (l:List Nat):Prop:=l.length≤2∧46∉l
theorem five_ok:∀ b∈fiveL,okB2 b:=by
 have h:∀ b∈fiveL,b.length≤2∧46∉b:=by decide
 exact h
theorem tupL_app (L:List PV)(a b:List (List Nat×List Nat)):L++tupL a++tupL b=L++tupL (a++b):=by
 unfold tupL
 rw[List.append_assoc,List.map_append]
theorem cutI_len (t fr bk:List Nat):(tupL (cutI t fr bk)).length≤1:=by
 unfold cutI
 cases cutQ t fr bk
 ·exact Nat.zero_le _
 ·exact Nat.le_refl _
section
variable {β:Type}(T:Int→Option Str){e:Str→Str→Option Bool}(P:Fn)(H:EllOk e)(t:List Nat)(ht:t.length≤200)(ht4:4≤t.length)
include H ht ht4
theorem cu_step {fr bk:List Nat}{rest:List (List Nat)}(hf:okB2 fr)(hb:okB2 bk){n v:Nat}(hn:250≤n){L:List PV}{g:Sto}(hL:L.length≤1000){cx cxB:Cx}(hbB:bindT cx (forT iK) (.str (S bk))=some cxB)
  (h0:∀ (n:Nat) (σ:Sto) (k:Fl→Cx→Sto→Option β),exK (G1 T (elF e) P) (n+20) cxB σ (ckB 0) k=cuIn (S t) (S fr) (S bk) σ k)
  (h2:∀ (v:Nat) (L':List PV) (g:Sto),L'.length≤L.length+1→∃ bk' v' g',∀ k:Fl→Cx→Sto→Option β,exForK (G1 T (elF e) P) (n+50) (cuX t fr bk) (⟨v,.lst L'⟩::g) (forT iK) (forB iK) none (rest.map fun l=> .str (S l)) k=
   k .nxt (cuX t fr bk') (⟨v',.lst (L'++tupL (rest.flatMap fun bk=>cutI t fr bk))⟩::g')):
  ∃ bk' v' g',∀ k:Fl→Cx→Sto→Option β,exForK (G1 T (elF e) P) (n+51) cx (⟨v,.lst L⟩::g) (forT iK) (forB iK) none ((bk::rest).map fun l=> .str (S l)) k=
   k .nxt (cuX t fr bk') (⟨v',.lst (L++tupL ((bk::rest).flatMap fun bk=>cutI t fr bk))⟩::g'):=by
 obtain⟨v1,g1,e1⟩:=cu_body (β:=β) T P H t ht ht4 fr bk hf.1 hb.1 hf.2 hb.2 n v hn L g hL (cx:=cxB) fun k=>h0 (n+29) _ k
 obtain⟨bk',v',g',e2⟩:=h2 v1 (L++tupL (cutI t fr bk)) g1 (by rw[List.length_append]; exact Nat.add_le_add_left (cutI_len t fr bk) _)
 rw[tupL_app] at e2
 refine⟨bk',v',g',fun k=>loopN rfl (fun k=>turnN hbB (fun k=>?_) k) (e2 k)⟩
 rw[cu_iB]
 exact e1 k
theorem cu_in1 {fr:List Nat}(hf:okB2 fr):∀ (bks:List (List Nat)) (n:Nat) (bk0:List Nat) (v:Nat) (L:List PV) (g:Sto),250≤n→(∀ b∈bks,okB2 b)→L.length+bks.length≤1000→
  ∃ bk' v' g',∀ k:Fl→Cx→Sto→Option β,exForK (G1 T (elF e) P) (n+bks.length+50) (cuX t fr bk0) (⟨v,.lst L⟩::g) (forT iK) (forB iK) none (bks.map fun l=> .str (S l)) k=
   k .nxt (cuX t fr bk') (⟨v',.lst (L++tupL (bks.flatMap fun bk=>cutI t fr bk))⟩::g')
 | [],n,bk0,v,L,g,_,_,_=>⟨bk0,v,g,fun k=>by rw[show L++tupL (([]:List (List Nat)).flatMap fun bk=>cutI t fr bk)=L from List.append_nil L]; exact exForK_nil (n+49) _ _ _ _ _ _ rfl⟩
 | bk::bks,n,bk0,v,L,g,hn,hb,hl=>by
  rw[List.length_cons] at hl
  exact cu_step T P H t ht ht4 hf (hb bk List.mem_cons_self) (n:=n+bks.length) (Nat.le_trans hn (Nat.le_add_right ..)) (by lia) (cu_b1 _ _ _ _ _) (fun n σ k=>cu_01 T e P n (S t) (S fr) (S bk) _ σ k) fun v L' g hL'=>cu_in1 hf bks n bk v L' g hn (fun b h=>hb b (List.mem_cons_of_mem _ h)) (by lia)
theorem cu_outer {fr:List Nat}(hf:okB2 fr){n v:Nat}(hn:250≤n){L:List PV}{g:Sto}(hL:L.length≤900){cx cxF cxB:Cx}(hbF:bindT cx (forT (stAt dK 1)) (.str (S fr))=some cxF)
  (hit:∀ (n:Nat) (σ:Sto) (k:List PV→Option (Nat×Nat)→Sto→Option β),evItK (G1 T (elF e) P) (n+20) cxF σ (forI iK) k=k five none σ) (hbB:bindT cxF (forT iK) (.str (S []))=some cxB)
  (h0:∀ (n:Nat) (σ:Sto) (k:Fl→Cx→Sto→Option β),exK (G1 T (elF e) P) (n+20) cxB σ (ckB 0) k=cuIn (S t) (S fr) (S []) σ k):
  ∃ bk' v' g',∀ k:Fl→Cx→Sto→Option β,turnK (G1 T (elF e) P) (n+57) cx (.str (S fr)) (⟨v,.lst L⟩::g) (stAt dK 1) k=
   k .nxt (cuX t fr bk') (⟨v',.lst (L++tupL (fiveL.flatMap fun bk=>cutI t fr bk))⟩::g'):=by
 have hfive:=five_ok
 obtain⟨bk',v',g',e1⟩:=cu_step (β:=β) (n:=n+4) (v:=v) (g:=g) (rest:=[[104],[112],[104,104],[112,112]]) T P H t ht ht4 hf (hfive [] List.mem_cons_self) (Nat.le_trans hn (Nat.le_add_right ..)) (Nat.le_trans hL (by decide)) hbB h0
  fun v L' g hL'=>cu_in1 T P H t ht ht4 hf [[104],[112],[104,104],[112,112]] n [] v L' g hn (fun b h=>hfive b (List.mem_cons_of_mem _ h)) (by have:([[104],[112],[104,104],[112,112]]:List (List Nat)).length=4:=rfl; lia)
 refine⟨bk',v',g',fun k=>turnN hbF (fun k=>?_) k⟩
 rw[cu_1B]
 exact seqN (forN cu_is (fun K=>(hit (n+35) _ K).trans (congrArg (fun l=>K l none _) five_S)) e1) rfl
theorem cu_out1:∀ (frs:List (List Nat)) (n:Nat) (fr0 bk0:List Nat) (v:Nat) (L:List PV) (g:Sto),250≤n→(∀ b∈frs,okB2 b)→L.length+frs.length * 30≤900→
  ∃ fr' bk' v' g',∀ k:Fl→Cx→Sto→Option β,exForK (G1 T (elF e) P) (n+frs.length+57) (cuX t fr0 bk0) (⟨v,.lst L⟩::g) (forT (stAt dK 1)) (forB (stAt dK 1)) none (frs.map fun l=> .str (S l)) k=
   k .nxt (cuX t fr' bk') (⟨v',.lst (L++tupL (frs.flatMap fun fr=>fiveL.flatMap fun bk=>cutI t fr bk))⟩::g')
 | [],n,fr0,bk0,v,L,g,_,_,_=>⟨fr0,bk0,v,g,fun k=>by rw[show L++tupL (([]:List (List Nat)).flatMap fun fr=>fiveL.flatMap fun bk=>cutI t fr bk)=L from List.append_nil L]; exact exForK_nil (n+56) _ _ _ _ _ _ rfl⟩
 | fr::frs,n,fr0,bk0,v,L,g,hn,hb,hl=>by
  rw[List.length_cons] at hl
  obtain⟨bk1,v1,g1,e1⟩:=cu_outer (β:=β) (n:=n+frs.length) (v:=v) (g:=g) T P H t ht ht4 (hb fr List.mem_cons_self) (Nat.le_trans hn (Nat.le_add_right ..)) (L:=L) (by lia) (cu_t1 (S t) _ _ _ (.str (S fr))) (fun n σ k=>cu_ii1 T e P n (S t) _ _ _ σ k) (cu_b2 _ _ _ _ _) (fun n σ k=>cu_02 T e P n (S t) (S fr) (S []) _ σ k)
  have hc:(tupL (fiveL.flatMap fun bk=>cutI t fr bk)).length≤30:=by
   have h:∀ l:List (List Nat),(l.flatMap fun bk=>cutI t fr bk).length≤l.length:=fun l=>by
    induction l with
    | nil=>exact Nat.le_refl _
    | cons a l ih=>
     have:=cutI_len t fr a
     unfold tupL at this
     rw[List.length_map] at this
     rw[List.flatMap_cons,List.length_append,List.length_cons]
     lia
   have:=h fiveL
   unfold tupL
   rw[List.length_map]
   exact Nat.le_trans this (by decide)
  obtain⟨fr',bk',v',g',e2⟩:=cu_out1 frs n fr bk1 v1 (L++tupL (fiveL.flatMap fun bk=>cutI t fr bk)) g1 hn (fun b h=>hb b (List.mem_cons_of_mem _ h)) (by rw[List.length_append]; lia)
  rw[tupL_app] at e2
  exact⟨fr',bk',v',g',fun k=>loopN rfl e1 (e2 k)⟩
end
theorem cuts_run (T:Int→Option Str){e:Str→Str→Option Bool}(P:Fn)(H:EllOk e)(t:List Nat)(ht:t.length≤200)(ht4:4≤t.length):∃ v' g',runDK (G1 T (elF e) P) 2000 dK [.str (S t)] []=some (.lst 0,⟨v',.lst (tupL (cutsL t))⟩::g'):=by
 have hfive:=five_ok
 obtain⟨bk1,v1,g1,e1⟩:=cu_outer (β:=PV×Sto) (n:=1939) (v:=0) (g:=[]) T P H t ht ht4 (hfive [] List.mem_cons_self) (by decide) (L:=[]) (by decide) (cu_t0 (S t) (.str (S []))) (fun n σ k=>cu_ii0 T e P n (S t) _ σ k) (cu_b0 _ _ _) (fun n σ k=>cu_00 T e P n (S t) (S []) (S []) σ k)
 have hc:(tupL (fiveL.flatMap fun bk=>cutI t [] bk)).length≤30:=by
  have h:∀ l:List (List Nat),(l.flatMap fun bk=>cutI t [] bk).length≤l.length:=fun l=>by
   induction l with
   | nil=>exact Nat.le_refl _
   | cons a l ih=>
    have:=cutI_len t [] a
    unfold tupL at this
    rw[List.length_map] at this
    rw[List.flatMap_cons,List.length_append,List.length_cons]
    lia
  have:=h fiveL
  unfold tupL
  rw[List.length_map]
  exact Nat.le_trans this (by decide)
 obtain⟨fr',bk',v',g',e2⟩:=cu_out1 (β:=PV×Sto) T P H t ht ht4 [[104],[112],[104,104],[112,112]] 1935 [] bk1 v1 ([]++tupL (fiveL.flatMap fun bk=>cutI t [] bk)) g1 (by decide) (fun b h=>hfive b (List.mem_cons_of_mem _ h)) (by rw[List.nil_append]; have:([[104],[112],[104,104],[112,112]]:List (List Nat)).length=4:=rfl; lia)
 rw[tupL_app] at e2
 rw[runDK_at (le:=cuL0 (S t)) dK_params rfl rfl,dK_body]
 exact⟨v',g',seqN (fun k=>cu_0 T e P 1979 _ k) (seqN (forN cu_1s (fun K=>(cu_1i T e P 1977 _ _ K).trans (congrArg (fun l=>K l none _) five_S)) fun k=>loopN rfl e1 (e2 k)) (seqR (fun k=>cu_20 T e P 1977 _ _ k _ _ _) rfl))⟩
theorem idx_rev (n:Nat):Builtin.Str.strSliceIndices none none (-1) n=(List.range' 0 n).reverse:=by
 unfold Builtin.Str.strSliceIndices sliceRange
 simp only[show ¬ ((-1:Int) > 0) by decide,if_false]
 rw[List.reverse_range']
 have hc:(if (n:Int) - 1 > -1 then ((n:Int) - 1 - -1 - -1 - 1) / - -1 else 0).toNat=n:=by
  split <;> simp <;> lia
 rw[hc]
 apply List.map_congr_left
 intro k hk
 have:=List.mem_range.mp hk
 lia
theorem sli_rev (l:List Nat):sliStr (S l) none none (some (-1))=S l.reverse:=by
 show (if ((-1:Int)==1&&(Builtin.Str.strSliceIndices none none (-1) (S l).length).length==(S l).length)=true then S l else ⟨((Builtin.Str.strSliceIndices none none (-1) (S l).length).filterMap (fun i=>l.toArray[i]?)).toArray⟩)=_
 rw[if_neg (by exact Bool.false_ne_true),idx_rev,S_len,List.filterMap_reverse,pick_range,List.drop_zero,List.take_length]
 rfl
noncomputable abbrev dG:DefP:=defP p3 "_law_grown"
theorem dG_body:dG.body=[stAt dG 0,stAt dG 1,stAt dG 2]:=by kernel_rfl!
theorem dG_params:dG.params=(["numbers"]:List Str):=by kernel_rfl!
noncomputable def grL0 (i:Nat):LE:=[("numbers",.lst i)]
noncomputable def grL1 (w:Str)(i:Nat):LE:=("word",.str w)::grL0 i
noncomputable def iG:Stmt:=stIn (forB (stAt dG 1)) 0
noncomputable def grA (lo be le kk nn:PV)(w:Str)(i:Nat):LE:=("longer",lo)::("behind",be)::("letter",le)::("k",kk)::("n",nn)::("word",.str w)::grL0 i
noncomputable def grB (w:Str)(lo be le kk nn:PV)(i:Nat):LE:=("word",.str w)::("longer",lo)::("behind",be)::("letter",le)::("k",kk)::("n",nn)::grL0 i
noncomputable def grS0 (nn:PV)(w:Str)(i:Nat):LE:=("n",nn)::("word",.str w)::grL0 i
noncomputable def grSA (nn lo be le kk:PV)(w:Str)(i:Nat):LE:=("n",nn)::("longer",lo)::("behind",be)::("letter",le)::("k",kk)::("word",.str w)::grL0 i
noncomputable def grSB (nn:PV)(w:Str)(lo be le kk:PV)(i:Nat):LE:=("n",nn)::("word",.str w)::("longer",lo)::("behind",be)::("letter",le)::("k",kk)::grL0 i
section
variable {β:Type}(T:Int→Option Str)(E P:Fn)(A:Ans1)(n:Nat)(w:Str)(m kk:Int)(i:Nat)
theorem gr_0 (σ:Sto)(k:Fl→Cx→Sto→Option β):exK (G2 T E P (own1 A)) (n+20) ⟨dG.names,grL0 i⟩ σ (stAt dG 0) k=subK (.lst i) (.int 0) σ fun v=>binLK .Mod v (.int 2) σ fun r σ'=>subK (.str "hp") r σ' fun x=>opt (bindT ⟨dG.names,grL0 i⟩ (asgT (stAt dG 0)) x) fun cx'=>k .nxt cx' σ':=by kernel_rfl!
theorem gr_0t (x:Str):bindT ⟨dG.names,grL0 i⟩ (asgT (stAt dG 0)) (.str x)=some ⟨dG.names,grL1 x i⟩:=by kernel_rfl!
theorem gr_1s:ForIs (stAt dG 1):=fun β G n cx σ k=>by kernel_rfl!
theorem gr_1i (σ:Sto)(k:List PV→Option (Nat×Nat)→Sto→Option β):evItK (G2 T E P (own1 A)) (n+20) ⟨dG.names,grL1 w i⟩ σ (forI (stAt dG 1)) k=opt (getL σ i) fun xs=>grd (xs.length≤100000) (itK k (.lst σ.length) (σ++[⟨0,.lst (slicePick' xs (some 1) (some 9) none)⟩])):=by kernel_rfl!
theorem gr_1B:forB (stAt dG 1)=[iG]:=by kernel_rfl!
theorem gr_t0:bindT ⟨dG.names,grL1 w i⟩ (forT (stAt dG 1)) (.int m)=some ⟨dG.names,grS0 (.int m) w i⟩:=by kernel_rfl!
theorem gr_tA (lo be le k0 nn:PV):bindT ⟨dG.names,grA lo be le k0 nn w i⟩ (forT (stAt dG 1)) (.int m)=some ⟨dG.names,grSA (.int m) lo be le k0 w i⟩:=by kernel_rfl!
theorem gr_tB (lo be le k0 nn:PV):bindT ⟨dG.names,grB w lo be le k0 nn i⟩ (forT (stAt dG 1)) (.int m)=some ⟨dG.names,grSB (.int m) w lo be le k0 i⟩:=by kernel_rfl!
theorem gr_is:ForIs iG:=fun β G n cx σ k=>by kernel_rfl!
theorem gr_ii0 (σ:Sto)(k:List PV→Option (Nat×Nat)→Sto→Option β):evItK (G2 T E P (own1 A)) (n+10) ⟨dG.names,grS0 (.int m) w i⟩ σ (forI iG) k=k [.int 0,.int 1,.int 2,.int 3] none σ:=by kernel_rfl!
theorem gr_iiA (lo be le k0:PV)(σ:Sto)(k:List PV→Option (Nat×Nat)→Sto→Option β):evItK (G2 T E P (own1 A)) (n+10) ⟨dG.names,grSA (.int m) lo be le k0 w i⟩ σ (forI iG) k=k [.int 0,.int 1,.int 2,.int 3] none σ:=by kernel_rfl!
theorem gr_iiB (lo be le k0:PV)(σ:Sto)(k:List PV→Option (Nat×Nat)→Sto→Option β):evItK (G2 T E P (own1 A)) (n+10) ⟨dG.names,grSB (.int m) w lo be le k0 i⟩ σ (forI iG) k=k [.int 0,.int 1,.int 2,.int 3] none σ:=by kernel_rfl!
noncomputable def grLap (A:Ans1)(w lo te le:Str)(b:Bool)(m kk:Int)(i:Nat)(σ:Sto)(k:Fl→Cx→Sto→Option β):Option β:=liftK (ansSB A.la [.str te] σ) fun v σ'=>truthK v fun t=>onB (!t)
 (k .brk ⟨dG.names,grB lo (.str lo) (.bool b) (.str le) (.int kk) (.int m) i⟩ σ')
 (k .nxt ⟨dG.names,grA (.str lo) (.bool b) (.str le) (.int kk) (.int m) w i⟩ σ')
noncomputable def grIn (A:Ans1)(w le:Str)(b:Bool)(m kk:Int)(i:Nat)(σ:Sto)(k:Fl→Cx→Sto→Option β):Option β:=onB b
 (grd ((w++le).length≤100000) (onB b (grLap A w (w++le) (w++le) le b m kk i σ k) (grd ((w++le).length≤100000) (grLap A w (w++le) (sliStr (w++le) none none (some (-1))) le b m kk i σ k))))
 (grd ((le++w).length≤100000) (onB b (grLap A w (le++w) (le++w) le b m kk i σ k) (grd ((le++w).length≤100000) (grLap A w (le++w) (sliStr (le++w) none none (some (-1))) le b m kk i σ k))))
noncomputable def grTurn (A:Ans1)(w:Str)(m kk:Int)(i:Nat)(σ:Sto)(k:Fl→Cx→Sto→Option β):Option β:=
 grd (fitsSsize (Int.fmod (m+kk) 2)=true∧(Txt.charAt "hp" (Int.fmod (m+kk) 2)).isSome=true) (grIn A w (Txt.item "hp" (Int.fmod (m+kk) 2)) (decide (Int.fmod (Int.fdiv m 2+Int.fdiv kk 2) 2=0)) m kk i σ k)
theorem gr_k0 (σ:Sto)(k:Fl→Cx→Sto→Option β):turnK (G2 T E P (own1 A)) (n+40) ⟨dG.names,grS0 (.int m) w i⟩ (.int kk) σ iG k=grTurn A w m kk i σ k:=by kernel_rfl!
theorem gr_kA (lo be le k0:PV)(σ:Sto)(k:Fl→Cx→Sto→Option β):turnK (G2 T E P (own1 A)) (n+40) ⟨dG.names,grSA (.int m) lo be le k0 w i⟩ (.int kk) σ iG k=grTurn A w m kk i σ k:=by kernel_rfl!
theorem gr_kB (lo be le k0:PV)(σ:Sto)(k:Fl→Cx→Sto→Option β):turnK (G2 T E P (own1 A)) (n+40) ⟨dG.names,grSB (.int m) w lo be le k0 i⟩ (.int kk) σ iG k=grTurn A w m kk i σ k:=by kernel_rfl!
theorem gr_kk (lo be le k0:PV)(σ:Sto)(k:Fl→Cx→Sto→Option β):turnK (G2 T E P (own1 A)) (n+40) ⟨dG.names,grA lo be le k0 (.int m) w i⟩ (.int kk) σ iG k=grTurn A w m kk i σ k:=by kernel_rfl!
theorem gr_20 (σ:Sto)(k:Fl→Cx→Sto→Option β):exK (G2 T E P (own1 A)) (n+20) ⟨dG.names,grL1 w i⟩ σ (stAt dG 2) k=k (.ret (.str w)) ⟨dG.names,grL1 w i⟩ σ:=by kernel_rfl!
theorem gr_2A (lo be le k0 nn:PV)(σ:Sto)(k:Fl→Cx→Sto→Option β):exK (G2 T E P (own1 A)) (n+20) ⟨dG.names,grA lo be le k0 nn w i⟩ σ (stAt dG 2) k=k (.ret (.str w)) ⟨dG.names,grA lo be le k0 nn w i⟩ σ:=by kernel_rfl!
theorem gr_2B (lo be le k0 nn:PV)(σ:Sto)(k:Fl→Cx→Sto→Option β):exK (G2 T E P (own1 A)) (n+20) ⟨dG.names,grB w lo be le k0 nn i⟩ σ (stAt dG 2) k=k (.ret (.str w)) ⟨dG.names,grB w lo be le k0 nn i⟩ σ:=by kernel_rfl!
end
noncomputable def hpC (x:Nat):Nat:=([104,112]:List Nat).getD (x % 2) 0
noncomputable def grBeh (m k:Nat):Bool:=decide ((m / 2+k / 2) % 2=0)
noncomputable def grLo (w:List Nat)(m k:Nat):List Nat:=match grBeh m k with
 | true=>w++[hpC (m+k)]
 | false=>[hpC (m+k)]++w
noncomputable def grTe (w:List Nat)(m k:Nat):List Nat:=match grBeh m k with
 | true=>w++[hpC (m+k)]
 | false=>([hpC (m+k)]++w).reverse
noncomputable def grW (w:List Nat)(m:Nat):List Nat→List Nat
 | []=>w
 | k::ks=>match lapsL (grTe w m k) with
  | true=>grW w m ks
  | false=>grLo w m k
noncomputable def grStep (w:List Nat)(m:Nat):List Nat:=grW w m [0,1,2,3]
theorem hp_S:(PySem.Str.ofString "hp")=S [104,112]:=by decide+kernel
theorem hpC_hp (x:Nat):hp (hpC x):=by
 unfold hpC
 rcases Nat.mod_two_eq_zero_or_one x with h | h <;> rw[h]
 ·exact .inl rfl
 ·exact .inr rfl
theorem hp_dot {w:List Nat}(h:∀ c∈w,hp c):46∉w:=fun hm=>(h _ hm).elim (fun e=>by cases e) fun e=>by cases e
noncomputable def hpL (w:List Nat):Prop:=∀ c∈w,hp c
theorem hpL_app {a b:List Nat}(ha:hpL a)(hb:hpL b):hpL (a++b):=fun c h=>(List.mem_append.mp h).elim (ha c) (hb c)
theorem hpL_one (x:Nat):hpL [hpC x]:=fun c h=>List.mem_singleton.mp h▸hpC_hp x
theorem hpL_rev {a:List Nat}(h:hpL a):hpL a.reverse:=fun c hc=>h c (List.mem_reverse.mp hc)
noncomputable def LaOk (A:Ans1):Prop:=∀ t:List Nat,t.length≤200→46∉t→A.la (S t)=some (lapsL t)
theorem grLo_ok {w:List Nat}(h:hpL w)(m k:Nat):hpL (grLo w m k)∧(grLo w m k).length=w.length+1∧hpL (grTe w m k)∧(grTe w m k).length=w.length+1:=by
 unfold grLo grTe
 cases grBeh m k with
 | true=>exact⟨hpL_app h (hpL_one _),List.length_append,hpL_app h (hpL_one _),List.length_append⟩
 | false=>
  have e:([hpC (m+k)]++w).length=w.length+1:=rfl
  exact⟨hpL_app (hpL_one _) h,e,hpL_rev (hpL_app (hpL_one _) h),(List.length_reverse ..).trans e⟩
theorem grW_ok {w:List Nat}(h:hpL w)(m:Nat):∀ ks,hpL (grW w m ks)∧(grW w m ks).length≤w.length+1
 | []=>⟨h,Nat.le_succ _⟩
 | k::ks=>by
  show hpL (match lapsL (grTe w m k) with | true=>grW w m ks | false=>grLo w m k)∧(match lapsL (grTe w m k) with | true=>grW w m ks | false=>grLo w m k).length≤_
  cases lapsL (grTe w m k) with
  | true=>exact grW_ok h m ks
  | false=>exact⟨(grLo_ok h m k).1,Nat.le_of_eq (grLo_ok h m k).2.1⟩
section
variable {β:Type}(T:Int→Option Str)(E P:Fn){A:Ans1}(hA:LaOk A)(i:Nat)
include hA in
theorem gr_lap {w lo te le:List Nat}(b:Bool)(m kk:Int)(σ:Sto)(k:Fl→Cx→Sto→Option β)(h1:te.length≤200)(h2:hpL te):grLap A (S w) (S lo) (S te) (S le) b m kk i σ k=
  onB (!lapsL te) (k .brk ⟨dG.names,grB (S lo) (.str (S lo)) (.bool b) (.str (S le)) (.int kk) (.int m) i⟩ σ) (k .nxt ⟨dG.names,grA (.str (S lo)) (.bool b) (.str (S le)) (.int kk) (.int m) (S w) i⟩ σ):=by
 unfold grLap
 rw[ansSB_at (hA te h1 (hp_dot h2))]
 rfl
include hA in
theorem gr_turn {w:List Nat}(hw:w.length≤100)(hh:hpL w)(m kk:Nat)(σ:Sto)(k:Fl→Cx→Sto→Option β):grTurn A (S w) (m:Int) (kk:Int) i σ k=
  onB (!lapsL (grTe w m kk)) (k .brk ⟨dG.names,grB (S (grLo w m kk)) (.str (S (grLo w m kk))) (.bool (grBeh m kk)) (.str (S [hpC (m+kk)])) (.int kk) (.int m) i⟩ σ)
   (k .nxt ⟨dG.names,grA (.str (S (grLo w m kk))) (.bool (grBeh m kk)) (.str (S [hpC (m+kk)])) (.int kk) (.int m) (S w) i⟩ σ):=by
 have hx:(m+kk) % 2 < ([104,112]:List Nat).length:=Nat.mod_lt _ (by decide)
 have f1:Int.fmod ((m:Int)+(kk:Int)) 2=(((m+kk) % 2:Nat):Int):=fmod_nat (m+kk) 2
 have f2:Int.fmod (Int.fdiv (m:Int) 2+Int.fdiv (kk:Int) 2) 2=(((m / 2+kk / 2) % 2:Nat):Int):=by
  rw[show Int.fdiv (m:Int) 2=((m / 2:Nat):Int) from fdiv_nat m 2,show Int.fdiv (kk:Int) 2=((kk / 2:Nat):Int) from fdiv_nat kk 2]
  exact fmod_nat (m / 2+kk / 2) 2
 have f3:((((m / 2+kk / 2) % 2:Nat):Int)=0)↔(m / 2+kk / 2) % 2=0:=Int.ofNat_inj (n:=0)
 obtain⟨h1,h2,h3,h4⟩:=grLo_ok hh m kk
 unfold grTurn
 rw[f1,f2,decide_eq_decide.mpr f3,show ("hp":Str)=S [104,112] from hp_S,charAt_nat,item_nat,gp ⟨fits_nat (Nat.le_trans (Nat.le_of_lt hx) (by decide)),by rw[List.getElem?_eq_getElem hx]; rfl⟩]
 show grIn A (S w) (S [hpC (m+kk)]) (grBeh m kk) m kk i σ k=_
 unfold grIn grLo grTe
 unfold grLo at h1 h2
 unfold grTe at h3 h4
 cases hb:grBeh m kk with
 | true=>
  rw[hb] at h1 h2 h3 h4
  show grd _ (grLap _ _ _ _ _ _ _ _ _ _ _)=_
  rw[S_app,S_len,h2,gp (by lia)]
  exact gr_lap hA i true m kk σ k (by rw[h2]; lia) h1
 | false=>
  rw[hb] at h1 h2 h3 h4
  show grd _ (grd _ (grLap _ _ _ _ _ _ _ _ _ _ _))=_
  rw[S_app,S_len,h2,gp (by lia),gp (by lia),sli_rev]
  exact gr_lap hA i false m kk σ k (by rw[h4]; lia) h3
noncomputable def GSt (i:Nat)(w:List Nat)(cx:Cx):Prop:=cx=⟨dG.names,grL1 (S w) i⟩∨(∃ lo be le kk nn,cx=⟨dG.names,grA lo be le kk nn (S w) i⟩)∨∃ lo be le kk nn,cx=⟨dG.names,grB (S w) lo be le kk nn i⟩
noncomputable def ISt (A:Ans1)(T:Int→Option Str)(E P:Fn)(β:Type)(i:Nat)(w:List Nat)(m:Nat)(cx:Cx):Prop:=∀ (n kk:Nat) (σ:Sto) (k:Fl→Cx→Sto→Option β),turnK (G2 T E P (own1 A)) (n+40) cx (.int (kk:Int)) σ iG k=grTurn A (S w) (m:Int) (kk:Int) i σ k
include hA in
theorem gr_inner {w:List Nat}(hw:w.length≤100)(hh:hpL w)(m:Nat)(σ:Sto):∀ (ks:List Nat) (n:Nat) (cx:Cx),ISt A T E P β i w m cx→(ks≠[]∨GSt i w cx)→
  ∃ cx',GSt i (grW w m ks) cx'∧∀ k:Fl→Cx→Sto→Option β,exForK (G2 T E P (own1 A)) (n+ks.length+41) cx σ (forT iG) (forB iG) none (ks.map fun (k:Nat)=> .int (k:Int)) k=k .nxt cx' σ
 | [],n,cx,_,h=>⟨cx,h.elim (fun h=>absurd rfl h) id,fun k=>exForK_nil (n+40) _ _ _ _ _ _ rfl⟩
 | kk::ks,n,cx,hi,_=>by
  have ht:=fun k:Fl→Cx→Sto→Option β=>(exForK_cons (n+ks.length+41) cx σ iG none (.int (kk:Int)) (ks.map fun (k:Nat)=> .int (k:Int)) k rfl).trans ((hi (n+ks.length+1) kk σ _).trans (gr_turn hA i hw hh m kk σ _))
  show ∃ cx',GSt i (match lapsL (grTe w m kk) with | true=>grW w m ks | false=>grLo w m kk) cx'∧∀ k:Fl→Cx→Sto→Option β,exForK (G2 T E P (own1 A)) (n+ks.length+41+1) cx σ (forT iG) (forB iG) none (.int (kk:Int)::ks.map fun (k:Nat)=> .int (k:Int)) k=k .nxt cx' σ
  cases hl:lapsL (grTe w m kk) with
  | false=>
   rw[hl] at ht
   exact⟨_,.inr (.inr ⟨_,_,_,_,_,rfl⟩),fun k=>(ht k).trans (onB_T ..)⟩
  | true=>
   rw[hl] at ht
   obtain⟨cx',h1,h2⟩:=gr_inner hw hh m σ ks n ⟨dG.names,grA (.str (S (grLo w m kk))) (.bool (grBeh m kk)) (.str (S [hpC (m+kk)])) (.int kk) (.int m) (S w) i⟩ (fun n kk σ k=>gr_kk T E P A n (S w) m kk i _ _ _ _ σ k) (.inr (.inr (.inl ⟨_,_,_,_,_,rfl⟩)))
   exact⟨cx',h1,fun k=>(ht k).trans ((onB_F ..).trans (h2 k))⟩
include hA in
theorem gr_outer {w:List Nat}(hw:w.length≤100)(hh:hpL w)(m:Nat)(σ:Sto)(n:Nat)(cx:Cx)(hs:GSt i w cx):
  ∃ cx',GSt i (grStep w m) cx'∧∀ k:Fl→Cx→Sto→Option β,turnK (G2 T E P (own1 A)) (n+50) cx (.int (m:Int)) σ (stAt dG 1) k=k .nxt cx' σ:=by
 have hI:=fun cx hI=>gr_inner (β:=β) T E P hA i hw hh m σ [0,1,2,3] (n+3) cx hI (.inl (by decide))
 rcases hs with rfl | ⟨lo,be,le,kk,nn,rfl⟩ | ⟨lo,be,le,kk,nn,rfl⟩
 ·obtain⟨cx',h1,h2⟩:=hI ⟨dG.names,grS0 (.int m) (S w) i⟩ fun n kk σ k=>gr_k0 T E P A n (S w) m kk i σ k
  refine⟨cx',h1,fun k=>turnN (gr_t0 (S w) m i) (fun k=>?_) k⟩
  rw[gr_1B]
  exact seqN (forN gr_is (fun K=>gr_ii0 T E P A (n+38) (S w) m i σ K) h2) rfl
 ·obtain⟨cx',h1,h2⟩:=hI ⟨dG.names,grSA (.int m) lo be le kk (S w) i⟩ fun n kk σ k=>gr_kA T E P A n (S w) m kk i _ _ _ _ σ k
  refine⟨cx',h1,fun k=>turnN (gr_tA (S w) m i ..) (fun k=>?_) k⟩
  rw[gr_1B]
  exact seqN (forN gr_is (fun K=>gr_iiA T E P A (n+38) (S w) m i _ _ _ _ σ K) h2) rfl
 ·obtain⟨cx',h1,h2⟩:=hI ⟨dG.names,grSB (.int m) (S w) lo be le kk i⟩ fun n kk σ k=>gr_kB T E P A n (S w) m kk i _ _ _ _ σ k
  refine⟨cx',h1,fun k=>turnN (gr_tB (S w) m i ..) (fun k=>?_) k⟩
  rw[gr_1B]
  exact seqN (forN gr_is (fun K=>gr_iiB T E P A (n+38) (S w) m i _ _ _ _ σ K) h2) rfl
include hA in
theorem gr_loop (σ:Sto)(wt:Option (Nat×Nat))(hwt:watch σ wt=true):∀ (ms:List Nat) (n:Nat) (w:List Nat) (cx:Cx),w.length+ms.length≤100→hpL w→GSt i w cx→
  ∃ cx',GSt i (ms.foldl grStep w) cx'∧∀ k:Fl→Cx→Sto→Option β,exForK (G2 T E P (own1 A)) (n+ms.length+51) cx σ (forT (stAt dG 1)) (forB (stAt dG 1)) wt (ms.map fun (k:Nat)=> .int (k:Int)) k=k .nxt cx' σ
 | [],n,w,cx,_,_,h=>⟨cx,h,fun k=>exForK_nil (n+50) _ _ _ _ _ _ hwt⟩
 | m::ms,n,w,cx,hl,hh,h=>by
  rw[List.length_cons] at hl
  obtain⟨cx1,g1,e1⟩:=gr_outer (β:=β) T E P hA i (by lia) hh m σ (n+ms.length+1) cx h
  have hg:=grW_ok hh m [0,1,2,3]
  obtain⟨cx',g2,e2⟩:=gr_loop σ wt hwt ms n (grStep w m) cx1 (by have:=hg.2; unfold grStep; lia) hg.1 g1
  exact⟨cx',g2,fun k=>loopN hwt e1 (e2 k)⟩
end
noncomputable def grownL (n0:Nat)(ms:List Nat):List Nat:=ms.foldl grStep [hpC n0]
noncomputable def pvN (l:List Nat):List PV:=l.map fun (k:Nat)=> .int (k:Int)
theorem pick_8 (n0 n1 n2 n3 n4 n5 n6 n7 n8 n9:Nat):slicePick' (pvN [n0,n1,n2,n3,n4,n5,n6,n7,n8,n9]) (some 1) (some 9) none=pvN [n1,n2,n3,n4,n5,n6,n7,n8]:=by kernel_rfl!
theorem itV_new (σ:Sto)(X:List PV):itV (.lst σ.length) (σ++[⟨0,.lst X⟩])=some (X,some (σ.length,0),σ++[⟨0,.lst X⟩]):=by
 unfold itV
 simp only[List.getElem?_concat_length]
theorem watch_new (σ:Sto)(X:List PV):watch (σ++[⟨0,.lst X⟩]) (some (σ.length,0))=true:=by
 unfold watch
 simp only[List.getElem?_concat_length]
 rfl
theorem mod_at {β:Type}(a b:Int)(hb:b≠0)(σ:Sto)(k:PV→Sto→Option β):binLK .Mod (.int a) (.int b) σ k=k (.int (Int.fmod a b)) σ:=if_neg hb
theorem grown_run (T:Int→Option Str)(E P:Fn){A:Ans1}(hA:LaOk A)(i:Nat)(n0 n1 n2 n3 n4 n5 n6 n7 n8 n9:Nat)(σ:Sto)(hσ:getL σ i=some (pvN [n0,n1,n2,n3,n4,n5,n6,n7,n8,n9])):
  runDK (G2 T E P (own1 A)) 2000 dG [.lst i] σ=some (.str (S (grownL n0 [n1,n2,n3,n4,n5,n6,n7,n8])),σ++[⟨0,.lst (pvN [n1,n2,n3,n4,n5,n6,n7,n8])⟩]):=by
 obtain⟨cx',g,e⟩:=gr_loop (β:=PV×Sto) T E P hA i (σ++[⟨0,.lst (pvN [n1,n2,n3,n4,n5,n6,n7,n8])⟩]) _ (watch_new σ _) [n1,n2,n3,n4,n5,n6,n7,n8] 1938 [hpC n0] ⟨dG.names,grL1 (S [hpC n0]) i⟩ (Nat.le_of_ble_eq_true rfl) (hpL_one n0) (.inl rfl)
 have hx:n0 % 2 < ([104,112]:List Nat).length:=Nat.mod_lt _ (by decide)
 have s0:∀ k:Fl→Cx→Sto→Option (PV×Sto),exK (G2 T E P (own1 A)) 1999 ⟨dG.names,grL0 i⟩ σ (stAt dG 0) k=k .nxt ⟨dG.names,grL1 (S [hpC n0]) i⟩ σ:=fun k=>by
  refine (gr_0 T E P A 1979 i σ k).trans ((subK_nat σ i 0 _ _ hσ (Nat.le_of_ble_eq_true rfl) (Nat.le_of_ble_eq_true rfl)).trans ?_)
  refine (mod_at (n0:Int) 2 (by decide) σ _).trans ?_
  rw[show Int.fmod (n0:Int) 2=((n0 % 2:Nat):Int) from fmod_nat n0 2,show ("hp":Str)=S [104,112] from hp_S]
  refine (gp (c:=fitsSsize ((n0 % 2:Nat):Int)=true∧(Txt.charAt (S [104,112]) ((n0 % 2:Nat):Int)).isSome=true) ⟨fits_nat (Nat.le_trans (Nat.le_of_lt hx) (by decide)),by rw[charAt_nat,List.getElem?_eq_getElem hx]; rfl⟩).trans ?_
  rw[item_nat]
  exact congrArg (fun o=>opt o fun cx'=>k .nxt cx' σ) (gr_0t i _)
 have hit:∀ K:List PV→Option (Nat×Nat)→Sto→Option (PV×Sto),evItK (G2 T E P (own1 A)) 1997 ⟨dG.names,grL1 (S [hpC n0]) i⟩ σ (forI (stAt dG 1)) K=K (pvN [n1,n2,n3,n4,n5,n6,n7,n8]) (some (σ.length,0)) (σ++[⟨0,.lst (pvN [n1,n2,n3,n4,n5,n6,n7,n8])⟩]):=fun K=>by
  refine (gr_1i T E P A 1977 (S [hpC n0]) i σ K).trans ?_
  rw[hσ]
  refine (gp (Nat.le_of_ble_eq_true rfl)).trans ?_
  rw[pick_8]
  unfold itK
  rw[itV_new]
 rw[runDK_at (le:=grL0 i) dG_params rfl rfl,dG_body]
 refine seqN s0 (seqN (forN gr_1s hit e) ?_)
 rcases g with rfl | ⟨lo,be,le,kk,nn,rfl⟩ | ⟨lo,be,le,kk,nn,rfl⟩
 ·exact seqR (fun k=>gr_20 T E P A 1977 _ i _ k) rfl
 ·exact seqR (fun k=>gr_2A T E P A 1977 _ i _ _ _ _ _ _ k) rfl
 ·exact seqR (fun k=>gr_2B T E P A 1977 _ i _ _ _ _ _ _ k) rfl
noncomputable abbrev dF:DefP:=defP p3 "_law_folded"
theorem dF_body:dF.body=[stAt dF 0,stAt dF 1,stAt dF 2,stAt dF 3,stAt dF 4,stAt dF 5]:=by kernel_rfl!
theorem dF_params:dF.params=(["front","word","back","n"]:List Str):=by kernel_rfl!
noncomputable def fL0 (f w b:Str)(m:Int):LE:=[("front",.str f),("word",.str w),("back",.str b),("n",.int m)]
noncomputable def fL1 (s:PV)(f w b:Str)(m:Int):LE:=("signs",s)::fL0 f w b m
noncomputable def fL2 (p:Int)(s:PV)(f w b:Str)(m:Int):LE:=("place",.int p)::fL1 s f w b m
noncomputable def fL3 (s:PV)(p:Int)(f w b:Str)(m:Int):LE:=("signs",s)::("place",.int p)::fL0 f w b m
noncomputable def fL4 (s:PV)(p:Int)(f w b:Str)(m:Int):LE:=("seen",.lst 1)::fL3 s p f w b m
noncomputable def fL5 (h x s:PV)(p:Int)(f w b:Str)(m:Int):LE:=("hidden",h)::("sign",x)::fL4 s p f w b m
noncomputable def eF0:Expr:=asgE (stAt dF 0)
section
variable {β:Type}(T:Int→Option Str)(E P:Fn)(A:Ans1)(n:Nat)(f w b sg:Str)(m p:Int)
theorem fo_0s:AsgIs (stAt dF 0):=fun β G n cx σ k=>by kernel_rfl!
theorem fo_0j:JoinIs eF0:=fun β G n cx σ k=>by kernel_rfl!
theorem fo_0e:joinS eF0="":=by kernel_rfl!
theorem fo_0l:LcIs ⟨dF.names,fL0 f w b m⟩ (joinX eF0):=fun β G n σ k=>by kernel_rfl!
theorem fo_0i (σ:Sto)(k:List PV→Option (Nat×Nat)→Sto→Option β):evItK (G2 T E P (own1 A)) (n+5) ⟨dF.names,fL0 f w b m⟩ σ (lcI (joinX eF0)) k=k (signs w) none σ:=by kernel_rfl!
noncomputable def fC0:LE:=capt ⟨dF.names,fL0 f w b m⟩ (lcN (joinX eF0))
theorem fo_0a (v:PV):bindT ⟨lcN (joinX eF0),fC0 f w b m⟩ (lcT (joinX eF0)) v=some ⟨lcN (joinX eF0),("letter",v)::fC0 f w b m⟩:=by kernel_rfl!
theorem fo_0b (u v:PV):bindT ⟨lcN (joinX eF0),("letter",u)::fC0 f w b m⟩ (lcT (joinX eF0)) v=some ⟨lcN (joinX eF0),("letter",v)::fC0 f w b m⟩:=by kernel_rfl!
theorem fo_0c (σ:Sto)(x:Str)(K:Option PV→Sto→Option β):compB (G2 T E P (own1 A)) (n+20) ⟨lcN (joinX eF0),("letter",.str x)::fC0 f w b m⟩ σ (joinX eF0) K=onB (decide (x="h")) (K (some (.str "㏋")) σ) (K (some (.str "㏗")) σ):=by kernel_rfl!
theorem fo_0t (v:PV):bindT ⟨dF.names,fL0 f w b m⟩ (asgT (stAt dF 0)) v=some ⟨dF.names,fL1 v f w b m⟩:=by kernel_rfl!
theorem fo_1 (s:PV)(σ:Sto)(k:Fl→Cx→Sto→Option β):exK (G2 T E P (own1 A)) (n+20) ⟨dF.names,fL1 s f w b m⟩ σ (stAt dF 1) k=grd (w.length≤100000) (if (w.length:Int)+1=0 then none else k .nxt ⟨dF.names,fL2 (Int.fmod m ((w.length:Int)+1)) s f w b m⟩ σ):=by kernel_rfl!
theorem fo_2 (σ:Sto)(k:Fl→Cx→Sto→Option β):exK (G2 T E P (own1 A)) (n+20) ⟨dF.names,fL2 p (.str sg) f w b m⟩ σ (stAt dF 2) k=
 grd (sg.length≤100000) (liftK (ansIS A.un [.int m] σ) fun a σ1=>binLK .Add (.str (sliStr sg none (some p) none)) a σ1 fun r σ2=>grd (sg.length≤100000) (binLK .Add r (.str (sliStr sg (some p) none none)) σ2 fun r σ3=>liftK (ansIS A.un [.int (Int.fdiv m 27)] σ3) fun b' σ4=>binLK .Add r b' σ4 fun r σ5=>
  k .nxt ⟨dF.names,fL3 r p f w b m⟩ σ5)):=by kernel_rfl!
theorem fo_3 (s:PV)(c0:Cell)(k:Fl→Cx→Sto→Option β):exK (G2 T E P (own1 A)) (n+20) ⟨dF.names,fL3 s p f w b m⟩ [c0] (stAt dF 3) k=k .nxt ⟨dF.names,fL4 s p f w b m⟩ [c0,⟨0,.lst []⟩]:=by kernel_rfl!
theorem fo_4s:ForIs (stAt dF 4):=fun β G n cx σ k=>by kernel_rfl!
theorem fo_4i (σ:Sto)(k:List PV→Option (Nat×Nat)→Sto→Option β):evItK (G2 T E P (own1 A)) (n+20) ⟨dF.names,fL4 (.str sg) p f w b m⟩ σ (forI (stAt dF 4)) k=
 liftK (ansOwn A.sp [.str f,.int m] σ) fun a σ1=>binLK .Add a (.str sg) σ1 fun r σ2=>liftK (ansOwn A.sp [.str b,.int (Int.fdiv m 12)] σ2) fun c σ3=>binLK .Add r c σ3 (itK k):=by kernel_rfl!
noncomputable def fTurn (T:Int→Option Str)(G:Gl)(N:List (Str×NameKind))(c:Nat)(le:PV→PV→LE)(c0:Cell)(v:Nat)(L:List PV)(k:Fl→Cx→Sto→Option β):Option β:=
 onB (decide (b1In (c:Int)=false)) (liftK (b3F T [.str ⟨#[c]⟩] [c0,⟨v,.lst L⟩]) fun x σ'=>grd (kindAt [c0,⟨v,.lst L⟩] (.lst 1)=kindAt σ' (.lst 1)∧accOk [c0,⟨v,.lst L⟩] (.lst 1)=true)
  (callMK G (.lst 1) "append" [x] σ' fun _ σ''=>k .nxt ⟨N,le (.bool (b1In (c:Int))) (.str ⟨#[c]⟩)⟩ σ''))
 (onB (!(decide (b1In (c:Int)=true))) (grd (L.length≤10000) (k .nxt ⟨N,le (.bool (b1In (c:Int))) (.str ⟨#[c]⟩)⟩ [c0,⟨v+1,.lst (L++[.str "?"])⟩]))
  (k .nxt ⟨N,le (.bool (b1In (c:Int))) (.str ⟨#[c]⟩)⟩ [c0,⟨v,.lst L⟩]))
theorem fo_t0 (s:PV)(c:Nat)(c0:Cell)(v:Nat)(L:List PV)(k:Fl→Cx→Sto→Option β):
  turnK (G2 T E P (own1 A)) (n+20) ⟨dF.names,fL4 s p f w b m⟩ (.str ⟨#[c]⟩) [c0,⟨v,.lst L⟩] (stAt dF 4) k=fTurn T (G2 T E P (own1 A)) dF.names c (fun h x=>fL5 h x s p f w b m) c0 v L k:=by kernel_rfl!
theorem fo_t1 (s h x:PV)(c:Nat)(c0:Cell)(v:Nat)(L:List PV)(k:Fl→Cx→Sto→Option β):
  turnK (G2 T E P (own1 A)) (n+20) ⟨dF.names,fL5 h x s p f w b m⟩ (.str ⟨#[c]⟩) [c0,⟨v,.lst L⟩] (stAt dF 4) k=fTurn T (G2 T E P (own1 A)) dF.names c (fun h x=>fL5 h x s p f w b m) c0 v L k:=by kernel_rfl!
theorem fo_5r:RetIs (stAt dF 5):=fun β G n cx σ k=>by kernel_rfl!
theorem fo_5j:JoinIs (retE (stAt dF 5)):=fun β G n cx σ k=>by kernel_rfl!
theorem fo_5e:joinS (retE (stAt dF 5))="":=by kernel_rfl!
theorem fo_5x1 (h x s:PV)(σ:Sto)(k:PV→Sto→Option β):evK (G2 T E P (own1 A)) (n+5) ⟨dF.names,fL5 h x s p f w b m⟩ σ (joinX (retE (stAt dF 5))) k=k (.lst 1) σ:=by kernel_rfl!
end
noncomputable def foldC (T:Int→Option Str)(c:Nat):Option Str:=if b1In (c:Int)=true then none else mapT T c
noncomputable def okC (T:Int→Option Str)(c:Nat):Prop:=b1In (c:Int)=true∨(b1In (c:Int)=false∧∃ x,mapT T c=some x)
theorem fTurn_keep {β:Type}{T:Int→Option Str}{G:Gl}{N}{c:Nat}{le:PV→PV→LE}{v:Nat}{L:List PV}{c0:Cell}{k:Fl→Cx→Sto→Option β}(h:b1In (c:Int)=true):
  fTurn T G N c le c0 v L k=k .nxt ⟨N,le (.bool (b1In (c:Int))) (.str ⟨#[c]⟩)⟩ [c0,⟨v,.lst L⟩]:=by
 unfold fTurn; rw[h]; rfl
theorem fTurn_map {β:Type}{T:Int→Option Str}{G:Gl}{N}{c:Nat}{le:PV→PV→LE}{v:Nat}{L:List PV}{c0:Cell}{k:Fl→Cx→Sto→Option β}{x:Str}(h:b1In (c:Int)=false)(hx:mapT T c=some x)(hL:L.length≤10000):
  fTurn T G N c le c0 v L k=k .nxt ⟨N,le (.bool (b1In (c:Int))) (.str ⟨#[c]⟩)⟩ [c0,⟨v+1,.lst (L++[.str x])⟩]:=by
 unfold fTurn
 rw[h]
 have e:b3F T [.str ⟨#[c]⟩] [c0,⟨v,.lst L⟩]=some (.str x,[c0,⟨v,.lst L⟩]):=by
  show opt (mapT T c) (fun x=>some (PV.str x,([c0,⟨v,.lst L⟩]:Sto)))=_
  rw[hx]
  rfl
 rw[e]
 show grd (some 0=some 0∧true=true) (grd (L.length≤10000) (k .nxt _ [c0,⟨v+1,.lst (L++[.str x])⟩]))=_
 rw[gp ⟨rfl,rfl⟩,gp hL]
theorem foldC_none {T:Int→Option Str}{c:Nat}(h:b1In (c:Int)=true):foldC T c=none:=if_pos h
theorem foldC_some {T:Int→Option Str}{c:Nat}{y:Str}(h:b1In (c:Int)=false)(hy:mapT T c=some y):foldC T c=some y:=(if_neg (by rw[h]; exact Bool.false_ne_true)).trans hy
section
variable {β:Type}(T:Int→Option Str)(E P:Fn)(A:Ans1)(f w b:Str)(m p:Int)(s:PV)(c0:Cell)
theorem fo_loop1:∀ (cs:List Nat) (n:Nat) (h x:PV) (v:Nat) (L:List PV),(∀ c∈cs,okC T c)→L.length+cs.length≤10000→
  ∃ h' x' v',∀ k:Fl→Cx→Sto→Option β,exForK (G2 T E P (own1 A)) (n+cs.length+21) ⟨dF.names,fL5 h x s p f w b m⟩ [c0,⟨v,.lst L⟩] (forT (stAt dF 4)) (forB (stAt dF 4)) none (cs.map fun c=> .str ⟨#[c]⟩) k=
   k .nxt ⟨dF.names,fL5 h' x' s p f w b m⟩ [c0,⟨v',.lst (L++(cs.filterMap (foldC T)).map .str)⟩]
 | [],n,h,x,v,L,_,_=>⟨h,x,v,fun k=>by rw[show L++(([]:List Nat).filterMap (foldC T)).map PV.str=L from List.append_nil L]; exact exForK_nil (n+20) _ _ _ _ _ _ rfl⟩
 | c::cs,n,h,x,v,L,hc,hl=>by
  rw[List.length_cons] at hl
  have hd:∀ d∈cs,okC T d:=fun d hd=>hc d (List.mem_cons_of_mem _ hd)
  rcases hc c List.mem_cons_self with hb | ⟨hb,y,hy⟩
  ·obtain⟨h',x',v',e⟩:=fo_loop1 cs n (.bool (b1In (c:Int))) (.str ⟨#[c]⟩) v L hd (Nat.le_trans (Nat.le_succ _) hl)
   rw[List.filterMap_cons_none (foldC_none hb)]
   exact⟨h',x',v',fun k=>loopN rfl (fun k=>(fo_t1 T E P A (n+cs.length+1) ..).trans (fTurn_keep hb)) (e k)⟩
  ·obtain⟨h',x',v',e⟩:=fo_loop1 cs n (.bool (b1In (c:Int))) (.str ⟨#[c]⟩) (v+1) (L++[.str y]) hd (by rw[List.length_append,List.length_singleton]; lia)
   have e3:L++((c::cs).filterMap (foldC T)).map PV.str=L++[.str y]++(cs.filterMap (foldC T)).map .str:=by
    rw[List.filterMap_cons_some (foldC_some hb hy)]
    exact List.append_cons L (.str y) _
   rw[e3]
   exact⟨h',x',v',fun k=>loopN rfl (fun k=>(fo_t1 T E P A (n+cs.length+1) ..).trans (fTurn_map hb hy (by lia))) (e k)⟩
theorem fo_loop (c:Nat)(cs:List Nat)(n:Nat)(hc:∀ d∈c::cs,okC T d)(hl:cs.length≤9000):
  ∃ h' x' v',∀ k:Fl→Cx→Sto→Option β,exForK (G2 T E P (own1 A)) (n+(c::cs).length+21) ⟨dF.names,fL4 s p f w b m⟩ [c0,⟨0,.lst []⟩] (forT (stAt dF 4)) (forB (stAt dF 4)) none ((c::cs).map fun c=> .str ⟨#[c]⟩) k=
   k .nxt ⟨dF.names,fL5 h' x' s p f w b m⟩ [c0,⟨v',.lst (((c::cs).filterMap (foldC T)).map .str)⟩]:=by
 have hd:∀ d∈cs,okC T d:=fun d hd=>hc d (List.mem_cons_of_mem _ hd)
 rcases hc c List.mem_cons_self with hb | ⟨hb,y,hy⟩
 ·obtain⟨h',x',v',e⟩:=fo_loop1 (β:=β) T E P A f w b m p s c0 cs n (.bool (b1In (c:Int))) (.str ⟨#[c]⟩) 0 [] hd (by rw[List.length_nil]; lia)
  rw[List.filterMap_cons_none (foldC_none hb)]
  exact⟨h',x',v',fun k=>loopN rfl (fun k=>(fo_t0 T E P A (n+cs.length+1) ..).trans (fTurn_keep hb)) (e k)⟩
 ·obtain⟨h',x',v',e⟩:=fo_loop1 (β:=β) T E P A f w b m p s c0 cs n (.bool (b1In (c:Int))) (.str ⟨#[c]⟩) 1 [.str y] hd (by rw[List.length_singleton]; lia)
  rw[List.filterMap_cons_some (foldC_some hb hy)]
  exact⟨h',x',v',fun k=>loopN rfl (fun k=>(fo_t0 T E P A (n+cs.length+1) ..).trans (fTurn_map hb hy (Nat.zero_le _))) (e k)⟩
end
theorem okC_of {T:Int→Option Str}{c:Nat}{x:Str}(h:foldC T c=some x):okC T c:=by
 rcases ite_some h with⟨_,h⟩ | ⟨hb,h⟩
 ·exact nos h
 ·exact .inr ⟨Bool.eq_false_iff.mpr hb,x,h⟩
structure FT (T:Int→Option Str):Prop where
 h:∀ m,foldC T (frC 104 m)=some (S [104])
 p:∀ m,foldC T (frC 112 m)=some (S [112])
 hp:foldC T 13259=some (S [104,112])
 ph:foldC T 13271=some (S [112,104])
theorem un_all:∀ x∈List.range 27,b1In ((unL.getD x 0:Nat):Int)=true:=by decide+kernel
theorem un_b1 (m:Nat):b1In (unC m:Int)=true:=un_all _ (List.mem_range.mpr (Nat.mod_lt _ (by decide)))
noncomputable def sgC (c:Nat):Nat:=if c=104 then 13259 else 13271
noncomputable def two1 (c:Nat):List Nat:=if c=104 then [104,112] else [112,104]
noncomputable def dbl (w:List Nat):List Nat:=(w.map two1).flatten
noncomputable def folded (f w b:List Nat):List Nat:=f++(dbl w++b)
noncomputable def signsL (w:List Nat)(m:Nat):List Nat:=(((w.map sgC).take (m % (w.length+1))++[unC m])++(w.map sgC).drop (m % (w.length+1)))++[unC (m / 27)]
noncomputable def typedL (f w b:List Nat)(m:Nat):List Nat:=((f.map fun c=>frC c m)++signsL w m)++(b.map fun c=>frC c (m / 12))
noncomputable def FmIs (T:Int→Option Str)(l:List Nat)(r:List (List Nat)):Prop:=l.filterMap (foldC T)=r.map S∧∀ c∈l,okC T c
theorem FmIs.app {T:Int→Option Str}{l l':List Nat}{r r':List (List Nat)}(h:FmIs T l r)(h':FmIs T l' r'):FmIs T (l++l') (r++r'):=
 ⟨by rw[List.filterMap_append,h.1,h'.1,List.map_append],fun c hc=>(List.mem_append.mp hc).elim (h.2 c) (h'.2 c)⟩
theorem FmIs.un (T:Int→Option Str)(m:Nat):FmIs T [unC m] []:=⟨List.filterMap_cons_none (foldC_none (un_b1 m)),fun c hc=> .inl (List.mem_singleton.mp hc▸un_b1 m)⟩
theorem FmIs.map {T:Int→Option Str}(f:Nat→Nat)(g:Nat→List Nat):∀ w:List Nat,(∀ c∈w,foldC T (f c)=some (S (g c)))→FmIs T (w.map f) (w.map g)
 | [],_=>⟨rfl,fun c h=>nomatch h⟩
 | c::w,hw=>by
  have i:=FmIs.map f g w fun d hd=>hw d (List.mem_cons_of_mem _ hd)
  have e:=hw c List.mem_cons_self
  exact⟨by rw[List.map_cons,List.filterMap_cons_some e,i.1]; rfl,fun d hd=>(List.mem_cons.mp hd).elim (fun h=>h▸okC_of e) (i.2 d)⟩
theorem fm_fr {T:Int→Option Str}(F:FT T)(m:Nat)(w:List Nat)(hw:∀ c∈w,hp c):FmIs T (w.map fun c=>frC c m) (w.map fun c=>[c]):=
 FmIs.map _ _ w fun c hc=>(hw c hc).elim (fun e=>e▸F.h m) fun e=>e▸F.p m
theorem fm_sg {T:Int→Option Str}(F:FT T)(w:List Nat):FmIs T (w.map sgC) (w.map two1):=FmIs.map _ _ w fun c _=>by
 unfold sgC two1
 by_cases h:c=104
 ·rw[if_pos h,if_pos h]; exact F.hp
 ·rw[if_neg h,if_neg h]; exact F.ph
theorem typed_fold {T:Int→Option Str}(F:FT T)(f w b:List Nat)(m:Nat)(hf:∀ c∈f,hp c)(hb:∀ c∈b,hp c):
  FmIs T (typedL f w b m) (((f.map fun c=>[c])++w.map two1)++b.map fun c=>[c]):=by
 have t:=fm_sg F (w.take (m % (w.length+1)))
 have d:=fm_sg F (w.drop (m % (w.length+1)))
 have s:FmIs T (signsL w m) (w.map two1):=by
  have h:=((t.app (FmIs.un T m)).app d).app (FmIs.un T (m / 27))
  rw[List.append_nil,List.append_nil,← List.map_append,List.take_append_drop] at h
  unfold signsL
  rw[← List.map_take,← List.map_drop]
  exact h
 exact ((fm_fr F m f hf).app s).app (fm_fr F (m / 12) b hb)
noncomputable def letF:PV→Option PV
 | .str x=>some (.str (if x="h" then "㏋" else "㏗"))
 | _=>none
theorem sg_S:(PySem.Str.ofString "㏋")=S [13259]∧(PySem.Str.ofString "㏗")=S [13271]:=by decide+kernel
theorem letF_map:∀ w:List Nat,(w.map fun c=>PV.str ⟨#[c]⟩).filterMap letF=((w.map sgC).map fun c=>(⟨#[c]⟩:Str)).map .str
 | []=>rfl
 | c::w=>by
  have h:((⟨#[c]⟩:Str)="h")↔c=104:=by
   show (⟨#[c]⟩:Str)=⟨#[104]⟩↔_
   simp -iota
  have e:letF (PV.str ⟨#[c]⟩)=some (.str ⟨#[sgC c]⟩):=by
   show some (PV.str (if (⟨#[c]⟩:Str)="h" then "㏋" else "㏗"))=_
   unfold sgC
   by_cases hc:c=104
   ·rw[if_pos (h.mpr hc),if_pos hc,sg_S.1]; rfl
   ·rw[if_neg fun e=>hc (h.mp e),if_neg hc,sg_S.2]; rfl
  rw[List.map_cons,List.filterMap_cons_some e,letF_map w]
  rfl
theorem two1_len (c:Nat):(two1 c).length=2:=by unfold two1; by_cases h:c=104 <;> simp -iota [h]
theorem dbl_len:∀ w:List Nat,(dbl w).length=2 * w.length
 | []=>rfl
 | c::w=>by
  show (two1 c++dbl w).length=_
  rw[List.length_append,two1_len,dbl_len w,List.length_cons]
  lia
structure OkF (A:Ans1):Prop where
 sp:∀ (w:List Nat) (m:Nat),(∀ c∈w,hp c)→w.length≤100→A.sp (S w) (m:Int)=some (S (w.map fun c=>frC c m))
 un:∀ m:Nat,A.un (m:Int)=some (S [unC m])
section
variable {β:Type}(T:Int→Option Str)(E P:Fn){A:Ans1}(O:OkF A)(f w b:List Nat)(m:Nat)
theorem fo_0N (hw:w.length≤100)(k:Fl→Cx→Sto→Option β):exK (G2 T E P (own1 A)) 1999 ⟨dF.names,fL0 (S f) (S w) (S b) m⟩ [] (stAt dF 0) k=
  k .nxt ⟨dF.names,fL1 (.str (S (w.map sgC))) (S f) (S w) (S b) m⟩ [⟨0,.lst (((w.map sgC).map fun c=>(⟨#[c]⟩:Str)).map .str)⟩]:=by
 have hlen:(w.map fun c=>PV.str (⟨#[c]⟩:Str)).length=w.length:=List.length_map ..
 have hk:=ones_ok (w.map sgC) (by rw[List.length_map]; exact Nat.le_trans hw (by decide))
 refine asgN fo_0s (σ':=[⟨0,.lst (((w.map sgC).map fun c=>(⟨#[c]⟩:Str)).map .str)⟩]) (x:= .str (S (w.map sgC))) (fun K=>?_) (fo_0t _ _ _ _ _) k
 have J:=join_comp (G:=G2 T E P (own1 A)) (cx:=⟨dF.names,fL0 (S f) (S w) (S b) m⟩) (σ:=[]) (e:=eF0) (fun v=>("letter",v)::fC0 (S f) (S w) (S b) m) letF 20 (items:=w.map fun c=>PV.str ⟨#[c]⟩)
  (ts:=(w.map sgC).map fun c=>(⟨#[c]⟩:Str)) fo_0j (fo_0l _ _ _ _) (1968 - w.length) K (fun n K=>(fo_0i T E P A n _ _ _ _ _ K).trans (by rw[signs_S])) (fun v _=>fo_0a _ _ _ _ v) (fun v _ u=>fo_0b _ _ _ _ u v)
  (fun v hv n K=>by
   obtain⟨c,_,rfl⟩:=List.mem_map.mp hv
   rw[fo_0c]
   show _=K (some (PV.str (if (⟨#[c]⟩:Str)="h" then "㏋" else "㏗"))) _
   by_cases h:(⟨#[c]⟩:Str)="h"
   ·rw[if_pos h,decide_eq_true h]; rfl
   ·rw[if_neg h,decide_eq_false h]; rfl) (letF_map w) (by rw[List.length_map,List.length_map]; exact Nat.le_trans hw (by decide)) (by rw[show joinS eF0="" from fo_0e]; exact hk)
 rw[hlen,show 1968 - w.length+(20+10)+w.length=1998 by lia] at J
 refine J.trans ?_
 rw[show joinS eF0="" from fo_0e,ones_join]
 rfl
theorem fo_1N (hw:w.length≤100)(s:PV)(σ:Sto)(k:Fl→Cx→Sto→Option β):exK (G2 T E P (own1 A)) 1998 ⟨dF.names,fL1 s (S f) (S w) (S b) m⟩ σ (stAt dF 1) k=
  k .nxt ⟨dF.names,fL2 ((m % (w.length+1):Nat):Int) s (S f) (S w) (S b) m⟩ σ:=by
 refine (fo_1 T E P A 1978 ..).trans ?_
 rw[S_len,gp (Nat.le_trans hw (by decide)),if_neg (by lia),show Int.fmod (m:Int) ((w.length:Int)+1)=((m % (w.length+1):Nat):Int) from fmod_nat m (w.length+1)]
include O in
theorem fo_2N (hw:w.length≤100)(σ:Sto)(k:Fl→Cx→Sto→Option β):exK (G2 T E P (own1 A)) 1997 ⟨dF.names,fL2 ((m % (w.length+1):Nat):Int) (.str (S (w.map sgC))) (S f) (S w) (S b) m⟩ σ (stAt dF 2) k=
  k .nxt ⟨dF.names,fL3 (.str (S (signsL w m))) ((m % (w.length+1):Nat):Int) (S f) (S w) (S b) m⟩ σ:=by
 have hl:(w.map sgC).length=w.length:=List.length_map ..
 have hm:m % (w.length+1)≤(w.map sgC).length:=hl▸Nat.le_of_lt_succ (Nat.mod_lt _ (Nat.succ_pos _))
 have h1:((w.map sgC).take (m % (w.length+1))).length≤100:=Nat.le_trans (List.length_take_le' ..) (hl▸hw)
 have h2:((w.map sgC).drop (m % (w.length+1))).length≤100:=by rw[List.length_drop,hl]; exact Nat.le_trans (Nat.sub_le ..) hw
 refine (fo_2 T E P A 1977 ..).trans ?_
 rw[S_len,hl,gp (Nat.le_trans hw (by decide)),ansIS_at (O.un m),liftK_some,sli_take _ _ hm,add_S _ _ (by rw[List.length_singleton]; lia),gp (Nat.le_trans hw (by decide)),sli_drop _ _ hm,
  add_S _ _ (by rw[List.length_append,List.length_singleton]; lia),show Int.fdiv (m:Int) 27=((m / 27:Nat):Int) from fdiv_nat m 27,ansIS_at (O.un (m / 27)),liftK_some,add_S _ _ (by rw[List.length_append,List.length_append,List.length_singleton,List.length_singleton]; lia)]
 rfl
theorem signsL_len:(signsL w m).length=w.length+2:=by
 have h:=congrArg List.length (List.take_append_drop (m % (w.length+1)) (w.map sgC))
 rw[List.length_append,List.length_map] at h
 unfold signsL
 rw[List.length_append,List.length_append,List.length_append,List.length_singleton,List.length_singleton]
 lia
include O in
theorem fo_4N (hf:∀ c∈f,hp c)(hb:∀ c∈b,hp c)(hfl:f.length≤50)(hbl:b.length≤50)(hw:w.length≤100)(p:Int)(σ:Sto)(k:List PV→Option (Nat×Nat)→Sto→Option β):
  evItK (G2 T E P (own1 A)) 1994 ⟨dF.names,fL4 (.str (S (signsL w m))) p (S f) (S w) (S b) m⟩ σ (forI (stAt dF 4)) k=k ((typedL f w b m).map fun c=> .str ⟨#[c]⟩) none σ:=by
 have hs:=signsL_len w m
 refine (fo_4i T E P A 1974 ..).trans ?_
 rw[ansOwn_at (O.sp f m hf (Nat.le_trans hfl (by decide))),liftK_some,add_S _ _ (by rw[List.length_map,hs]; lia),show Int.fdiv (m:Int) 12=((m / 12:Nat):Int) from fdiv_nat m 12,ansOwn_at (O.sp b (m / 12) hb (Nat.le_trans hbl (by decide))),liftK_some,
  add_S _ _ (by rw[List.length_append,List.length_map,List.length_map,hs]; lia)]
 show k (signs (S (typedL f w b m))) none σ=_
 rw[signs_S]
end
theorem folded_run {T:Int→Option Str}(F:FT T)(E P:Fn){A:Ans1}(O:OkF A)(f w b:List Nat)(m:Nat)(hf:∀ c∈f,hp c)(hb:∀ c∈b,hp c)(hfl:f.length≤50)(hbl:b.length≤50)(hw:w.length≤100):
  ∃ σ',runDK (G2 T E P (own1 A)) 2000 dF [.str (S f),.str (S w),.str (S b),.int (m:Int)] []=some (.str (S (folded f w b)),σ'):=by
 have ht:=typed_fold F f w b m hf hb
 have htl:(typedL f w b m).length=f.length+(w.length+2)+b.length:=by
  unfold typedL
  rw[List.length_append,List.length_append,List.length_map,List.length_map,signsL_len]
 have hi1:=fun p σ=>fo_4N (β:=PV×Sto) T E P O f w b m hf hb hfl hbl hw p σ
 have hfl2:(((f.map fun c=>[c])++w.map two1)++b.map fun c=>[c]).flatten=folded f w b:=by
  rw[List.flatten_append,List.flatten_append,ones_flat,ones_flat,List.append_assoc]; rfl
 have hj:JoinOk "" ((((f.map fun c=>[c])++w.map two1)++b.map fun c=>[c]).map S)=true:=joinOk_of _ _ (by
  rw[sum_len,hfl2]
  have h0:(Str.ofString "").length=0:=rfl
  rw[h0]
  unfold folded
  rw[List.length_append,List.length_append,dbl_len]
  lia)
 cases hty:typedL f w b m with
 | nil=>rw[hty] at htl; exact absurd htl.symm (by rw[List.length_nil]; lia)
 | cons x0 xs=>
  rw[hty] at hi1 ht htl
  have hl:xs.length≤300:=by rw[List.length_cons] at htl; lia
  obtain⟨h',x',v',e⟩:=fo_loop (β:=PV×Sto) T E P A (S f) (S w) (S b) m ((m % (w.length+1):Nat):Int) (.str (S (signsL w m))) ⟨0,.lst (((w.map sgC).map fun c=>(⟨#[c]⟩:Str)).map .str)⟩ x0 xs (1973 - (x0::xs).length) ht.2 (Nat.le_trans hl (by decide))
  rw[show 1973 - (x0::xs).length+(x0::xs).length+21=1994 by rw[List.length_cons]; lia,ht.1] at e
  rw[runDK_at (le:=fL0 (S f) (S w) (S b) m) dF_params rfl rfl,dF_body]
  exact⟨_,seqN (fun k=>fo_0N T E P f w b m hw k) (seqN (fun k=>fo_1N T E P f w b m hw _ _ k) (seqN (fun k=>fo_2N T E P O f w b m hw _ k) (seqN (fun k=>fo_3 T E P A 1976 _ _ _ _ _ _ _ k) (seqN (forN fo_4s (hi1 _ _) e)
   (seqR (retN fo_5r fun K=>(fo_5j _ _ 1990 _ _ _).trans ((fo_5x1 T E P A 1986 _ _ _ _ _ _ _ _ _ _).trans (by rw[fo_5e]; exact (join_at "" _ _ 1 _ rfl hj).trans (by rw[join_S,hfl2])))) rfl)))))⟩
noncomputable abbrev dL:DefP:=defP p3 "law"
theorem dL_body:dL.body=[stAt dL 0,stAt dL 1,stAt dL 2,stAt dL 3,stAt dL 4,stAt dL 5,stAt dL 6,stAt dL 7,stAt dL 8,stAt dL 9,stAt dL 10,stAt dL 11,stAt dL 12,stAt dL 13,stAt dL 14,stAt dL 15]:=by kernel_rfl!
theorem dL_params:dL.params=(["script"]:List Str):=by kernel_rfl!
noncomputable def V0:LE:=[("script",.lst 0)]
noncomputable def V1:LE:=[("base",(.tup [.int 0,.int 0,.int 0,.int 3,.int 1,.int 2,.int 1,.int 0,.int 3,.int 33])),("script",.lst 0)]
noncomputable def V2:LE:=[("numbers",.lst 1),("base",(.tup [.int 0,.int 0,.int 0,.int 3,.int 1,.int 2,.int 1,.int 0,.int 3,.int 33])),("script",.lst 0)]
noncomputable def V3 (w:Str)(m:Int):LE:=[("n",.int m),("word",.str w),("numbers",.lst 1),("base",(.tup [.int 0,.int 0,.int 0,.int 3,.int 1,.int 2,.int 1,.int 0,.int 3,.int 33])),("script",.lst 0)]
noncomputable def V4 (tw:Str)(w:Str)(m:Int):LE:=[("twice",.str tw),("n",.int m),("word",.str w),("numbers",.lst 1),("base",(.tup [.int 0,.int 0,.int 0,.int 3,.int 1,.int 2,.int 1,.int 0,.int 3,.int 33])),("script",.lst 0)]
noncomputable def V5 (tw:Str)(w:Str)(m:Int):LE:=[("backs",.lst 4),("fronts",.lst 3),("twice",.str tw),("n",.int m),("word",.str w),("numbers",.lst 1),("base",(.tup [.int 0,.int 0,.int 0,.int 3,.int 1,.int 2,.int 1,.int 0,.int 3,.int 33])),("script",.lst 0)]
noncomputable def V6 (tw:Str)(w:Str)(x:Str)(y:Str)(m:Int):LE:=[("other",.str y),("letter",.str x),("backs",.lst 4),("fronts",.lst 3),("twice",.str tw),("n",.int m),("word",.str w),("numbers",.lst 1),("base",(.tup [.int 0,.int 0,.int 0,.int 3,.int 1,.int 2,.int 1,.int 0,.int 3,.int 33])),("script",.lst 0)]
noncomputable def V7 (tw:Str)(w:Str)(x:Str)(y:Str)(m:Int)(u:Bool)(v:Bool):LE:=[("behind",.bool v),("ahead",.bool u),("other",.str y),("letter",.str x),("backs",.lst 4),("fronts",.lst 3),("twice",.str tw),("n",.int m),("word",.str w),("numbers",.lst 1),("base",(.tup [.int 0,.int 0,.int 0,.int 3,.int 1,.int 2,.int 1,.int 0,.int 3,.int 33])),("script",.lst 0)]
noncomputable def V8 (tw:Str)(w:Str)(x0:Str)(y0:Str)(m:Int)(u0:PV)(v0:PV):LE:=[("behind",v0),("ahead",u0),("other",.str y0),("letter",.str x0),("backs",.lst 4),("fronts",.lst 3),("twice",.str tw),("n",.int m),("word",.str w),("numbers",.lst 1),("base",(.tup [.int 0,.int 0,.int 0,.int 3,.int 1,.int 2,.int 1,.int 0,.int 3,.int 33])),("script",.lst 0)]
noncomputable def V9 (tw:Str)(w:Str)(x:Str)(y:Str)(m:Int)(u0:PV)(v0:PV):LE:=[("other",.str y),("letter",.str x),("behind",v0),("ahead",u0),("backs",.lst 4),("fronts",.lst 3),("twice",.str tw),("n",.int m),("word",.str w),("numbers",.lst 1),("base",(.tup [.int 0,.int 0,.int 0,.int 3,.int 1,.int 2,.int 1,.int 0,.int 3,.int 33])),("script",.lst 0)]
noncomputable def V10 (tw:Str)(w:Str)(x:Str)(y:Str)(z:Str)(m:Int)(u:Bool)(v:Bool):LE:=[("whole",.str z),("behind",.bool v),("ahead",.bool u),("other",.str y),("letter",.str x),("backs",.lst 4),("fronts",.lst 3),("twice",.str tw),("n",.int m),("word",.str w),("numbers",.lst 1),("base",(.tup [.int 0,.int 0,.int 0,.int 3,.int 1,.int 2,.int 1,.int 0,.int 3,.int 33])),("script",.lst 0)]
noncomputable def V11 (tw:Str)(w:Str)(z:Str)(m:Int)(tv:Nat→PV):LE:=[("whole",.str z),("behind",tv 0),("ahead",tv 1),("other",tv 2),("letter",tv 3),("backs",.lst 4),("fronts",.lst 3),("twice",.str tw),("n",.int m),("word",.str w),("numbers",.lst 1),("base",(.tup [.int 0,.int 0,.int 0,.int 3,.int 1,.int 2,.int 1,.int 0,.int 3,.int 33])),("script",.lst 0)]
noncomputable def V12 (tw:Str)(w:Str)(z:Str)(m:Int)(tv:Nat→PV):LE:=[("rest",.str z),("pile",.lst 6),("whole",.str z),("behind",tv 0),("ahead",tv 1),("other",tv 2),("letter",tv 3),("backs",.lst 4),("fronts",.lst 3),("twice",.str tw),("n",.int m),("word",.str w),("numbers",.lst 1),("base",(.tup [.int 0,.int 0,.int 0,.int 3,.int 1,.int 2,.int 1,.int 0,.int 3,.int 33])),("script",.lst 0)]
noncomputable def V13 (tw:Str)(w:Str)(z:Str)(r:Str)(m:Int)(tv:Nat→PV):LE:=[("rest",.str r),("pile",.lst 6),("whole",.str z),("behind",tv 0),("ahead",tv 1),("other",tv 2),("letter",tv 3),("backs",.lst 4),("fronts",.lst 3),("twice",.str tw),("n",.int m),("word",.str w),("numbers",.lst 1),("base",(.tup [.int 0,.int 0,.int 0,.int 3,.int 1,.int 2,.int 1,.int 0,.int 3,.int 33])),("script",.lst 0)]
noncomputable def V14 (tw:Str)(w:Str)(z:Str)(r:Str)(m:Int)(s:PV)(tv:Nat→PV):LE:=[("step",s),("rest",.str r),("pile",.lst 6),("whole",.str z),("behind",tv 0),("ahead",tv 1),("other",tv 2),("letter",tv 3),("backs",.lst 4),("fronts",.lst 3),("twice",.str tw),("n",.int m),("word",.str w),("numbers",.lst 1),("base",(.tup [.int 0,.int 0,.int 0,.int 3,.int 1,.int 2,.int 1,.int 0,.int 3,.int 33])),("script",.lst 0)]
noncomputable def V15 (tw:Str)(w:Str)(z:Str)(r:Str)(m:Int)(s:PV)(ci:Nat)(tv:Nat→PV):LE:=[("cuts",.lst ci),("step",s),("rest",.str r),("pile",.lst 6),("whole",.str z),("behind",tv 0),("ahead",tv 1),("other",tv 2),("letter",tv 3),("backs",.lst 4),("fronts",.lst 3),("twice",.str tw),("n",.int m),("word",.str w),("numbers",.lst 1),("base",(.tup [.int 0,.int 0,.int 0,.int 3,.int 1,.int 2,.int 1,.int 0,.int 3,.int 33])),("script",.lst 0)]
noncomputable def V16 (tw:Str)(w:Str)(z:Str)(r:Str)(f:Str)(b:Str)(m:Int)(s:PV)(ci:Nat)(tv:Nat→PV):LE:=[("back",.str b),("front",.str f),("cuts",.lst ci),("step",s),("rest",.str r),("pile",.lst 6),("whole",.str z),("behind",tv 0),("ahead",tv 1),("other",tv 2),("letter",tv 3),("backs",.lst 4),("fronts",.lst 3),("twice",.str tw),("n",.int m),("word",.str w),("numbers",.lst 1),("base",(.tup [.int 0,.int 0,.int 0,.int 3,.int 1,.int 2,.int 1,.int 0,.int 3,.int 33])),("script",.lst 0)]
noncomputable def V17 (tw:Str)(w:Str)(z:Str)(r:Str)(f:Str)(b:Str)(m:Int)(s:PV)(ci:Nat)(li:Nat)(tv:Nat→PV):LE:=[("links",.lst li),("back",.str b),("front",.str f),("cuts",.lst ci),("step",s),("rest",.str r),("pile",.lst 6),("whole",.str z),("behind",tv 0),("ahead",tv 1),("other",tv 2),("letter",tv 3),("backs",.lst 4),("fronts",.lst 3),("twice",.str tw),("n",.int m),("word",.str w),("numbers",.lst 1),("base",(.tup [.int 0,.int 0,.int 0,.int 3,.int 1,.int 2,.int 1,.int 0,.int 3,.int 33])),("script",.lst 0)]
noncomputable def V18 (tw:Str)(w:Str)(z:Str)(r:Str)(f:Str)(b:Str)(m:Int)(s:PV)(ci:Nat)(li:Nat)(pi:Nat)(tv:Nat→PV):LE:=[("pairs",.lst pi),("links",.lst li),("back",.str b),("front",.str f),("cuts",.lst ci),("step",s),("rest",.str r),("pile",.lst 6),("whole",.str z),("behind",tv 0),("ahead",tv 1),("other",tv 2),("letter",tv 3),("backs",.lst 4),("fronts",.lst 3),("twice",.str tw),("n",.int m),("word",.str w),("numbers",.lst 1),("base",(.tup [.int 0,.int 0,.int 0,.int 3,.int 1,.int 2,.int 1,.int 0,.int 3,.int 33])),("script",.lst 0)]
noncomputable def V19 (tw:Str)(w:Str)(z:Str)(f:Str)(b:Str)(m:Int)(s:PV)(ci:Nat)(li:Nat)(pi:Nat)(tv:Nat→PV)(z0:Str):LE:=[("rest",.str z0),("pairs",.lst pi),("links",.lst li),("back",.str b),("front",.str f),("cuts",.lst ci),("step",s),("pile",.lst 6),("whole",.str z),("behind",tv 0),("ahead",tv 1),("other",tv 2),("letter",tv 3),("backs",.lst 4),("fronts",.lst 3),("twice",.str tw),("n",.int m),("word",.str w),("numbers",.lst 1),("base",(.tup [.int 0,.int 0,.int 0,.int 3,.int 1,.int 2,.int 1,.int 0,.int 3,.int 33])),("script",.lst 0)]
noncomputable def V20 (tw:Str)(w:Str)(z:Str)(r:Str)(m:Int)(tv:Nat→PV):LE:=[("rest",.str r),("pairs",tv 4),("links",tv 5),("back",tv 6),("front",tv 7),("cuts",tv 8),("step",tv 9),("pile",.lst 6),("whole",.str z),("behind",tv 0),("ahead",tv 1),("other",tv 2),("letter",tv 3),("backs",.lst 4),("fronts",.lst 3),("twice",.str tw),("n",.int m),("word",.str w),("numbers",.lst 1),("base",(.tup [.int 0,.int 0,.int 0,.int 3,.int 1,.int 2,.int 1,.int 0,.int 3,.int 33])),("script",.lst 0)]
noncomputable def V21 (tw:Str)(w:Str)(z:Str)(r:Str)(m:Int)(s:PV)(tv:Nat→PV):LE:=[("step",s),("rest",.str r),("pairs",tv 4),("links",tv 5),("back",tv 6),("front",tv 7),("cuts",tv 8),("pile",.lst 6),("whole",.str z),("behind",tv 0),("ahead",tv 1),("other",tv 2),("letter",tv 3),("backs",.lst 4),("fronts",.lst 3),("twice",.str tw),("n",.int m),("word",.str w),("numbers",.lst 1),("base",(.tup [.int 0,.int 0,.int 0,.int 3,.int 1,.int 2,.int 1,.int 0,.int 3,.int 33])),("script",.lst 0)]
noncomputable def V22 (tw:Str)(w:Str)(z:Str)(r:Str)(m:Int)(s:PV)(ci:Nat)(tv:Nat→PV):LE:=[("cuts",.lst ci),("step",s),("rest",.str r),("pairs",tv 4),("links",tv 5),("back",tv 6),("front",tv 7),("pile",.lst 6),("whole",.str z),("behind",tv 0),("ahead",tv 1),("other",tv 2),("letter",tv 3),("backs",.lst 4),("fronts",.lst 3),("twice",.str tw),("n",.int m),("word",.str w),("numbers",.lst 1),("base",(.tup [.int 0,.int 0,.int 0,.int 3,.int 1,.int 2,.int 1,.int 0,.int 3,.int 33])),("script",.lst 0)]
noncomputable def V23 (tw:Str)(w:Str)(z:Str)(r:Str)(f:Str)(b:Str)(m:Int)(s:PV)(ci:Nat)(tv:Nat→PV):LE:=[("back",.str b),("front",.str f),("cuts",.lst ci),("step",s),("rest",.str r),("pairs",tv 4),("links",tv 5),("pile",.lst 6),("whole",.str z),("behind",tv 0),("ahead",tv 1),("other",tv 2),("letter",tv 3),("backs",.lst 4),("fronts",.lst 3),("twice",.str tw),("n",.int m),("word",.str w),("numbers",.lst 1),("base",(.tup [.int 0,.int 0,.int 0,.int 3,.int 1,.int 2,.int 1,.int 0,.int 3,.int 33])),("script",.lst 0)]
noncomputable def V24 (tw:Str)(w:Str)(z:Str)(r:Str)(f:Str)(b:Str)(m:Int)(s:PV)(ci:Nat)(li:Nat)(tv:Nat→PV):LE:=[("links",.lst li),("back",.str b),("front",.str f),("cuts",.lst ci),("step",s),("rest",.str r),("pairs",tv 4),("pile",.lst 6),("whole",.str z),("behind",tv 0),("ahead",tv 1),("other",tv 2),("letter",tv 3),("backs",.lst 4),("fronts",.lst 3),("twice",.str tw),("n",.int m),("word",.str w),("numbers",.lst 1),("base",(.tup [.int 0,.int 0,.int 0,.int 3,.int 1,.int 2,.int 1,.int 0,.int 3,.int 33])),("script",.lst 0)]
noncomputable def V25 (tw:Str)(w:Str)(z:Str)(r:Str)(f:Str)(b:Str)(m:Int)(s:PV)(tv:Nat→PV):LE:=[("back",.str b),("front",.str f),("step",s),("rest",.str r),("pairs",tv 4),("links",tv 5),("cuts",tv 8),("pile",.lst 6),("whole",.str z),("behind",tv 0),("ahead",tv 1),("other",tv 2),("letter",tv 3),("backs",.lst 4),("fronts",.lst 3),("twice",.str tw),("n",.int m),("word",.str w),("numbers",.lst 1),("base",(.tup [.int 0,.int 0,.int 0,.int 3,.int 1,.int 2,.int 1,.int 0,.int 3,.int 33])),("script",.lst 0)]
noncomputable def V26 (tw:Str)(w:Str)(z:Str)(f:Str)(b:Str)(m:Int)(s:PV)(tv:Nat→PV)(z0:Str):LE:=[("rest",.str z0),("back",.str b),("front",.str f),("step",s),("pairs",tv 4),("links",tv 5),("cuts",tv 8),("pile",.lst 6),("whole",.str z),("behind",tv 0),("ahead",tv 1),("other",tv 2),("letter",tv 3),("backs",.lst 4),("fronts",.lst 3),("twice",.str tw),("n",.int m),("word",.str w),("numbers",.lst 1),("base",(.tup [.int 0,.int 0,.int 0,.int 3,.int 1,.int 2,.int 1,.int 0,.int 3,.int 33])),("script",.lst 0)]
noncomputable def V27 (tw:Str)(w:Str)(z:Str)(r:Str)(m:Int)(tv:Nat→PV):LE:=[("rest",.str r),("back",tv 6),("front",tv 7),("step",tv 9),("pairs",tv 4),("links",tv 5),("cuts",tv 8),("pile",.lst 6),("whole",.str z),("behind",tv 0),("ahead",tv 1),("other",tv 2),("letter",tv 3),("backs",.lst 4),("fronts",.lst 3),("twice",.str tw),("n",.int m),("word",.str w),("numbers",.lst 1),("base",(.tup [.int 0,.int 0,.int 0,.int 3,.int 1,.int 2,.int 1,.int 0,.int 3,.int 33])),("script",.lst 0)]
noncomputable def V28 (tw:Str)(w:Str)(z:Str)(r:Str)(m:Int)(s:PV)(tv:Nat→PV):LE:=[("step",s),("rest",.str r),("back",tv 6),("front",tv 7),("pairs",tv 4),("links",tv 5),("cuts",tv 8),("pile",.lst 6),("whole",.str z),("behind",tv 0),("ahead",tv 1),("other",tv 2),("letter",tv 3),("backs",.lst 4),("fronts",.lst 3),("twice",.str tw),("n",.int m),("word",.str w),("numbers",.lst 1),("base",(.tup [.int 0,.int 0,.int 0,.int 3,.int 1,.int 2,.int 1,.int 0,.int 3,.int 33])),("script",.lst 0)]
noncomputable def V29 (tw:Str)(w:Str)(z:Str)(r:Str)(m:Int)(tv:Nat→PV):LE:=[("size",.int z.length),("rest",.str r),("back",tv 6),("front",tv 7),("step",tv 9),("pairs",tv 4),("links",tv 5),("cuts",tv 8),("pile",.lst 6),("whole",.str z),("behind",tv 0),("ahead",tv 1),("other",tv 2),("letter",tv 3),("backs",.lst 4),("fronts",.lst 3),("twice",.str tw),("n",.int m),("word",.str w),("numbers",.lst 1),("base",(.tup [.int 0,.int 0,.int 0,.int 3,.int 1,.int 2,.int 1,.int 0,.int 3,.int 33])),("script",.lst 0)]
noncomputable def V30 (tw:Str)(w:Str)(z:Str)(r:Str)(m:Int)(q:Int)(tv:Nat→PV):LE:=[("q",.int q),("size",.int z.length),("rest",.str r),("back",tv 6),("front",tv 7),("step",tv 9),("pairs",tv 4),("links",tv 5),("cuts",tv 8),("pile",.lst 6),("whole",.str z),("behind",tv 0),("ahead",tv 1),("other",tv 2),("letter",tv 3),("backs",.lst 4),("fronts",.lst 3),("twice",.str tw),("n",.int m),("word",.str w),("numbers",.lst 1),("base",(.tup [.int 0,.int 0,.int 0,.int 3,.int 1,.int 2,.int 1,.int 0,.int 3,.int 33])),("script",.lst 0)]
noncomputable def V31 (tw:Str)(w:Str)(z:Str)(r:Str)(m:Int)(q0:PV)(tv:Nat→PV):LE:=[("q",q0),("size",.int z.length),("rest",.str r),("back",tv 6),("front",tv 7),("step",tv 9),("pairs",tv 4),("links",tv 5),("cuts",tv 8),("pile",.lst 6),("whole",.str z),("behind",tv 0),("ahead",tv 1),("other",tv 2),("letter",tv 3),("backs",.lst 4),("fronts",.lst 3),("twice",.str tw),("n",.int m),("word",.str w),("numbers",.lst 1),("base",(.tup [.int 0,.int 0,.int 0,.int 3,.int 1,.int 2,.int 1,.int 0,.int 3,.int 33])),("script",.lst 0)]
section
variable {β:Type}(T:Int→Option Str)(e:Str→Str→Option Bool)(P:Fn)(A:Ans1)(n:Nat)
theorem lw_0 (σ:Sto)(k:Fl→Cx→Sto→Option β):exK (G2 T (elF e) P (own1 A)) (n+40) ⟨dL.names,V0⟩ σ (stAt dL 0) k=k .nxt ⟨dL.names,V1⟩ σ:=by kernel_rfl!
theorem lw_1s:AsgIs (stAt dL 1):=fun β G n cx σ k=>by kernel_rfl!
noncomputable def eL1:Expr:=asgE (stAt dL 1)
theorem lw_1l:LcIs ⟨dL.names,V1⟩ eL1:=fun β G n σ k=>by kernel_rfl!
theorem lw_1i (σ:Sto)(k:List PV→Option (Nat×Nat)→Sto→Option β):evItK (G2 T (elF e) P (own1 A)) (n+5) ⟨dL.names,V1⟩ σ (lcI eL1) k=k (enumed 0 [.int 0,.int 0,.int 0,.int 3,.int 1,.int 2,.int 1,.int 0,.int 3,.int 33]) none σ:=by kernel_rfl!
noncomputable def lC1:LE:=capt ⟨dL.names,V1⟩ (lcN eL1)
theorem lw_1a (a b:PV):bindT ⟨lcN eL1,lC1⟩ (lcT eL1) (.tup [a,b])=some ⟨lcN eL1,("own",b)::("k",a)::lC1⟩:=by kernel_rfl!
theorem lw_1b (u v a b:PV):bindT ⟨lcN eL1,("own",u)::("k",v)::lC1⟩ (lcT eL1) (.tup [a,b])=some ⟨lcN eL1,("own",b)::("k",a)::lC1⟩:=by kernel_rfl!
theorem lw_1c (i w:Int)(v:Nat)(L:List PV)(K:Option PV→Sto→Option β):compB (G2 T (elF e) P (own1 A)) (n+20) ⟨lcN eL1,("own",.int w)::("k",.int i)::lC1⟩ [⟨v,.lst L⟩] eL1 K=
 grd (L.length≤100000) (onB (decide (i < (L.length:Int)))
  (subK (.lst 0) (.int i) [⟨v,.lst L⟩] fun x=>binLK .Add (.int w) x [⟨v,.lst L⟩] fun r σ=>binLK .Mod r (.int 1000000) σ fun r σ=>K (some r) σ)
  (K (some (.int (Int.fmod (w+0) 1000000))) [⟨v,.lst L⟩])):=by kernel_rfl!
theorem lw_1t:bindT ⟨dL.names,V1⟩ (asgT (stAt dL 1)) (.lst 1)=some ⟨dL.names,V2⟩:=by kernel_rfl!
theorem lw_2 (σ:Sto)(k:Fl→Cx→Sto→Option β):exK (G2 T (elF e) P (own1 A)) (n+40) ⟨dL.names,V2⟩ σ (stAt dL 2) k=liftK (ansGr A.gr [.lst 1] σ) fun v σ'=>subK (.lst 1) (.int 9) σ' fun x=>opt (bindT ⟨dL.names,V2⟩ (asgT (stAt dL 2)) (.tup [v,x])) fun cx'=>k .nxt cx' σ':=by kernel_rfl!
theorem lw_2t (w:Str)(m:Int):bindT ⟨dL.names,V2⟩ (asgT (stAt dL 2)) (.tup [.str w,.int m])=some ⟨dL.names,(V3 w m)⟩:=by kernel_rfl!
theorem lw_3 (w:Str)(m:Int)(σ:Sto)(k:Fl→Cx→Sto→Option β):exK (G2 T (elF e) P (own1 A)) (n+40) ⟨dL.names,(V3 w m)⟩ σ (stAt dL 3) k=grd (w.length≤100000) (onB (decide ((w.length:Int) < 9)) (onB (!([("hhpphhpp":Str),"pphhpphh"].any fun t=>t==w)) (k (.ret (.bool false)) ⟨dL.names,(V3 w m)⟩ σ) (k .nxt ⟨dL.names,(V3 w m)⟩ σ)) (k .nxt ⟨dL.names,(V3 w m)⟩ σ)):=by kernel_rfl!
theorem lw_4 (w:Str)(m:Int)(σ:Sto)(k:Fl→Cx→Sto→Option β):exK (G2 T (elF e) P (own1 A)) (n+40) ⟨dL.names,(V3 w m)⟩ σ (stAt dL 4) k=liftK (ansFold A.fo [.str "",.str w,.str "",.int m] σ) fun v σ'=>opt (bindT ⟨dL.names,(V3 w m)⟩ (asgT (stAt dL 4)) v) fun cx'=>k .nxt cx' σ':=by kernel_rfl!
theorem lw_4t (tw:Str)(w:Str)(m:Int):bindT ⟨dL.names,(V3 w m)⟩ (asgT (stAt dL 4)) (.str tw)=some ⟨dL.names,(V4 tw w m)⟩:=by kernel_rfl!
theorem lw_5 (tw:Str)(w:Str)(m:Int)(c0 c1 c2:Cell)(k:Fl→Cx→Sto→Option β):exK (G2 T (elF e) P (own1 A)) (n+40) ⟨dL.names,(V4 tw w m)⟩ [c0,c1,c2] (stAt dL 5) k=k .nxt ⟨dL.names,(V5 tw w m)⟩ [c0,c1,c2,⟨0,.lst [.str ""]⟩,⟨0,.lst [.str ""]⟩]:=by kernel_rfl!
theorem lw_6s:ForIs (stAt dL 6):=fun β G n cx σ k=>by kernel_rfl!
theorem lw_6i (tw:Str)(w:Str)(m:Int)(σ:Sto)(k:List PV→Option (Nat×Nat)→Sto→Option β):evItK (G2 T (elF e) P (own1 A)) (n+20) ⟨dL.names,(V5 tw w m)⟩ σ (forI (stAt dL 6)) k=k [.tup [.str "h",.str "p"],.tup [.str "p",.str "h"]] none σ:=by kernel_rfl!
noncomputable def b6 (i:Nat):Stmt:=stIn (forB (stAt dL 6)) i
theorem lw_6B:forB (stAt dL 6)=[b6 0,b6 1,b6 2,b6 3]:=by kernel_rfl!
theorem lw_6ta (tw:Str)(w:Str)(x:Str)(y:Str)(m:Int):bindT ⟨dL.names,(V5 tw w m)⟩ (forT (stAt dL 6)) (.tup [.str x,.str y])=some ⟨dL.names,(V6 tw w x y m)⟩:=by kernel_rfl!
theorem lw_60a (tw:Str)(w:Str)(x:Str)(y:Str)(m:Int)(σ:Sto)(k:Fl→Cx→Sto→Option β):exK (G2 T (elF e) P (own1 A)) (n+40) ⟨dL.names,(V6 tw w x y m)⟩ σ (b6 0) k=grd (tw.length≤100000) (grd ((sliStr tw none none (some (-1))++x).length≤100000) (liftK (ansSB A.la [.str (sliStr tw none none (some (-1))++x)] σ) fun u σ1=>grd ((tw++x).length≤100000) (liftK (ansSB A.la [.str (tw++x)] σ1) fun v σ2=>opt (bindT ⟨dL.names,(V6 tw w x y m)⟩ (asgT (b6 0)) (.tup [u,v])) fun cx'=>k .nxt cx' σ2))):=by kernel_rfl!
theorem lw_60ta (tw:Str)(w:Str)(x:Str)(y:Str)(m:Int)(u:Bool)(v:Bool):bindT ⟨dL.names,(V6 tw w x y m)⟩ (asgT (b6 0)) (.tup [.bool u,.bool v])=some ⟨dL.names,(V7 tw w x y m u v)⟩:=by kernel_rfl!
theorem lw_6tb (tw:Str)(w:Str)(x:Str)(y:Str)(x0:Str)(y0:Str)(m:Int)(u0:PV)(v0:PV):bindT ⟨dL.names,(V8 tw w x0 y0 m u0 v0)⟩ (forT (stAt dL 6)) (.tup [.str x,.str y])=some ⟨dL.names,(V9 tw w x y m u0 v0)⟩:=by kernel_rfl!
theorem lw_60b (tw:Str)(w:Str)(x:Str)(y:Str)(m:Int)(u0:PV)(v0:PV)(σ:Sto)(k:Fl→Cx→Sto→Option β):exK (G2 T (elF e) P (own1 A)) (n+40) ⟨dL.names,(V9 tw w x y m u0 v0)⟩ σ (b6 0) k=grd (tw.length≤100000) (grd ((sliStr tw none none (some (-1))++x).length≤100000) (liftK (ansSB A.la [.str (sliStr tw none none (some (-1))++x)] σ) fun u σ1=>grd ((tw++x).length≤100000) (liftK (ansSB A.la [.str (tw++x)] σ1) fun v σ2=>opt (bindT ⟨dL.names,(V9 tw w x y m u0 v0)⟩ (asgT (b6 0)) (.tup [u,v])) fun cx'=>k .nxt cx' σ2))):=by kernel_rfl!
theorem lw_60tb (tw:Str)(w:Str)(x:Str)(y:Str)(m:Int)(u0:PV)(v0:PV)(u:Bool)(v:Bool):bindT ⟨dL.names,(V9 tw w x y m u0 v0)⟩ (asgT (b6 0)) (.tup [.bool u,.bool v])=some ⟨dL.names,(V7 tw w x y m u v)⟩:=by kernel_rfl!
theorem lw_61 (tw:Str)(w:Str)(x:Str)(y:Str)(m:Int)(u:Bool)(v:Bool)(σ:Sto)(k:Fl→Cx→Sto→Option β):exK (G2 T (elF e) P (own1 A)) (n+40) ⟨dL.names,(V7 tw w x y m u v)⟩ σ (b6 1) k=grd (w.length≤100000) (grd ((sliStr w none none (some (-1))++y).length≤100000) (liftK (ansSB A.la [.str (sliStr w none none (some (-1))++y)] σ) fun a σ1=>grd ((w++x).length≤100000) (liftK (ansSB A.la [.str (w++x)] σ1) fun b σ2=>cmpK .NotEq σ2 (.tup [.bool u,.bool v]) (.tup [a,b]) fun t=>onB t (k (.ret (.bool false)) ⟨dL.names,(V7 tw w x y m u v)⟩ σ2) (k .nxt ⟨dL.names,(V7 tw w x y m u v)⟩ σ2)))):=by kernel_rfl!
theorem lw_62 (tw:Str)(w:Str)(x:Str)(y:Str)(m:Int)(u:Bool)(v:Bool)(c0 c1 c2:Cell)(vf vb:Nat)(F B:List PV)(k:Fl→Cx→Sto→Option β):exK (G2 T (elF e) P (own1 A)) (n+40) ⟨dL.names,(V7 tw w x y m u v)⟩ [c0,c1,c2,⟨vf,.lst F⟩,⟨vb,.lst B⟩] (b6 2) k=onB (!u) (grd (F.length≤10000) (k .nxt ⟨dL.names,(V7 tw w x y m u v)⟩ [c0,c1,c2,⟨vf+1,.lst (F++[.str x])⟩,⟨vb,.lst B⟩])) (k .nxt ⟨dL.names,(V7 tw w x y m u v)⟩ [c0,c1,c2,⟨vf,.lst F⟩,⟨vb,.lst B⟩]):=by kernel_rfl!
theorem lw_63 (tw:Str)(w:Str)(x:Str)(y:Str)(m:Int)(u:Bool)(v:Bool)(c0 c1 c2:Cell)(vf vb:Nat)(F B:List PV)(k:Fl→Cx→Sto→Option β):exK (G2 T (elF e) P (own1 A)) (n+40) ⟨dL.names,(V7 tw w x y m u v)⟩ [c0,c1,c2,⟨vf,.lst F⟩,⟨vb,.lst B⟩] (b6 3) k=onB (!v) (grd (B.length≤10000) (k .nxt ⟨dL.names,(V7 tw w x y m u v)⟩ [c0,c1,c2,⟨vf,.lst F⟩,⟨vb+1,.lst (B++[.str x])⟩])) (k .nxt ⟨dL.names,(V7 tw w x y m u v)⟩ [c0,c1,c2,⟨vf,.lst F⟩,⟨vb,.lst B⟩]):=by kernel_rfl!
theorem lw_7 (tw:Str)(w:Str)(x:Str)(y:Str)(m:Int)(u:Bool)(v:Bool)(c0 c1 c2:Cell)(vf vb:Nat)(F B:List PV)(k:Fl→Cx→Sto→Option β):exK (G2 T (elF e) P (own1 A)) (n+40) ⟨dL.names,(V7 tw w x y m u v)⟩ [c0,c1,c2,⟨vf,.lst F⟩,⟨vb,.lst B⟩] (stAt dL 7) k=grd (F.length≤100000) (if (F.length:Int)=0 then none else subK (.lst 3) (.int (Int.fmod m F.length)) [c0,c1,c2,⟨vf,.lst F⟩,⟨vb,.lst B⟩] fun p=>grd (B.length≤100000) (if (B.length:Int)=0 then none else subK (.lst 4) (.int (Int.fmod (Int.fdiv m 3) B.length)) [c0,c1,c2,⟨vf,.lst F⟩,⟨vb,.lst B⟩] fun q=>liftK (ansFold A.fo [p,.str w,q,.int m] [c0,c1,c2,⟨vf,.lst F⟩,⟨vb,.lst B⟩]) fun z σ'=>opt (bindT ⟨dL.names,(V7 tw w x y m u v)⟩ (asgT (stAt dL 7)) z) fun cx'=>k .nxt cx' σ')):=by kernel_rfl!
theorem lw_7t (tw:Str)(w:Str)(x:Str)(y:Str)(z:Str)(m:Int)(u:Bool)(v:Bool):bindT ⟨dL.names,(V7 tw w x y m u v)⟩ (asgT (stAt dL 7)) (.str z)=some ⟨dL.names,(V10 tw w x y z m u v)⟩:=by kernel_rfl!
theorem lw_8 (tw:Str)(w:Str)(z:Str)(m:Int)(tv:Nat→PV)(c0 c1 c2 c3 c4:Cell)(k:Fl→Cx→Sto→Option β):exK (G2 T (elF e) P (own1 A)) (n+40) ⟨dL.names,(V11 tw w z m tv)⟩ [c0,c1,c2,c3,c4] (stAt dL 8) k=k .nxt ⟨dL.names,(V12 tw w z m tv)⟩ [c0,c1,c2,c3,c4,⟨1,.ins [("_initial_size",.int 0)]⟩,⟨1,.acc 5 []⟩]:=by kernel_rfl!
theorem lw_9s:ForIs (stAt dL 9):=fun β G n cx σ k=>by kernel_rfl!
theorem lw_9i (tw:Str)(w:Str)(z:Str)(m:Int)(tv:Nat→PV)(σ:Sto)(k:List PV→Option (Nat×Nat)→Sto→Option β):evItK (G2 T (elF e) P (own1 A)) (n+20) ⟨dL.names,(V12 tw w z m tv)⟩ σ (forI (stAt dL 9)) k=k [.int 0,.int 1] none σ:=by kernel_rfl!
noncomputable def b9 (i:Nat):Stmt:=stIn (forB (stAt dL 9)) i
theorem lw_9B:forB (stAt dL 9)=[b9 0,b9 1,b9 2,b9 3,b9 4,b9 5,b9 6,b9 7,b9 8,b9 9]:=by kernel_rfl!
noncomputable def e93:Expr:=asgE (b9 3)
theorem lw_93s:AsgIs (b9 3):=fun β G n cx σ k=>by kernel_rfl!
theorem lw_95f:IfIs (b9 5):=fun β G n cx σ k=>by kernel_rfl!
theorem lw_95B:ifB (b9 5)=[]:=by kernel_rfl!
theorem lw_96f:IfIs (b9 6):=fun β G n cx σ k=>by kernel_rfl!
theorem lw_96B:ifB (b9 6)=[]:=by kernel_rfl!
theorem lw_9ta (tw:Str)(w:Str)(z:Str)(r:Str)(m:Int)(s:PV)(tv:Nat→PV):bindT ⟨dL.names,(V13 tw w z r m tv)⟩ (forT (stAt dL 9)) s=some ⟨dL.names,(V14 tw w z r m s tv)⟩:=by kernel_rfl!
theorem lw_90a (tw:Str)(w:Str)(z:Str)(r:Str)(m:Int)(s:PV)(tv:Nat→PV)(σ:Sto)(k:Fl→Cx→Sto→Option β):exK (G2 T (elF e) P (own1 A)) (n+40) ⟨dL.names,(V14 tw w z r m s tv)⟩ σ (b9 0) k=liftK (ansTups A.cu [.str r] σ) fun v σ'=>opt (bindT ⟨dL.names,(V14 tw w z r m s tv)⟩ (asgT (b9 0)) v) fun cx'=>k .nxt cx' σ':=by kernel_rfl!
theorem lw_90ta (tw:Str)(w:Str)(z:Str)(r:Str)(m:Int)(s:PV)(ci:Nat)(tv:Nat→PV):bindT ⟨dL.names,(V14 tw w z r m s tv)⟩ (asgT (b9 0)) (.lst ci)=some ⟨dL.names,(V15 tw w z r m s ci tv)⟩:=by kernel_rfl!
theorem lw_91a (tw:Str)(w:Str)(z:Str)(r:Str)(m:Int)(s:PV)(ci:Nat)(tv:Nat→PV)(σ:Sto)(k:Fl→Cx→Sto→Option β):exK (G2 T (elF e) P (own1 A)) (n+40) ⟨dL.names,(V15 tw w z r m s ci tv)⟩ σ (b9 1) k=callBK (G2 T (elF e) P (own1 A)) "len" [.lst ci] σ fun v σ'=>cmpK .NotEq σ' v (.int 1) fun t=>onB t (k (.ret (.bool false)) ⟨dL.names,(V15 tw w z r m s ci tv)⟩ σ') (k .nxt ⟨dL.names,(V15 tw w z r m s ci tv)⟩ σ'):=by kernel_rfl!
theorem lw_92a (tw:Str)(w:Str)(z:Str)(r:Str)(m:Int)(s:PV)(ci:Nat)(tv:Nat→PV)(σ:Sto)(k:Fl→Cx→Sto→Option β):exK (G2 T (elF e) P (own1 A)) (n+40) ⟨dL.names,(V15 tw w z r m s ci tv)⟩ σ (b9 2) k=subK (.lst ci) (.int 0) σ fun v=>opt (bindT ⟨dL.names,(V15 tw w z r m s ci tv)⟩ (asgT (b9 2)) v) fun cx'=>k .nxt cx' σ:=by kernel_rfl!
theorem lw_92ta (tw:Str)(w:Str)(z:Str)(r:Str)(f:Str)(b:Str)(m:Int)(s:PV)(ci:Nat)(tv:Nat→PV):bindT ⟨dL.names,(V15 tw w z r m s ci tv)⟩ (asgT (b9 2)) (.tup [.str f,.str b])=some ⟨dL.names,(V16 tw w z r f b m s ci tv)⟩:=by kernel_rfl!
theorem lw_93la (tw:Str)(w:Str)(z:Str)(r:Str)(f:Str)(b:Str)(m:Int)(s:PV)(ci:Nat)(tv:Nat→PV):LcIs ⟨dL.names,(V16 tw w z r f b m s ci tv)⟩ e93:=fun β G n σ k=>by kernel_rfl!
theorem lw_93ga (tw:Str)(w:Str)(z:Str)(r:Str)(f:Str)(b:Str)(m:Int)(s:PV)(ci:Nat)(tv:Nat→PV):RgIs ⟨dL.names,(V16 tw w z r f b m s ci tv)⟩ (lcI e93):=fun β G n σ k=>by kernel_rfl!
theorem lw_93ia (tw:Str)(w:Str)(z:Str)(r:Str)(f:Str)(b:Str)(m:Int)(s:PV)(ci:Nat)(tv:Nat→PV)(σ:Sto)(k:List PV→Sto→Option β):evsK (G2 T (elF e) P (own1 A)) (n+10) ⟨dL.names,(V16 tw w z r f b m s ci tv)⟩ σ (rgA (lcI e93)) k=grd (r.length≤100000) (k [.int ((r.length:Int) - 1)] σ):=by kernel_rfl!
theorem lw_93aa (tw:Str)(w:Str)(z:Str)(r:Str)(f:Str)(b:Str)(m:Int)(s:PV)(ci:Nat)(tv:Nat→PV)(v:PV):bindT ⟨lcN e93,capt ⟨dL.names,(V16 tw w z r f b m s ci tv)⟩ (lcN e93)⟩ (lcT e93) v=some ⟨lcN e93,("k",v)::[("rest",.str r)]⟩:=by kernel_rfl!
theorem lw_93ta (tw:Str)(w:Str)(z:Str)(r:Str)(f:Str)(b:Str)(m:Int)(s:PV)(ci:Nat)(li:Nat)(tv:Nat→PV):bindT ⟨dL.names,(V16 tw w z r f b m s ci tv)⟩ (asgT (b9 3)) (.lst li)=some ⟨dL.names,(V17 tw w z r f b m s ci li tv)⟩:=by kernel_rfl!
theorem lw_94a (tw:Str)(w:Str)(z:Str)(r:Str)(f:Str)(b:Str)(m:Int)(s:PV)(ci:Nat)(li:Nat)(tv:Nat→PV)(σ:Sto)(k:Fl→Cx→Sto→Option β):exK (G2 T (elF e) P (own1 A)) (n+40) ⟨dL.names,(V17 tw w z r f b m s ci li tv)⟩ σ (b9 4) k=grd (f.length≤100000) (grd (r.length≤100000) (grd (b.length≤100000) (opt (getL σ li) fun xs=>grd (xs.length≤100000) (opt (bindT ⟨dL.names,(V17 tw w z r f b m s ci li tv)⟩ (asgT (b9 4)) (.lst σ.length)) fun cx'=>k .nxt cx' (σ++[⟨0,.lst (slicePick' xs (some f.length) (some ((r.length:Int) - b.length)) (some 2))⟩]))))):=by kernel_rfl!
theorem lw_94ta (tw:Str)(w:Str)(z:Str)(r:Str)(f:Str)(b:Str)(m:Int)(s:PV)(ci:Nat)(li:Nat)(pi:Nat)(tv:Nat→PV):bindT ⟨dL.names,(V17 tw w z r f b m s ci li tv)⟩ (asgT (b9 4)) (.lst pi)=some ⟨dL.names,(V18 tw w z r f b m s ci li pi tv)⟩:=by kernel_rfl!
theorem lw_95Ta (tw:Str)(w:Str)(z:Str)(r:Str)(f:Str)(b:Str)(m:Int)(s:PV)(ci:Nat)(li:Nat)(pi:Nat)(tv:Nat→PV)(σ:Sto)(k:Bool→Sto→Option β):isTK (G2 T (elF e) P (own1 A)) (n+36) ⟨dL.names,(V18 tw w z r f b m s ci li pi tv)⟩ σ (ifT (b9 5)) k=binLK .Add (.lst σ.length) (.lst pi) (σ++[⟨0,.lst [.str f]⟩]:Sto) fun q σ2=>binLK .Add q (.lst σ2.length) (σ2++[⟨0,.lst [.str b]⟩]:Sto) fun q2 σ3=>callMK (G2 T (elF e) P (own1 A)) (.str "...") "join" [q2] σ3 fun s σ4=>liftK (elF e [s,.str r] σ4) fun v σ5=>cmpK .IsNot σ5 v (.bool true) fun t=>k t σ5:=by kernel_rfl!
theorem lw_96Ta (tw:Str)(w:Str)(z:Str)(r:Str)(f:Str)(b:Str)(m:Int)(s:PV)(ci:Nat)(li:Nat)(pi:Nat)(tv:Nat→PV)(σ:Sto)(k:Bool→Sto→Option β):isTK (G2 T (elF e) P (own1 A)) (n+36) ⟨dL.names,(V18 tw w z r f b m s ci li pi tv)⟩ σ (ifT (b9 6)) k=grd (fitsSsize 0=true∧(Txt.charAt r 0).isSome=true) (opt (getL (σ++[⟨0,.lst [.str (Txt.item r 0)]⟩]:Sto) li) fun xs=>grd (xs.length≤100000) (binLK .Add (.lst σ.length) (.lst (σ++[⟨0,.lst [.str (Txt.item r 0)]⟩]:Sto).length) (σ++[⟨0,.lst [.str (Txt.item r 0)]⟩]++[⟨0,.lst (slicePick' xs (some 1) none none)⟩]:Sto) fun q σ2=>binLK .Add q (.lst σ2.length) (σ2++[⟨0,.lst [.str ""]⟩]:Sto) fun q2 σ3=>callMK (G2 T (elF e) P (own1 A)) (.str "...") "join" [q2] σ3 fun s σ4=>liftK (elF e [s,.str r] σ4) fun v σ5=>cmpK .IsNot σ5 v (.bool false) fun t=>k t σ5)):=by kernel_rfl!
theorem lw_97a (tw:Str)(w:Str)(z:Str)(r:Str)(f:Str)(b:Str)(m:Int)(s:PV)(ci:Nat)(li:Nat)(pi:Nat)(tv:Nat→PV)(σ:Sto)(k:Fl→Cx→Sto→Option β):exK (G2 T (elF e) P (own1 A)) (n+40) ⟨dL.names,(V18 tw w z r f b m s ci li pi tv)⟩ σ (b9 7) k=liftK (elF e [.str r,.str r] σ) fun v σ1=>cmpK .IsNot σ1 v (.bool true) fun t=>onB t (k (.ret (.bool false)) ⟨dL.names,(V18 tw w z r f b m s ci li pi tv)⟩ σ1) (grd (r.length≤100000) (liftK (elF e [.str (sliStr r (some 1) none none),.str r] σ1) fun v σ2=>cmpK .IsNot σ2 v (.bool false) fun t=>onB t (k (.ret (.bool false)) ⟨dL.names,(V18 tw w z r f b m s ci li pi tv)⟩ σ2) (k .nxt ⟨dL.names,(V18 tw w z r f b m s ci li pi tv)⟩ σ2))):=by kernel_rfl!
theorem lw_98a (tw:Str)(w:Str)(z:Str)(r:Str)(f:Str)(b:Str)(m:Int)(s:PV)(ci:Nat)(li:Nat)(pi:Nat)(tv:Nat→PV)(c0 c1 c2 c3 c4:Cell)(iv:Int)(va:Nat)(xs:List PV)(σr:Sto)(k:Fl→Cx→Sto→Option β):exK (G2 T (elF e) P (own1 A)) (n+40) ⟨dL.names,(V18 tw w z r f b m s ci li pi tv)⟩ (c0::c1::c2::c3::c4::⟨1,.ins [("_initial_size",.int iv)]⟩::⟨va,.acc 5 xs⟩::σr) (b9 8) k=liftK (pushF [.lst 6,.str f,.str b] (c0::c1::c2::c3::c4::⟨1,.ins [("_initial_size",.int iv)]⟩::⟨va,.acc 5 xs⟩::σr)) fun _ σ'=>k .nxt ⟨dL.names,(V18 tw w z r f b m s ci li pi tv)⟩ σ':=by kernel_rfl!
theorem lw_99a (tw:Str)(w:Str)(z:Str)(r:Str)(f:Str)(b:Str)(m:Int)(s:PV)(ci:Nat)(li:Nat)(pi:Nat)(tv:Nat→PV)(σ:Sto)(k:Fl→Cx→Sto→Option β):exK (G2 T (elF e) P (own1 A)) (n+40) ⟨dL.names,(V18 tw w z r f b m s ci li pi tv)⟩ σ (b9 9) k=grd (f.length≤100000) (grd (r.length≤100000) (grd (b.length≤100000) (grd (r.length≤100000) (opt (bindT ⟨dL.names,(V18 tw w z r f b m s ci li pi tv)⟩ (asgT (b9 9)) (.str (sliStr r (some f.length) (some ((r.length:Int) - b.length)) (some 2)))) fun cx'=>k .nxt cx' σ)))):=by kernel_rfl!
theorem lw_99ta (tw:Str)(w:Str)(z:Str)(r:Str)(f:Str)(b:Str)(m:Int)(s:PV)(ci:Nat)(li:Nat)(pi:Nat)(tv:Nat→PV)(z0:Str):bindT ⟨dL.names,(V18 tw w z r f b m s ci li pi tv)⟩ (asgT (b9 9)) (.str z0)=some ⟨dL.names,(V19 tw w z f b m s ci li pi tv z0)⟩:=by kernel_rfl!
theorem lw_9tb (tw:Str)(w:Str)(z:Str)(r:Str)(m:Int)(s:PV)(tv:Nat→PV):bindT ⟨dL.names,(V20 tw w z r m tv)⟩ (forT (stAt dL 9)) s=some ⟨dL.names,(V21 tw w z r m s tv)⟩:=by kernel_rfl!
theorem lw_90b (tw:Str)(w:Str)(z:Str)(r:Str)(m:Int)(s:PV)(tv:Nat→PV)(σ:Sto)(k:Fl→Cx→Sto→Option β):exK (G2 T (elF e) P (own1 A)) (n+40) ⟨dL.names,(V21 tw w z r m s tv)⟩ σ (b9 0) k=liftK (ansTups A.cu [.str r] σ) fun v σ'=>opt (bindT ⟨dL.names,(V21 tw w z r m s tv)⟩ (asgT (b9 0)) v) fun cx'=>k .nxt cx' σ':=by kernel_rfl!
theorem lw_90tb (tw:Str)(w:Str)(z:Str)(r:Str)(m:Int)(s:PV)(ci:Nat)(tv:Nat→PV):bindT ⟨dL.names,(V21 tw w z r m s tv)⟩ (asgT (b9 0)) (.lst ci)=some ⟨dL.names,(V22 tw w z r m s ci tv)⟩:=by kernel_rfl!
theorem lw_91b (tw:Str)(w:Str)(z:Str)(r:Str)(m:Int)(s:PV)(ci:Nat)(tv:Nat→PV)(σ:Sto)(k:Fl→Cx→Sto→Option β):exK (G2 T (elF e) P (own1 A)) (n+40) ⟨dL.names,(V22 tw w z r m s ci tv)⟩ σ (b9 1) k=callBK (G2 T (elF e) P (own1 A)) "len" [.lst ci] σ fun v σ'=>cmpK .NotEq σ' v (.int 1) fun t=>onB t (k (.ret (.bool false)) ⟨dL.names,(V22 tw w z r m s ci tv)⟩ σ') (k .nxt ⟨dL.names,(V22 tw w z r m s ci tv)⟩ σ'):=by kernel_rfl!
theorem lw_92b (tw:Str)(w:Str)(z:Str)(r:Str)(m:Int)(s:PV)(ci:Nat)(tv:Nat→PV)(σ:Sto)(k:Fl→Cx→Sto→Option β):exK (G2 T (elF e) P (own1 A)) (n+40) ⟨dL.names,(V22 tw w z r m s ci tv)⟩ σ (b9 2) k=subK (.lst ci) (.int 0) σ fun v=>opt (bindT ⟨dL.names,(V22 tw w z r m s ci tv)⟩ (asgT (b9 2)) v) fun cx'=>k .nxt cx' σ:=by kernel_rfl!
theorem lw_92tb (tw:Str)(w:Str)(z:Str)(r:Str)(f:Str)(b:Str)(m:Int)(s:PV)(ci:Nat)(tv:Nat→PV):bindT ⟨dL.names,(V22 tw w z r m s ci tv)⟩ (asgT (b9 2)) (.tup [.str f,.str b])=some ⟨dL.names,(V23 tw w z r f b m s ci tv)⟩:=by kernel_rfl!
theorem lw_93lb (tw:Str)(w:Str)(z:Str)(r:Str)(f:Str)(b:Str)(m:Int)(s:PV)(ci:Nat)(tv:Nat→PV):LcIs ⟨dL.names,(V23 tw w z r f b m s ci tv)⟩ e93:=fun β G n σ k=>by kernel_rfl!
theorem lw_93gb (tw:Str)(w:Str)(z:Str)(r:Str)(f:Str)(b:Str)(m:Int)(s:PV)(ci:Nat)(tv:Nat→PV):RgIs ⟨dL.names,(V23 tw w z r f b m s ci tv)⟩ (lcI e93):=fun β G n σ k=>by kernel_rfl!
theorem lw_93ib (tw:Str)(w:Str)(z:Str)(r:Str)(f:Str)(b:Str)(m:Int)(s:PV)(ci:Nat)(tv:Nat→PV)(σ:Sto)(k:List PV→Sto→Option β):evsK (G2 T (elF e) P (own1 A)) (n+10) ⟨dL.names,(V23 tw w z r f b m s ci tv)⟩ σ (rgA (lcI e93)) k=grd (r.length≤100000) (k [.int ((r.length:Int) - 1)] σ):=by kernel_rfl!
theorem lw_93ab (tw:Str)(w:Str)(z:Str)(r:Str)(f:Str)(b:Str)(m:Int)(s:PV)(ci:Nat)(tv:Nat→PV)(v:PV):bindT ⟨lcN e93,capt ⟨dL.names,(V23 tw w z r f b m s ci tv)⟩ (lcN e93)⟩ (lcT e93) v=some ⟨lcN e93,("k",v)::[("rest",.str r)]⟩:=by kernel_rfl!
theorem lw_93tb (tw:Str)(w:Str)(z:Str)(r:Str)(f:Str)(b:Str)(m:Int)(s:PV)(ci:Nat)(li:Nat)(tv:Nat→PV):bindT ⟨dL.names,(V23 tw w z r f b m s ci tv)⟩ (asgT (b9 3)) (.lst li)=some ⟨dL.names,(V24 tw w z r f b m s ci li tv)⟩:=by kernel_rfl!
theorem lw_94b (tw:Str)(w:Str)(z:Str)(r:Str)(f:Str)(b:Str)(m:Int)(s:PV)(ci:Nat)(li:Nat)(tv:Nat→PV)(σ:Sto)(k:Fl→Cx→Sto→Option β):exK (G2 T (elF e) P (own1 A)) (n+40) ⟨dL.names,(V24 tw w z r f b m s ci li tv)⟩ σ (b9 4) k=grd (f.length≤100000) (grd (r.length≤100000) (grd (b.length≤100000) (opt (getL σ li) fun xs=>grd (xs.length≤100000) (opt (bindT ⟨dL.names,(V24 tw w z r f b m s ci li tv)⟩ (asgT (b9 4)) (.lst σ.length)) fun cx'=>k .nxt cx' (σ++[⟨0,.lst (slicePick' xs (some f.length) (some ((r.length:Int) - b.length)) (some 2))⟩]))))):=by kernel_rfl!
theorem lw_94tb (tw:Str)(w:Str)(z:Str)(r:Str)(f:Str)(b:Str)(m:Int)(s:PV)(ci:Nat)(li:Nat)(pi:Nat)(tv:Nat→PV):bindT ⟨dL.names,(V24 tw w z r f b m s ci li tv)⟩ (asgT (b9 4)) (.lst pi)=some ⟨dL.names,(V18 tw w z r f b m s ci li pi tv)⟩:=by kernel_rfl!
theorem lw_93b (r:Str)(u v:PV):bindT ⟨lcN e93,("k",u)::[("rest",.str r)]⟩ (lcT e93) v=some ⟨lcN e93,("k",v)::[("rest",.str r)]⟩:=by kernel_rfl!
theorem lw_93d (r:Str)(i:Int)(σ:Sto)(K:Option PV→Sto→Option β):compB (G2 T (elF e) P (own1 A)) (n+20) ⟨lcN e93,("k",.int i)::[("rest",.str r)]⟩ σ e93 K=grd (r.length≤100000) (K (some (.str (sliStr r (some i) (some (i+2)) none))) σ):=by kernel_rfl!
theorem lw_10 (tw:Str)(w:Str)(z:Str)(r:Str)(m:Int)(tv:Nat→PV)(c0 c1 c2 c3 c4:Cell)(iv:Int)(va:Nat)(x1 x2:PV)(σr:Sto)(k:Fl→Cx→Sto→Option β):exK (G2 T (elF e) P (own1 A)) (n+40) ⟨dL.names,(V20 tw w z r m tv)⟩ (c0::c1::c2::c3::c4::⟨1,.ins [("_initial_size",.int iv)]⟩::⟨va,.acc 5 [x1,x2]⟩::σr) (stAt dL 10) k=k .nxt ⟨dL.names,(V20 tw w z r m tv)⟩ (c0::c1::c2::c3::c4::⟨1,.ins [("_initial_size",.int iv)]⟩::⟨va,.acc 5 [x1,x2]⟩::σr):=by kernel_rfl!
theorem lw_11s:ForIs (stAt dL 11):=fun β G n cx σ k=>by kernel_rfl!
theorem lw_11i (tw:Str)(w:Str)(z:Str)(r:Str)(m:Int)(tv:Nat→PV)(σ:Sto)(k:List PV→Option (Nat×Nat)→Sto→Option β):evItK (G2 T (elF e) P (own1 A)) (n+20) ⟨dL.names,(V20 tw w z r m tv)⟩ σ (forI (stAt dL 11)) k=k [.int 0,.int 1] none σ:=by kernel_rfl!
noncomputable def b11 (i:Nat):Stmt:=stIn (forB (stAt dL 11)) i
theorem lw_11B:forB (stAt dL 11)=[b11 0,b11 1]:=by kernel_rfl!
theorem lw_11ta (tw:Str)(w:Str)(z:Str)(r:Str)(m:Int)(s:PV)(tv:Nat→PV):bindT ⟨dL.names,(V20 tw w z r m tv)⟩ (forT (stAt dL 11)) s=some ⟨dL.names,(V21 tw w z r m s tv)⟩:=by kernel_rfl!
theorem lw_110a (tw:Str)(w:Str)(z:Str)(r:Str)(m:Int)(s:PV)(tv:Nat→PV)(c0 c1 c2 c3 c4:Cell)(iv:Int)(va:Nat)(xs:List PV)(σr:Sto)(k:Fl→Cx→Sto→Option β):exK (G2 T (elF e) P (own1 A)) (n+40) ⟨dL.names,(V21 tw w z r m s tv)⟩ (c0::c1::c2::c3::c4::⟨1,.ins [("_initial_size",.int iv)]⟩::⟨va,.acc 5 xs⟩::σr) (b11 0) k=liftK (popF [.lst 6] (c0::c1::c2::c3::c4::⟨1,.ins [("_initial_size",.int iv)]⟩::⟨va,.acc 5 xs⟩::σr)) fun v σ'=>opt (bindT ⟨dL.names,(V21 tw w z r m s tv)⟩ (asgT (b11 0)) v) fun cx'=>k .nxt cx' σ':=by kernel_rfl!
theorem lw_110ta (tw:Str)(w:Str)(z:Str)(r:Str)(f:Str)(b:Str)(m:Int)(s:PV)(tv:Nat→PV):bindT ⟨dL.names,(V21 tw w z r m s tv)⟩ (asgT (b11 0)) (.tup [.str f,.str b])=some ⟨dL.names,(V25 tw w z r f b m s tv)⟩:=by kernel_rfl!
theorem lw_111a (tw:Str)(w:Str)(z:Str)(r:Str)(f:Str)(b:Str)(m:Int)(s:PV)(tv:Nat→PV)(σ:Sto)(k:Fl→Cx→Sto→Option β):exK (G2 T (elF e) P (own1 A)) (n+40) ⟨dL.names,(V25 tw w z r f b m s tv)⟩ σ (b11 1) k=liftK (ansFold A.fo [.str f,.str r,.str b,.int m] σ) fun v σ'=>opt (bindT ⟨dL.names,(V25 tw w z r f b m s tv)⟩ (asgT (b11 1)) v) fun cx'=>k .nxt cx' σ':=by kernel_rfl!
theorem lw_111ta (tw:Str)(w:Str)(z:Str)(r:Str)(f:Str)(b:Str)(m:Int)(s:PV)(tv:Nat→PV)(z0:Str):bindT ⟨dL.names,(V25 tw w z r f b m s tv)⟩ (asgT (b11 1)) (.str z0)=some ⟨dL.names,(V26 tw w z f b m s tv z0)⟩:=by kernel_rfl!
theorem lw_11tb (tw:Str)(w:Str)(z:Str)(r:Str)(m:Int)(s:PV)(tv:Nat→PV):bindT ⟨dL.names,(V27 tw w z r m tv)⟩ (forT (stAt dL 11)) s=some ⟨dL.names,(V28 tw w z r m s tv)⟩:=by kernel_rfl!
theorem lw_110b (tw:Str)(w:Str)(z:Str)(r:Str)(m:Int)(s:PV)(tv:Nat→PV)(c0 c1 c2 c3 c4:Cell)(iv:Int)(va:Nat)(xs:List PV)(σr:Sto)(k:Fl→Cx→Sto→Option β):exK (G2 T (elF e) P (own1 A)) (n+40) ⟨dL.names,(V28 tw w z r m s tv)⟩ (c0::c1::c2::c3::c4::⟨1,.ins [("_initial_size",.int iv)]⟩::⟨va,.acc 5 xs⟩::σr) (b11 0) k=liftK (popF [.lst 6] (c0::c1::c2::c3::c4::⟨1,.ins [("_initial_size",.int iv)]⟩::⟨va,.acc 5 xs⟩::σr)) fun v σ'=>opt (bindT ⟨dL.names,(V28 tw w z r m s tv)⟩ (asgT (b11 0)) v) fun cx'=>k .nxt cx' σ':=by kernel_rfl!
theorem lw_110tb (tw:Str)(w:Str)(z:Str)(r:Str)(f:Str)(b:Str)(m:Int)(s:PV)(tv:Nat→PV):bindT ⟨dL.names,(V28 tw w z r m s tv)⟩ (asgT (b11 0)) (.tup [.str f,.str b])=some ⟨dL.names,(V25 tw w z r f b m s tv)⟩:=by kernel_rfl!
theorem lw_111b (tw:Str)(w:Str)(z:Str)(r:Str)(f:Str)(b:Str)(m:Int)(s:PV)(tv:Nat→PV)(σ:Sto)(k:Fl→Cx→Sto→Option β):exK (G2 T (elF e) P (own1 A)) (n+40) ⟨dL.names,(V25 tw w z r f b m s tv)⟩ σ (b11 1) k=liftK (ansFold A.fo [.str f,.str r,.str b,.int m] σ) fun v σ'=>opt (bindT ⟨dL.names,(V25 tw w z r f b m s tv)⟩ (asgT (b11 1)) v) fun cx'=>k .nxt cx' σ':=by kernel_rfl!
theorem lw_111tb (tw:Str)(w:Str)(z:Str)(r:Str)(f:Str)(b:Str)(m:Int)(s:PV)(tv:Nat→PV)(z0:Str):bindT ⟨dL.names,(V25 tw w z r f b m s tv)⟩ (asgT (b11 1)) (.str z0)=some ⟨dL.names,(V26 tw w z f b m s tv z0)⟩:=by kernel_rfl!
theorem lw_12 (tw:Str)(w:Str)(z:Str)(r:Str)(m:Int)(tv:Nat→PV)(c0 c1 c2 c3 c4:Cell)(iv:Int)(va:Nat)(σr:Sto)(k:Fl→Cx→Sto→Option β):exK (G2 T (elF e) P (own1 A)) (n+40) ⟨dL.names,(V27 tw w z r m tv)⟩ (c0::c1::c2::c3::c4::⟨1,.ins [("_initial_size",.int iv)]⟩::⟨va,.acc 5 []⟩::σr) (stAt dL 12) k=onB (!(decide (r=z))) (k (.ret (.bool false)) ⟨dL.names,(V27 tw w z r m tv)⟩ (c0::c1::c2::c3::c4::⟨1,.ins [("_initial_size",.int iv)]⟩::⟨va,.acc 5 []⟩::σr))
 (cmpK .NotEq (c0::c1::c2::c3::c4::⟨1,.ins [("_initial_size",.int iv)]⟩::⟨va,.acc 5 []⟩::σr) (.tup [.str "",.str ""]) (.tup [.str "",.str ""]) fun t=>onB t (k (.ret (.bool false)) ⟨dL.names,(V27 tw w z r m tv)⟩ (c0::c1::c2::c3::c4::⟨1,.ins [("_initial_size",.int iv)]⟩::⟨va,.acc 5 []⟩::σr)) (k .nxt ⟨dL.names,(V27 tw w z r m tv)⟩ (c0::c1::c2::c3::c4::⟨1,.ins [("_initial_size",.int iv)]⟩::⟨va,.acc 5 []⟩::σr))):=by kernel_rfl!
theorem lw_13 (tw:Str)(w:Str)(z:Str)(r:Str)(m:Int)(tv:Nat→PV)(σ:Sto)(k:Fl→Cx→Sto→Option β):exK (G2 T (elF e) P (own1 A)) (n+40) ⟨dL.names,(V27 tw w z r m tv)⟩ σ (stAt dL 13) k=grd (z.length≤100000) (k .nxt ⟨dL.names,(V29 tw w z r m tv)⟩ σ):=by kernel_rfl!
theorem lw_14s:ForIs (stAt dL 14):=fun β G n cx σ k=>by kernel_rfl!
theorem lw_14g (tw:Str)(w:Str)(z:Str)(r:Str)(m:Int)(tv:Nat→PV):RgIs ⟨dL.names,(V29 tw w z r m tv)⟩ (forI (stAt dL 14)):=fun β G n σ k=>by kernel_rfl!
theorem lw_14i (tw:Str)(w:Str)(z:Str)(r:Str)(m:Int)(tv:Nat→PV)(σ:Sto)(k:List PV→Sto→Option β):evsK (G2 T (elF e) P (own1 A)) (n+10) ⟨dL.names,(V29 tw w z r m tv)⟩ σ (rgA (forI (stAt dL 14))) k=k [.int 1,.int (Int.fdiv ((z.length:Int)+1) 2)] σ:=by kernel_rfl!
noncomputable def b14:Stmt:=stIn (forB (stAt dL 14)) 0
theorem lw_14B:forB (stAt dL 14)=[b14]:=by kernel_rfl!
theorem lw_14t0 (tw:Str)(w:Str)(z:Str)(r:Str)(m:Int)(q:Int)(tv:Nat→PV):bindT ⟨dL.names,(V29 tw w z r m tv)⟩ (forT (stAt dL 14)) (.int q)=some ⟨dL.names,(V30 tw w z r m q tv)⟩:=by kernel_rfl!
theorem lw_14t1 (tw:Str)(w:Str)(z:Str)(r:Str)(m:Int)(q:Int)(q0:PV)(tv:Nat→PV):bindT ⟨dL.names,(V31 tw w z r m q0 tv)⟩ (forT (stAt dL 14)) (.int q)=some ⟨dL.names,(V30 tw w z r m q tv)⟩:=by kernel_rfl!
theorem lw_14f:IfIs b14:=fun β G n cx σ k=>by kernel_rfl!
theorem lw_14fB:ifB b14=[]:=by kernel_rfl!
theorem lw_14c:CmpIs (ifT b14):=fun β G n cx σ k=>by kernel_rfl!
theorem lw_14o:cmpO (ifT b14)= .NotEq:=by kernel_rfl!
noncomputable def e14:Expr:=cmpL (ifT b14)
theorem lw_14r (cx:Cx)(σ:Sto)(k:PV→Sto→Option β):evK (G2 T (elF e) P (own1 A)) (n+5) cx σ (cmpR (ifT b14)) k=k (.lst σ.length) (σ++[⟨0,.lst []⟩]):=by kernel_rfl!
theorem lw_14l (tw:Str)(w:Str)(z:Str)(r:Str)(m:Int)(q:Int)(tv:Nat→PV):LcIs ⟨dL.names,(V30 tw w z r m q tv)⟩ e14:=fun β G n σ k=>by kernel_rfl!
theorem lw_14gg (tw:Str)(w:Str)(z:Str)(r:Str)(m:Int)(q:Int)(tv:Nat→PV):RgIs ⟨dL.names,(V30 tw w z r m q tv)⟩ (lcI e14):=fun β G n σ k=>by kernel_rfl!
theorem lw_14ii (tw:Str)(w:Str)(z:Str)(r:Str)(m:Int)(q:Int)(tv:Nat→PV)(σ:Sto)(k:List PV→Sto→Option β):evsK (G2 T (elF e) P (own1 A)) (n+10) ⟨dL.names,(V30 tw w z r m q tv)⟩ σ (rgA (lcI e14)) k=grd (Int.natAbs 2 < bigN∧q.natAbs < bigN) (k [.int ((z.length:Int) - 2 * q)] σ):=by kernel_rfl!
noncomputable def lC14c (tw:Str)(w:Str)(z:Str)(r:Str)(m:Int)(q:Int)(tv:Nat→PV):LE:=capt ⟨dL.names,(V30 tw w z r m q tv)⟩ (lcN e14)
theorem lw_14a (tw:Str)(w:Str)(z:Str)(r:Str)(m:Int)(q:Int)(tv:Nat→PV)(v:PV):bindT ⟨lcN e14,(lC14c tw w z r m q tv)⟩ (lcT e14) v=some ⟨lcN e14,("k",v)::(lC14c tw w z r m q tv)⟩:=by kernel_rfl!
theorem lw_14b (tw:Str)(w:Str)(z:Str)(r:Str)(m:Int)(q:Int)(tv:Nat→PV)(u v:PV):bindT ⟨lcN e14,("k",u)::(lC14c tw w z r m q tv)⟩ (lcT e14) v=some ⟨lcN e14,("k",v)::(lC14c tw w z r m q tv)⟩:=by kernel_rfl!
theorem lw_14d (tw:Str)(w:Str)(z:Str)(r:Str)(m:Int)(q:Int)(tv:Nat→PV)(i:Int)(σ:Sto)(K:Option PV→Sto→Option β):compB (G2 T (elF e) P (own1 A)) (n+20) ⟨lcN e14,("k",.int i)::(lC14c tw w z r m q tv)⟩ σ e14 K=grd (z.length≤100000) (grd (Int.natAbs 2 < bigN∧q.natAbs < bigN) (grd (z.length≤100000) (onB (decide (sliStr z (some i) (some (i+q+1)) none=sliStr z (some (i+q)) (some (i+2 * q+1)) none)) (K (some (.int i)) σ) (K none σ)))):=by kernel_rfl!
theorem lw_15 (cx:Cx)(σ:Sto)(k:Fl→Cx→Sto→Option β):exK (G2 T (elF e) P (own1 A)) (n+20) cx σ (stAt dL 15) k=k (.ret (.bool true)) cx σ:=by kernel_rfl!
end
noncomputable def pick {α:Type}(lo hi st:Option Int)(l:List α):List α:=
 (sliceRange (sliceBounds lo hi st l.length).1 (sliceBounds lo hi st l.length).2.1 (sliceBounds lo hi st l.length).2.2).filterMap (l[·]?)
theorem pick_map {α β:Type}(g:α→β)(lo hi st:Option Int)(l:List α):pick lo hi st (l.map g)=(pick lo hi st l).map g:=by
 unfold pick
 rw[List.length_map,List.map_filterMap]
 congr 1
 funext i
 exact List.getElem?_map ..
theorem pick_pv (lo hi st:Option Int)(l:List PV):slicePick' l lo hi st=pick lo hi st l:=rfl
noncomputable def sl2 (lo hi:Option Int)(l:List Nat):List Nat:=(Builtin.Str.strSliceIndices lo hi 2 l.length).filterMap (l[·]?)
theorem sli_two (l:List Nat)(lo hi:Option Int):sliStr (S l) lo hi (some 2)=S (sl2 lo hi l):=by
 show (if ((2:Int)==1&&(Builtin.Str.strSliceIndices lo hi 2 (S l).length).length==(S l).length)=true then S l else ⟨((Builtin.Str.strSliceIndices lo hi 2 (S l).length).filterMap (fun i=>l.toArray[i]?)).toArray⟩)=_
 rw[if_neg (by exact Bool.false_ne_true),S_len]
 unfold sl2 S
 congr 3
 funext i
 exact List.getElem?_toArray ..
noncomputable def dotG (ts:List (List Nat)):List Nat:=(ts.map fun u=>dots++u).flatten
theorem glue_cons:∀ (ts:List (List Nat)) (t:List Nat),glue (t::ts)=t++dotG ts
 | [],t=>(List.append_nil t).symm
 | u::us,t=>by
  show t++(dots++glue (u::us))=t++((dots++u)++dotG us)
  rw[glue_cons us u,List.append_assoc]
theorem join_dots:∀ (ts:List (List Nat)) (acc:List Nat),(List.foldl (fun acc (p:Str)=>acc++(Str.ofString "...").cps++p.cps) acc.toArray (ts.map S))=(acc++dotG ts).toArray
 | [],acc=>by
  show acc.toArray=(acc++[]).toArray
  rw[List.append_nil]
 | t::ts,acc=>by
  rw[List.map_cons,List.foldl_cons]
  have h:acc.toArray++(Str.ofString "...").cps++(S t).cps=(acc++(dots++t)).toArray:=by
   rw[dots_S]
   show acc.toArray++dots.toArray++t.toArray=_
   simp -iota
  rw[h,join_dots ts]
  show (acc++(dots++t)++dotG ts).toArray=(acc++((dots++t)++dotG ts)).toArray
  rw[List.append_assoc]
theorem join_glue (t:List Nat)(ts:List (List Nat)):Txt.join "..." ((t::ts).map S)=S (glue (t::ts)):=by
 rw[glue_cons]
 show (⟨List.foldl (fun acc (p:Str)=>acc++(Str.ofString "...").cps++p.cps) t.toArray (ts.map S)⟩:Str)=_
 rw[join_dots]
 rfl
theorem str_map (ts:List (List Nat)):(ts.map fun l=>PV.str (S l))=(ts.map S).map .str:=(List.map_map ..).symm
noncomputable def linksL (r:List Nat):List (List Nat):=(List.range (r.length - 1)).map fun k=>(r.drop k).take 2
noncomputable def pairsL (r f b:List Nat):List (List Nat):=pick (some (f.length:Int)) (some ((r.length:Int) - (b.length:Int))) (some 2) (linksL r)
noncomputable def nextL (r f b:List Nat):List Nat:=sl2 (some (f.length:Int)) (some ((r.length:Int) - (b.length:Int))) r
noncomputable def tailL (r:List Nat):List (List Nat):=pick (some 1) none none (linksL r)
noncomputable def noDot (l:List Nat):Bool:=l.all fun c=> !(Nat.beq c 46)
noncomputable def okGlue (a:List Nat)(mid:List (List Nat))(b:List Nat):Bool:=decide (mid.length≤100)&&(decide ((glue (a::(mid++[b]))).length≤10000)&&(a::(mid++[b])).all noDot)
noncomputable def stepOk (r f b:List Nat):Bool:=decide (cutsL r=[(f,b)])&&(okGlue f (pairsL r f b) b&&(ellL f (pairsL r f b) b r&&(okGlue [r.getD 0 0] (tailL r) []&&(!ellL [r.getD 0 0] (tailL r) [] r&&(decide (4≤r.length∧r.length≤200)&&(noDot r&&decide (f.length≤10∧b.length≤10)))))))
theorem noDot_t {l:List Nat}(h:noDot l=true):46∉l:=fun hm=>by
 have:=List.all_eq_true.mp h 46 hm
 exact Bool.noConfusion this
structure Glued (a:List Nat) (mid:List (List Nat)) (b:List Nat):Prop where
 few:mid.length≤100
 len:(glue (a::(mid++[b]))).length≤10000
 dot:∀ u∈a::(mid++[b]),46∉u
theorem and_tt {a b:Bool}(h:(a&&b)=true):a=true∧b=true:=(Bool.and_eq_true a b).mp h
theorem okGlue_t {a:List Nat}{mid:List (List Nat)}{b:List Nat}(h:okGlue a mid b=true):Glued a mid b:=
 ⟨of_decide_eq_true (and_tt h).1,of_decide_eq_true (and_tt (and_tt h).2).1,fun u hu=>noDot_t (List.all_eq_true.mp (and_tt (and_tt h).2).2 u hu)⟩
structure StepL (r f b:List Nat):Prop where
 cut:cutsL r=[(f,b)]
 g1:Glued f (pairsL r f b) b
 e1:ellL f (pairsL r f b) b r=true
 g2:Glued [r.getD 0 0] (tailL r) []
 e2:ellL [r.getD 0 0] (tailL r) [] r=false
 lo:4≤r.length
 hi:r.length≤200
 dot:46∉r
 lf:f.length≤10
 lb:b.length≤10
theorem stepOk_t {r f b:List Nat}(h:stepOk r f b=true):StepL r f b:=by
 obtain⟨h1,h⟩:=and_tt h
 obtain⟨h2,h⟩:=and_tt h
 obtain⟨h3,h⟩:=and_tt h
 obtain⟨h4,h⟩:=and_tt h
 obtain⟨h5,h⟩:=and_tt h
 obtain⟨h6,h⟩:=and_tt h
 obtain⟨h7,h8⟩:=and_tt h
 exact⟨of_decide_eq_true h1,okGlue_t h2,h3,okGlue_t h4,(Bool.not_eq_true' _).mp h5,(of_decide_eq_true h6).1,(of_decide_eq_true h6).2,noDot_t h7,(of_decide_eq_true h8).1,(of_decide_eq_true h8).2⟩
theorem join_g {β:Type}{G:Gl}{σ:Sto}{j:Nat}{a:List Nat}{mid:List (List Nat)}{b:List Nat}(g:Glued a mid b)(hj:getL σ j=some ((a::(mid++[b])).map fun l=> .str (S l)))(k:PV→Sto→Option β):
  callMK G (.str "...") "join" [.lst j] σ k=k (.str (S (glue (a::(mid++[b]))))) σ:=by
 rw[str_map] at hj
 have hl:(((a::(mid++[b])).map S).map (·.length)).sum=(a::(mid++[b])).flatten.length:=sum_len _
 have hg:(a::(mid++[b])).flatten.length≤(glue (a::(mid++[b]))).length:=by
  have h:∀ ts:List (List Nat),ts.flatten.length≤(dotG ts).length:=fun ts=>by
   induction ts with
   | nil=>exact Nat.le_refl _
   | cons t ts ih=>
    show (t++ts.flatten).length≤((dots++t)++dotG ts).length
    rw[List.length_append,List.length_append,List.length_append]
    lia
  rw[glue_cons]
  show (a++(mid++[b]).flatten).length≤_
  rw[List.length_append,List.length_append]
  exact Nat.add_le_add_left (h _) _
 have h3:(Str.ofString "...").length=3:=by decide+kernel
 have hm:=g.few
 have:=g.len
 exact (join_at "..." _ σ j k hj (joinOk_of _ _ (by
  rw[hl,h3,List.length_map,List.length_cons,List.length_append,List.length_singleton]
  lia))).trans (by rw[join_glue])
theorem glued_e {e:Str→Str→Option Bool}(H:EllOk e){a:List Nat}{mid:List (List Nat)}{b r:List Nat}(g:Glued a mid b)(hr:r.length≤200):e (S (glue (a::(mid++[b])))) (S r)=some (ellL a mid b r):=
 H.dots a mid b r g.dot g.few g.len (Nat.le_trans hr (by decide))
theorem getL_cell {σ:Sto}{i:Nat}{xs:List PV}(h:getL σ i=some xs):∃ v,σ[i]?=some ⟨v,.lst xs⟩:=by
 unfold getL at h
 cases hc:σ[i]? with
 | none=>rw[hc] at h; exact nos h
 | some c=>
  rw[hc] at h
  obtain⟨v,d⟩:=c
  cases d with
  | lst ys=>exact⟨v,congrArg (fun l=>some (Cell.mk v (.lst l))) (Option.some.inj h)⟩
  | _=>exact nos h
theorem getL_app {σ:Sto}{i:Nat}{xs:List PV}(h:getL σ i=some xs)(τ:Sto):getL (σ++τ) i=some xs:=by
 obtain⟨v,hv⟩:=getL_cell h
 unfold getL
 rw[List.getElem?_append_left (List.getElem?_eq_some_iff.mp hv).1,hv]
section
variable {β:Type}
theorem len_lst {G:Gl}{σ:Sto}{i:Nat}{xs:List PV}(h:getL σ i=some xs)(hl:xs.length≤100000)(k:PV→Sto→Option β):callBK G "len" [.lst i] σ k=k (.int xs.length) σ:=by
 have e:callBK G "len" [.lst i] σ k=onAcc (.lst i) σ (liftK (G.lenA [.lst i] σ) k) (lenVK (.lst i) σ fun v=>k v σ):=by kernel_rfl!
 obtain⟨v,hv⟩:=getL_cell h
 have e2:∀ x y:Option β,onAcc (.lst i) σ x y=y:=fun x y=>by
  unfold onAcc
  dsimp only
  rw[hv]
 rw[e,e2]
 show opt (getL σ i) _=_
 rw[h]
 exact gp hl
theorem addLL {σ:Sto}{i j:Nat}{xs ys:List PV}(hi:getL σ i=some xs)(hj:getL σ j=some ys)(hl:xs.length+ys.length≤10000)(k:PV→Sto→Option β):
  binLK .Add (.lst i) (.lst j) σ k=k (.lst σ.length) (σ++[⟨0,.lst (xs++ys)⟩]):=by
 show opt (getL σ i) (fun xs=>opt (getL σ j) fun ys=>grd (xs.length+ys.length≤10000) (k (.lst σ.length) (σ++[⟨0,.lst (xs++ys)⟩])))=_
 rw[hi]
 show opt (getL σ j) _=_
 rw[hj]
 exact gp hl
theorem ne_one (σ:Sto)(k:Bool→Option β):cmpK .NotEq σ (.int 1) (.int 1) k=k false:=by kernel_rfl!
theorem join_test {G:Gl}{e:Str→Str→Option Bool}(H:EllOk e){σ:Sto}{i j l:Nat}{a b r:List Nat}{mid:List (List Nat)}(g:Glued a mid b)(hr:r.length≤200)
  (hj:getL σ j=some ((a::(mid++[b])).map fun l=> .str (S l))) (k:PV→Sto→Option β):
  callMK G (.str "...") "join" [.lst j] σ (fun s σ4=>liftK (elF e [s,.str (S r)] σ4) k)=k (.bool (ellL a mid b r)) σ:=by
 rw[join_g g hj,elF_at (glued_e H g hr),liftK_some]
end
noncomputable def stG (c0 c1 c2 c3 c4:Cell)(iv:Int)(va:Nat)(xs:List PV)(σr:Sto):Sto:=c0::c1::c2::c3::c4::⟨1,.ins [("_initial_size",.int iv)]⟩::⟨va,.acc 5 xs⟩::σr
theorem stG_last (c0 c1 c2 c3 c4:Cell)(iv:Int)(va:Nat)(xs:List PV)(σr:Sto)(X:List PV):getL (stG c0 c1 c2 c3 c4 iv va xs (σr++[⟨0,.lst X⟩])) (stG c0 c1 c2 c3 c4 iv va xs σr).length=some X:=getL_last (stG c0 c1 c2 c3 c4 iv va xs σr) 0 X
theorem stG_get {c0 c1 c2 c3 c4:Cell}{iv:Int}{va:Nat}{xs:List PV}{σr:Sto}{i:Nat}{X:List PV}(h:getL (stG c0 c1 c2 c3 c4 iv va xs σr) i=some X)(τ:Sto):getL (stG c0 c1 c2 c3 c4 iv va xs (σr++τ)) i=some X:=getL_app h τ
theorem pushF_6 (c0 c1 c2 c3 c4:Cell)(iv:Int)(va:Nat)(xs:List PV)(σr:Sto)(a b:Str)(h:xs.length≤1000):pushF [.lst 6,.str a,.str b] (stG c0 c1 c2 c3 c4 iv va xs σr)=some (.none,stG c0 c1 c2 c3 c4 iv (va+1) (xs++[.tup [.str a,.str b]]) σr):=by
 have e:pushF [.lst 6,.str a,.str b] (stG c0 c1 c2 c3 c4 iv va xs σr)=grd (xs.length≤10000) (some (.none,stG c0 c1 c2 c3 c4 iv (va+1) (xs++[.tup [.str a,.str b]]) σr)):=by kernel_rfl!
 rw[e,gp (Nat.le_trans h (by decide))]
theorem popF_2 (c0 c1 c2 c3 c4:Cell)(iv:Int)(va:Nat)(x y:PV)(σr:Sto):popF [.lst 6] (stG c0 c1 c2 c3 c4 iv va [x,y] σr)=some (y,stG c0 c1 c2 c3 c4 iv (va+1) [x] σr):=by kernel_rfl!
theorem popF_1 (c0 c1 c2 c3 c4:Cell)(iv:Int)(va:Nat)(x:PV)(σr:Sto):popF [.lst 6] (stG c0 c1 c2 c3 c4 iv va [x] σr)=some (x,stG c0 c1 c2 c3 c4 iv (va+1) [] σr):=by kernel_rfl!
noncomputable def strT (l:List (List Nat×List Nat)):List (Str×Str):=l.map fun x=>(S x.1,S x.2)
theorem tups_strT (l:List (List Nat×List Nat)):tups (strT l)=tupL l:=List.map_map
noncomputable def CuOk (A:Ans1):Prop:=∀ t:List Nat,4≤t.length→t.length≤200→A.cu (S t)=some (strT (cutsL t))
noncomputable def FoOk (A:Ans1):Prop:=∀ (f w b:List Nat) (m:Nat),hpL f→hpL b→f.length≤50→b.length≤50→w.length≤100→A.fo (S f) (S w) (S b) (m:Int)=some (S (folded f w b))
noncomputable def gS (l:List Nat):PV:= .str (S l)
section
variable {β:Type}(T:Int→Option Str){e:Str→Str→Option Bool}(P:Fn)(H:EllOk e)(A:Ans1)(tw w z:Str)(m:Int)(s:PV)(tv:Nat→PV){r f b:List Nat}(Q:StepL r f b)
include H Q
theorem s9_5 (n ci li pi:Nat)(σ:Sto)(hp:getL σ pi=some ((pairsL r f b).map gS)):∃ σ':Sto,∀ k:Fl→Cx→Sto→Option β,exK (G2 T (elF e) P (own1 A)) (n+37) ⟨dL.names,V18 tw w z (S r) (S f) (S b) m s ci li pi tv⟩ σ (b9 5) k=k .nxt ⟨dL.names,V18 tw w z (S r) (S f) (S b) m s ci li pi tv⟩ (σ++σ'):=by
 have hn:=Q.g1.few
 have h0:getL (σ++[⟨0,.lst [gS f]⟩]) σ.length=some [gS f]:=getL_last ..
 have h1:getL (σ++[⟨0,.lst [gS f]⟩]++[⟨0,.lst ([gS f]++(pairsL r f b).map gS)⟩]) (σ++[⟨0,.lst [gS f]⟩]:Sto).length=some ([gS f]++(pairsL r f b).map gS):=getL_last ..
 have hl:([gS f]++(pairsL r f b).map gS).length≤101:=by rw[List.length_append,List.length_map,List.length_singleton]; lia
 refine⟨[⟨0,.lst [gS f]⟩]++[⟨0,.lst ([gS f]++(pairsL r f b).map gS)⟩]++[⟨0,.lst [gS b]⟩]++[⟨0,.lst ([gS f]++(pairsL r f b).map gS++[gS b])⟩],fun k=>?_⟩
 refine (lw_95f _ _ (n+36) _ _ _).trans ((lw_95Ta T e P A n tw w z (S r) (S f) (S b) m s ci li pi tv σ _).trans ?_)
 refine (addLL h0 (getL_app hp _) (by rw[List.length_map,List.length_singleton]; lia) _).trans ((addLL (getL_app h1 _) (getL_last ..) (by rw[List.length_singleton]; lia) _).trans ?_)
 refine (join_test H Q.g1 Q.hi (i:=0) (l:=0) ((getL_last ..).trans ?_) _).trans ?_
 ·show some ([gS f]++(pairsL r f b).map gS++[gS b])=some ((f::(pairsL r f b++[b])).map gS)
  rw[List.map_cons,List.map_append]
  rfl
 rw[Q.e1]
 refine (isnbT _ _ _).trans ((onB_F ..).trans ?_)
 rw[lw_95B]
 show k .nxt _ _=_
 congr 1
 simp only[List.append_assoc]
 rfl
theorem s9_6 (n ci li pi:Nat)(σ:Sto)(hp:getL σ li=some ((linksL r).map gS)):∃ σ':Sto,∀ k:Fl→Cx→Sto→Option β,exK (G2 T (elF e) P (own1 A)) (n+37) ⟨dL.names,V18 tw w z (S r) (S f) (S b) m s ci li pi tv⟩ σ (b9 6) k=k .nxt ⟨dL.names,V18 tw w z (S r) (S f) (S b) m s ci li pi tv⟩ (σ++σ'):=by
 have hn:=Q.g2.few
 have hlo:=Q.lo
 have hhi:=Q.hi
 have hll:(linksL r).length≤200:=by unfold linksL; rw[List.length_map,List.length_range]; lia
 have h0:getL (σ++[⟨0,.lst [gS [r.getD 0 0]]⟩]++[⟨0,.lst ((tailL r).map gS)⟩]) σ.length=some [gS [r.getD 0 0]]:=getL_app (getL_last ..) _
 have h1:getL (σ++[⟨0,.lst [gS [r.getD 0 0]]⟩]++[⟨0,.lst ((tailL r).map gS)⟩]++[⟨0,.lst ([gS [r.getD 0 0]]++(tailL r).map gS)⟩]) (σ++[⟨0,.lst [gS [r.getD 0 0]]⟩]++[⟨0,.lst ((tailL r).map gS)⟩]:Sto).length=some ([gS [r.getD 0 0]]++(tailL r).map gS):=getL_last ..
 have hl:([gS [r.getD 0 0]]++(tailL r).map gS).length≤101:=by rw[List.length_append,List.length_map,List.length_singleton]; lia
 refine⟨[⟨0,.lst [gS [r.getD 0 0]]⟩]++[⟨0,.lst ((tailL r).map gS)⟩]++[⟨0,.lst ([gS [r.getD 0 0]]++(tailL r).map gS)⟩]++[⟨0,.lst [gS []]⟩]++[⟨0,.lst ([gS [r.getD 0 0]]++(tailL r).map gS++[gS []])⟩],fun k=>?_⟩
 refine (lw_96f _ _ (n+36) _ _ _).trans ((lw_96Ta T e P A n tw w z (S r) (S f) (S b) m s ci li pi tv σ _).trans ?_)
 rw[show Txt.charAt (S r) 0=r[0]? from charAt_nat r 0,show Txt.item (S r) 0=S [r.getD 0 0] from item_nat r 0,gp ⟨by decide,by rw[List.getElem?_eq_getElem (by lia)]; rfl⟩,getL_app hp]
 refine (gp (by rw[List.length_map]; lia)).trans ?_
 rw[pick_pv,pick_map]
 refine (addLL h0 (getL_last ..) (by rw[List.length_map,List.length_singleton]; exact Nat.le_trans (Nat.add_le_add_left hn 1) (by decide)) _).trans ((addLL (getL_app h1 _) (getL_last ..) (by rw[List.length_singleton]; exact Nat.le_trans (Nat.add_le_add_right hl 1) (by decide)) _).trans ?_)
 refine (join_test H Q.g2 Q.hi (i:=0) (l:=0) ((getL_last ..).trans ?_) _).trans ?_
 ·show some ([gS [r.getD 0 0]]++(tailL r).map gS++[gS []])=some (([r.getD 0 0]::(tailL r++[[]])).map gS)
  rw[List.map_cons,List.map_append]
  rfl
 rw[Q.e2]
 refine (isnbF _ _ _).trans ((onB_F ..).trans ?_)
 rw[lw_96B]
 show k .nxt _ _=_
 congr 1
 simp only[List.append_assoc]
 rfl
theorem s9_7 (n ci li pi:Nat)(σ:Sto)(k:Fl→Cx→Sto→Option β):exK (G2 T (elF e) P (own1 A)) (n+40) ⟨dL.names,V18 tw w z (S r) (S f) (S b) m s ci li pi tv⟩ σ (b9 7) k=k .nxt ⟨dL.names,V18 tw w z (S r) (S f) (S b) m s ci li pi tv⟩ σ:=by
 have hlo:=Q.lo
 have hhi:=Q.hi
 have d1:46∉r.drop 1:=fun h=>Q.dot (List.mem_of_mem_drop h)
 have ne:r.drop 1≠r:=fun h=>by
  have:=congrArg List.length h
  rw[List.length_drop] at this
  lia
 refine (lw_97a T e P A n tw w z (S r) (S f) (S b) m s ci li pi tv σ k).trans ?_
 rw[elF_at (H.none r r Q.dot),liftK_some,decide_eq_true rfl]
 refine (isnbT _ _ _).trans ((onB_F ..).trans ?_)
 rw[S_len,gp (by lia),show sliStr (S r) (some 1) none none=S (r.drop 1) from sli_drop r 1 (by lia),elF_at (H.none (r.drop 1) r d1),liftK_some,decide_eq_false ne]
 exact (isnbF _ _ _).trans (onB_F ..)
omit H in
theorem s9_9 (n ci li pi:Nat)(σ:Sto)(k:Fl→Cx→Sto→Option β):exK (G2 T (elF e) P (own1 A)) (n+40) ⟨dL.names,V18 tw w z (S r) (S f) (S b) m s ci li pi tv⟩ σ (b9 9) k=k .nxt ⟨dL.names,V19 tw w z (S f) (S b) m s ci li pi tv (S (nextL r f b))⟩ σ:=by
 have hhi:=Q.hi
 have hlf:=Q.lf
 have hlb:=Q.lb
 refine (lw_99a T e P A n tw w z (S r) (S f) (S b) m s ci li pi tv σ k).trans ?_
 rw[S_len,S_len,S_len,gp (by lia),gp (by lia),gp (by lia),gp (by lia),sli_two]
 exact congrArg (fun o=>opt o fun cx'=>k .nxt cx' σ) (lw_99ta tw w z (S r) (S f) (S b) m s ci li pi tv _)
omit H in
theorem link_at (n:Nat)(σ:Sto)(k:Nat)(hk:k < r.length - 1)(K:Option PV→Sto→Option β):
  compB (G2 T (elF e) P (own1 A)) (n+20) ⟨lcN e93,("k",.int (k:Int))::[("rest",.str (S r))]⟩ σ e93 K=K (strF' (fun k=>(r.drop k).take 2) (.int (k:Int))) σ:=by
 have hhi:=Q.hi
 refine (lw_93d T e P A n (S r) k σ K).trans ?_
 rw[S_len,gp (by lia),show (k:Int)+2=((k+2:Nat):Int) from rfl,sli_ab r k (k+2) (Nat.le_add_right ..) (by lia),Nat.add_sub_cancel_left]
 rfl
theorem s9_tail (n ci li pi:Nat)(c0 c1 c2 c3 c4:Cell)(iv:Int)(va:Nat)(xs:List PV)(σr:Sto)(hx:xs.length≤1000)(hp:getL (stG c0 c1 c2 c3 c4 iv va xs σr) pi=some ((pairsL r f b).map gS))(hl:getL (stG c0 c1 c2 c3 c4 iv va xs σr) li=some ((linksL r).map gS)):
  ∃ σ':Sto,∀ k:Fl→Cx→Sto→Option β,exsK (G2 T (elF e) P (own1 A)) (n+55) ⟨dL.names,V18 tw w z (S r) (S f) (S b) m s ci li pi tv⟩ (stG c0 c1 c2 c3 c4 iv va xs σr) [b9 5,b9 6,b9 7,b9 8,b9 9] k=
   k .nxt ⟨dL.names,V19 tw w z (S f) (S b) m s ci li pi tv (S (nextL r f b))⟩ (stG c0 c1 c2 c3 c4 iv (va+1) (xs++[.tup [gS f,gS b]]) σ'):=by
 obtain⟨t5,e5⟩:=s9_5 (β:=β) T P H A tw w z m s tv Q (n+17) ci li pi _ hp
 obtain⟨t6,e6⟩:=s9_6 (β:=β) T P H A tw w z m s tv Q (n+16) ci li pi _ (getL_app hl t5)
 have e8:=fun k=>lw_98a (β:=β) T e P A (n+11) tw w z (S r) (S f) (S b) m s ci li pi tv c0 c1 c2 c3 c4 iv va xs (σr++t5++t6) k
 refine⟨σr++t5++t6,fun k=>seqN e5 (seqN e6 (seqN (fun k=>s9_7 T P H A tw w z m s tv Q (n+12) ci li pi _ k) (seqN (σ':=stG c0 c1 c2 c3 c4 iv (va+1) (xs++[.tup [gS f,gS b]]) (σr++t5++t6)) (fun k=>(e8 k).trans ?_) (seqN (fun k=>s9_9 T P A tw w z m s tv Q (n+10) ci li pi _ k) rfl))))⟩
 refine (congrArg (fun o=>liftK o fun _ σ'=>k .nxt _ σ') (pushF_6 c0 c1 c2 c3 c4 iv va xs (σr++t5++t6) (S f) (S b) hx)).trans ?_
 rfl
theorem s9a (hA:CuOk A)(n:Nat)(hn:250≤n)(c0 c1 c2 c3 c4:Cell)(iv:Int)(va:Nat)(xs:List PV)(σr:Sto)(hx:xs.length≤1000):
  ∃ (ci li pi:Nat) (σ':Sto),∀ k:Fl→Cx→Sto→Option β,turnK (G2 T (elF e) P (own1 A)) (n+60) ⟨dL.names,V13 tw w z (S r) m tv⟩ s (stG c0 c1 c2 c3 c4 iv va xs σr) (stAt dL 9) k=
   k .nxt ⟨dL.names,V19 tw w z (S f) (S b) m s ci li pi tv (S (nextL r f b))⟩ (stG c0 c1 c2 c3 c4 iv (va+1) (xs++[.tup [gS f,gS b]]) σ'):=by
 have hlo:=Q.lo
 have hhi:=Q.hi
 have hlf:=Q.lf
 have hlb:=Q.lb
 have hll:(linksL r).length=r.length - 1:=by unfold linksL; rw[List.length_map,List.length_range]
 have hcu:A.cu (S r)=some (strT [(f,b)]):=by rw[hA r hlo hhi,Q.cut]
 have q1:getL (stG c0 c1 c2 c3 c4 iv va xs (σr++[⟨0,.lst [.tup [gS f,gS b]]⟩])) (stG c0 c1 c2 c3 c4 iv va xs σr).length=some [.tup [gS f,gS b]]:=stG_last ..
 have q2:getL (stG c0 c1 c2 c3 c4 iv va xs (σr++[⟨0,.lst [.tup [gS f,gS b]]⟩]++[⟨0,.lst ((linksL r).map gS)⟩])) (stG c0 c1 c2 c3 c4 iv va xs (σr++[⟨0,.lst [.tup [gS f,gS b]]⟩])).length=some ((linksL r).map gS):=stG_last ..
 have q3:getL (stG c0 c1 c2 c3 c4 iv va xs (σr++[⟨0,.lst [.tup [gS f,gS b]]⟩]++[⟨0,.lst ((linksL r).map gS)⟩]++[⟨0,.lst ((pairsL r f b).map gS)⟩])) (stG c0 c1 c2 c3 c4 iv va xs (σr++[⟨0,.lst [.tup [gS f,gS b]]⟩]++[⟨0,.lst ((linksL r).map gS)⟩])).length=some ((pairsL r f b).map gS):=stG_last ..
 have q4:=stG_get q2 [⟨0,.lst ((pairsL r f b).map gS)⟩]
 obtain⟨σ',e5⟩:=s9_tail (β:=β) T P H A tw w z m s tv Q n (stG c0 c1 c2 c3 c4 iv va xs σr).length _ _ c0 c1 c2 c3 c4 iv va xs (σr++[⟨0,.lst [.tup [gS f,gS b]]⟩]++[⟨0,.lst ((linksL r).map gS)⟩]++[⟨0,.lst ((pairsL r f b).map gS)⟩]) hx q3 q4
 have e0:∀ k:Fl→Cx→Sto→Option β,exK (G2 T (elF e) P (own1 A)) (n+59) ⟨dL.names,V14 tw w z (S r) m s tv⟩ (stG c0 c1 c2 c3 c4 iv va xs σr) (b9 0) k=k .nxt ⟨dL.names,V15 tw w z (S r) m s (stG c0 c1 c2 c3 c4 iv va xs σr).length tv⟩ (stG c0 c1 c2 c3 c4 iv va xs (σr++[⟨0,.lst [.tup [gS f,gS b]]⟩])):=fun k=>by
  refine (lw_90a T e P A (n+19) tw w z (S r) m s tv _ k).trans ?_
  rw[ansTups_at hcu,liftK_some]
  exact congrArg (fun o=>opt o fun cx'=>k .nxt cx' _) (lw_90ta tw w z (S r) m s _ tv)
 have e1:∀ k:Fl→Cx→Sto→Option β,exK (G2 T (elF e) P (own1 A)) (n+58) ⟨dL.names,V15 tw w z (S r) m s (stG c0 c1 c2 c3 c4 iv va xs σr).length tv⟩ (stG c0 c1 c2 c3 c4 iv va xs (σr++[⟨0,.lst [.tup [gS f,gS b]]⟩])) (b9 1) k=k .nxt ⟨dL.names,V15 tw w z (S r) m s (stG c0 c1 c2 c3 c4 iv va xs σr).length tv⟩ (stG c0 c1 c2 c3 c4 iv va xs (σr++[⟨0,.lst [.tup [gS f,gS b]]⟩])):=fun k=>
  (lw_91a T e P A (n+18) tw w z (S r) m s _ tv _ k).trans ((len_lst q1 (Nat.le_of_ble_eq_true rfl) _).trans ((ne_one _ _).trans (onB_F ..)))
 have e2:∀ k:Fl→Cx→Sto→Option β,exK (G2 T (elF e) P (own1 A)) (n+57) ⟨dL.names,V15 tw w z (S r) m s (stG c0 c1 c2 c3 c4 iv va xs σr).length tv⟩ (stG c0 c1 c2 c3 c4 iv va xs (σr++[⟨0,.lst [.tup [gS f,gS b]]⟩])) (b9 2) k=k .nxt ⟨dL.names,V16 tw w z (S r) (S f) (S b) m s (stG c0 c1 c2 c3 c4 iv va xs σr).length tv⟩ (stG c0 c1 c2 c3 c4 iv va xs (σr++[⟨0,.lst [.tup [gS f,gS b]]⟩])):=fun k=>
  (lw_92a T e P A (n+17) tw w z (S r) m s _ tv _ k).trans ((subK_nat _ _ 0 _ _ q1 (Nat.le_of_ble_eq_true rfl) (Nat.le_of_ble_eq_true rfl)).trans (congrArg (fun o=>opt o fun cx'=>k .nxt cx' _) (lw_92ta tw w z (S r) (S f) (S b) m s _ tv)))
 have e3:∀ k:Fl→Cx→Sto→Option β,exK (G2 T (elF e) P (own1 A)) (n+56) ⟨dL.names,V16 tw w z (S r) (S f) (S b) m s (stG c0 c1 c2 c3 c4 iv va xs σr).length tv⟩ (stG c0 c1 c2 c3 c4 iv va xs (σr++[⟨0,.lst [.tup [gS f,gS b]]⟩])) (b9 3) k=
   k .nxt ⟨dL.names,V17 tw w z (S r) (S f) (S b) m s (stG c0 c1 c2 c3 c4 iv va xs σr).length (stG c0 c1 c2 c3 c4 iv va xs (σr++[⟨0,.lst [.tup [gS f,gS b]]⟩])).length tv⟩ (stG c0 c1 c2 c3 c4 iv va xs (σr++[⟨0,.lst [.tup [gS f,gS b]]⟩]++[⟨0,.lst ((linksL r).map gS)⟩])):=fun k=>by
  refine asgN lw_93s (σ':=stG c0 c1 c2 c3 c4 iv va xs (σr++[⟨0,.lst [.tup [gS f,gS b]]⟩]++[⟨0,.lst ((linksL r).map gS)⟩])) (x:= .lst (stG c0 c1 c2 c3 c4 iv va xs (σr++[⟨0,.lst [.tup [gS f,gS b]]⟩])).length) (fun K=>?_) (lw_93ta tw w z (S r) (S f) (S b) m s _ _ tv) k
  have hi:((S r).length:Int) - 1=((r.length - 1:Nat):Int):=by rw[S_len]; lia
  have hit:=fun K:List PV→Option (Nat×Nat)→Sto→Option β=>evItK_rangeN (n+53) _ (stG c0 c1 c2 c3 c4 iv va xs (σr++[⟨0,.lst [.tup [gS f,gS b]]⟩])) _ K (lw_93ga tw w z (S r) (S f) (S b) m s (stG c0 c1 c2 c3 c4 iv va xs σr).length tv) (r.length - 1) (by lia) fun K=>(lw_93ia T e P A (n+43) _ _ _ _ _ _ _ _ _ _ _ K).trans ((gp (by rw[S_len]; lia)).trans (by rw[hi]))
  refine (lc_items (M:=n+54) (items:=rgL (r.length - 1)) (by rw[rgL_len]; lia) (lw_93la tw w z (S r) (S f) (S b) m s _ tv) hit (fun v=>("k",v)::[("rest",.str (S r))]) (strF' fun k=>(r.drop k).take 2) (fun v _=>lw_93aa tw w z (S r) (S f) (S b) m s _ tv v) (fun v _ u=>lw_93b (S r) u v) (fun v hv n K=>by
   obtain⟨j,rfl,hj⟩:=rgL_mem hv
   exact link_at T P A Q n _ j hj K) (by rw[rgL_len]; lia) K).trans ?_
  rw[strF'_map,← str_map]
  rfl
 have e4:∀ k:Fl→Cx→Sto→Option β,exK (G2 T (elF e) P (own1 A)) (n+55) ⟨dL.names,V17 tw w z (S r) (S f) (S b) m s (stG c0 c1 c2 c3 c4 iv va xs σr).length (stG c0 c1 c2 c3 c4 iv va xs (σr++[⟨0,.lst [.tup [gS f,gS b]]⟩])).length tv⟩ (stG c0 c1 c2 c3 c4 iv va xs (σr++[⟨0,.lst [.tup [gS f,gS b]]⟩]++[⟨0,.lst ((linksL r).map gS)⟩])) (b9 4) k=
   k .nxt ⟨dL.names,V18 tw w z (S r) (S f) (S b) m s (stG c0 c1 c2 c3 c4 iv va xs σr).length (stG c0 c1 c2 c3 c4 iv va xs (σr++[⟨0,.lst [.tup [gS f,gS b]]⟩])).length (stG c0 c1 c2 c3 c4 iv va xs (σr++[⟨0,.lst [.tup [gS f,gS b]]⟩]++[⟨0,.lst ((linksL r).map gS)⟩])).length tv⟩ (stG c0 c1 c2 c3 c4 iv va xs (σr++[⟨0,.lst [.tup [gS f,gS b]]⟩]++[⟨0,.lst ((linksL r).map gS)⟩]++[⟨0,.lst ((pairsL r f b).map gS)⟩])):=fun k=>by
  refine (lw_94a T e P A (n+15) tw w z (S r) (S f) (S b) m s _ _ tv _ k).trans ?_
  rw[S_len,S_len,S_len,gp (by lia),gp (by lia),gp (by lia),q2]
  refine (gp (by rw[List.length_map,hll]; lia)).trans ?_
  rw[pick_pv,pick_map]
  exact congrArg (fun o=>opt o fun cx'=>k .nxt cx' _) (lw_94ta tw w z (S r) (S f) (S b) m s _ _ _ tv)
 refine⟨(stG c0 c1 c2 c3 c4 iv va xs σr).length,(stG c0 c1 c2 c3 c4 iv va xs (σr++[⟨0,.lst [.tup [gS f,gS b]]⟩])).length,(stG c0 c1 c2 c3 c4 iv va xs (σr++[⟨0,.lst [.tup [gS f,gS b]]⟩]++[⟨0,.lst ((linksL r).map gS)⟩])).length,σ',fun k=>turnN (lw_9ta tw w z (S r) m s tv) (fun k=>?_) k⟩
 rw[lw_9B]
 exact seqN e0 (seqN e1 (seqN e2 (seqN e3 (seqN e4 (e5 k)))))
theorem s9b (hA:CuOk A)(n:Nat)(hn:250≤n)(c0 c1 c2 c3 c4:Cell)(iv:Int)(va:Nat)(xs:List PV)(σr:Sto)(hx:xs.length≤1000):
  ∃ (ci li pi:Nat) (σ':Sto),∀ k:Fl→Cx→Sto→Option β,turnK (G2 T (elF e) P (own1 A)) (n+60) ⟨dL.names,V20 tw w z (S r) m tv⟩ s (stG c0 c1 c2 c3 c4 iv va xs σr) (stAt dL 9) k=
   k .nxt ⟨dL.names,V19 tw w z (S f) (S b) m s ci li pi tv (S (nextL r f b))⟩ (stG c0 c1 c2 c3 c4 iv (va+1) (xs++[.tup [gS f,gS b]]) σ'):=by
 have hlo:=Q.lo
 have hhi:=Q.hi
 have hlf:=Q.lf
 have hlb:=Q.lb
 have hll:(linksL r).length=r.length - 1:=by unfold linksL; rw[List.length_map,List.length_range]
 have hcu:A.cu (S r)=some (strT [(f,b)]):=by rw[hA r hlo hhi,Q.cut]
 have q1:getL (stG c0 c1 c2 c3 c4 iv va xs (σr++[⟨0,.lst [.tup [gS f,gS b]]⟩])) (stG c0 c1 c2 c3 c4 iv va xs σr).length=some [.tup [gS f,gS b]]:=stG_last ..
 have q2:getL (stG c0 c1 c2 c3 c4 iv va xs (σr++[⟨0,.lst [.tup [gS f,gS b]]⟩]++[⟨0,.lst ((linksL r).map gS)⟩])) (stG c0 c1 c2 c3 c4 iv va xs (σr++[⟨0,.lst [.tup [gS f,gS b]]⟩])).length=some ((linksL r).map gS):=stG_last ..
 have q3:getL (stG c0 c1 c2 c3 c4 iv va xs (σr++[⟨0,.lst [.tup [gS f,gS b]]⟩]++[⟨0,.lst ((linksL r).map gS)⟩]++[⟨0,.lst ((pairsL r f b).map gS)⟩])) (stG c0 c1 c2 c3 c4 iv va xs (σr++[⟨0,.lst [.tup [gS f,gS b]]⟩]++[⟨0,.lst ((linksL r).map gS)⟩])).length=some ((pairsL r f b).map gS):=stG_last ..
 have q4:=stG_get q2 [⟨0,.lst ((pairsL r f b).map gS)⟩]
 obtain⟨σ',e5⟩:=s9_tail (β:=β) T P H A tw w z m s tv Q n (stG c0 c1 c2 c3 c4 iv va xs σr).length _ _ c0 c1 c2 c3 c4 iv va xs (σr++[⟨0,.lst [.tup [gS f,gS b]]⟩]++[⟨0,.lst ((linksL r).map gS)⟩]++[⟨0,.lst ((pairsL r f b).map gS)⟩]) hx q3 q4
 have e0:∀ k:Fl→Cx→Sto→Option β,exK (G2 T (elF e) P (own1 A)) (n+59) ⟨dL.names,V21 tw w z (S r) m s tv⟩ (stG c0 c1 c2 c3 c4 iv va xs σr) (b9 0) k=k .nxt ⟨dL.names,V22 tw w z (S r) m s (stG c0 c1 c2 c3 c4 iv va xs σr).length tv⟩ (stG c0 c1 c2 c3 c4 iv va xs (σr++[⟨0,.lst [.tup [gS f,gS b]]⟩])):=fun k=>by
  refine (lw_90b T e P A (n+19) tw w z (S r) m s tv _ k).trans ?_
  rw[ansTups_at hcu,liftK_some]
  exact congrArg (fun o=>opt o fun cx'=>k .nxt cx' _) (lw_90tb tw w z (S r) m s _ tv)
 have e1:∀ k:Fl→Cx→Sto→Option β,exK (G2 T (elF e) P (own1 A)) (n+58) ⟨dL.names,V22 tw w z (S r) m s (stG c0 c1 c2 c3 c4 iv va xs σr).length tv⟩ (stG c0 c1 c2 c3 c4 iv va xs (σr++[⟨0,.lst [.tup [gS f,gS b]]⟩])) (b9 1) k=k .nxt ⟨dL.names,V22 tw w z (S r) m s (stG c0 c1 c2 c3 c4 iv va xs σr).length tv⟩ (stG c0 c1 c2 c3 c4 iv va xs (σr++[⟨0,.lst [.tup [gS f,gS b]]⟩])):=fun k=>
  (lw_91b T e P A (n+18) tw w z (S r) m s _ tv _ k).trans ((len_lst q1 (Nat.le_of_ble_eq_true rfl) _).trans ((ne_one _ _).trans (onB_F ..)))
 have e2:∀ k:Fl→Cx→Sto→Option β,exK (G2 T (elF e) P (own1 A)) (n+57) ⟨dL.names,V22 tw w z (S r) m s (stG c0 c1 c2 c3 c4 iv va xs σr).length tv⟩ (stG c0 c1 c2 c3 c4 iv va xs (σr++[⟨0,.lst [.tup [gS f,gS b]]⟩])) (b9 2) k=k .nxt ⟨dL.names,V23 tw w z (S r) (S f) (S b) m s (stG c0 c1 c2 c3 c4 iv va xs σr).length tv⟩ (stG c0 c1 c2 c3 c4 iv va xs (σr++[⟨0,.lst [.tup [gS f,gS b]]⟩])):=fun k=>
  (lw_92b T e P A (n+17) tw w z (S r) m s _ tv _ k).trans ((subK_nat _ _ 0 _ _ q1 (Nat.le_of_ble_eq_true rfl) (Nat.le_of_ble_eq_true rfl)).trans (congrArg (fun o=>opt o fun cx'=>k .nxt cx' _) (lw_92tb tw w z (S r) (S f) (S b) m s _ tv)))
 have e3:∀ k:Fl→Cx→Sto→Option β,exK (G2 T (elF e) P (own1 A)) (n+56) ⟨dL.names,V23 tw w z (S r) (S f) (S b) m s (stG c0 c1 c2 c3 c4 iv va xs σr).length tv⟩ (stG c0 c1 c2 c3 c4 iv va xs (σr++[⟨0,.lst [.tup [gS f,gS b]]⟩])) (b9 3) k=
   k .nxt ⟨dL.names,V24 tw w z (S r) (S f) (S b) m s (stG c0 c1 c2 c3 c4 iv va xs σr).length (stG c0 c1 c2 c3 c4 iv va xs (σr++[⟨0,.lst [.tup [gS f,gS b]]⟩])).length tv⟩ (stG c0 c1 c2 c3 c4 iv va xs (σr++[⟨0,.lst [.tup [gS f,gS b]]⟩]++[⟨0,.lst ((linksL r).map gS)⟩])):=fun k=>by
  refine asgN lw_93s (σ':=stG c0 c1 c2 c3 c4 iv va xs (σr++[⟨0,.lst [.tup [gS f,gS b]]⟩]++[⟨0,.lst ((linksL r).map gS)⟩])) (x:= .lst (stG c0 c1 c2 c3 c4 iv va xs (σr++[⟨0,.lst [.tup [gS f,gS b]]⟩])).length) (fun K=>?_) (lw_93tb tw w z (S r) (S f) (S b) m s _ _ tv) k
  have hi:((S r).length:Int) - 1=((r.length - 1:Nat):Int):=by rw[S_len]; lia
  have hit:=fun K:List PV→Option (Nat×Nat)→Sto→Option β=>evItK_rangeN (n+53) _ (stG c0 c1 c2 c3 c4 iv va xs (σr++[⟨0,.lst [.tup [gS f,gS b]]⟩])) _ K (lw_93gb tw w z (S r) (S f) (S b) m s (stG c0 c1 c2 c3 c4 iv va xs σr).length tv) (r.length - 1) (by lia) fun K=>(lw_93ib T e P A (n+43) _ _ _ _ _ _ _ _ _ _ _ K).trans ((gp (by rw[S_len]; lia)).trans (by rw[hi]))
  refine (lc_items (M:=n+54) (items:=rgL (r.length - 1)) (by rw[rgL_len]; lia) (lw_93lb tw w z (S r) (S f) (S b) m s _ tv) hit (fun v=>("k",v)::[("rest",.str (S r))]) (strF' fun k=>(r.drop k).take 2) (fun v _=>lw_93ab tw w z (S r) (S f) (S b) m s _ tv v) (fun v _ u=>lw_93b (S r) u v) (fun v hv n K=>by
   obtain⟨j,rfl,hj⟩:=rgL_mem hv
   exact link_at T P A Q n _ j hj K) (by rw[rgL_len]; lia) K).trans ?_
  rw[strF'_map,← str_map]
  rfl
 have e4:∀ k:Fl→Cx→Sto→Option β,exK (G2 T (elF e) P (own1 A)) (n+55) ⟨dL.names,V24 tw w z (S r) (S f) (S b) m s (stG c0 c1 c2 c3 c4 iv va xs σr).length (stG c0 c1 c2 c3 c4 iv va xs (σr++[⟨0,.lst [.tup [gS f,gS b]]⟩])).length tv⟩ (stG c0 c1 c2 c3 c4 iv va xs (σr++[⟨0,.lst [.tup [gS f,gS b]]⟩]++[⟨0,.lst ((linksL r).map gS)⟩])) (b9 4) k=
   k .nxt ⟨dL.names,V18 tw w z (S r) (S f) (S b) m s (stG c0 c1 c2 c3 c4 iv va xs σr).length (stG c0 c1 c2 c3 c4 iv va xs (σr++[⟨0,.lst [.tup [gS f,gS b]]⟩])).length (stG c0 c1 c2 c3 c4 iv va xs (σr++[⟨0,.lst [.tup [gS f,gS b]]⟩]++[⟨0,.lst ((linksL r).map gS)⟩])).length tv⟩ (stG c0 c1 c2 c3 c4 iv va xs (σr++[⟨0,.lst [.tup [gS f,gS b]]⟩]++[⟨0,.lst ((linksL r).map gS)⟩]++[⟨0,.lst ((pairsL r f b).map gS)⟩])):=fun k=>by
  refine (lw_94b T e P A (n+15) tw w z (S r) (S f) (S b) m s _ _ tv _ k).trans ?_
  rw[S_len,S_len,S_len,gp (by lia),gp (by lia),gp (by lia),q2]
  refine (gp (by rw[List.length_map,hll]; lia)).trans ?_
  rw[pick_pv,pick_map]
  exact congrArg (fun o=>opt o fun cx'=>k .nxt cx' _) (lw_94tb tw w z (S r) (S f) (S b) m s _ _ _ tv)
 refine⟨(stG c0 c1 c2 c3 c4 iv va xs σr).length,(stG c0 c1 c2 c3 c4 iv va xs (σr++[⟨0,.lst [.tup [gS f,gS b]]⟩])).length,(stG c0 c1 c2 c3 c4 iv va xs (σr++[⟨0,.lst [.tup [gS f,gS b]]⟩]++[⟨0,.lst ((linksL r).map gS)⟩])).length,σ',fun k=>turnN (lw_9tb tw w z (S r) m s tv) (fun k=>?_) k⟩
 rw[lw_9B]
 exact seqN e0 (seqN e1 (seqN e2 (seqN e3 (seqN e4 (e5 k)))))
end
noncomputable def ovlAt (z:List Nat)(q i:Nat):Bool:=decide ((z.drop i).take (q+1)=(z.drop (i+q)).take (q+1))
noncomputable def ovl (z:List Nat)(q:Nat):List Nat:=(List.range (z.length - 2 * q)).filter (ovlAt z q)
theorem ne_ee (σ:Sto){β:Type}(k:Bool→Option β):cmpK .NotEq σ (.tup [.str "",.str ""]) (.tup [.str "",.str ""]) k=k false:=by kernel_rfl!
noncomputable def tv2 (tv:Nat→PV)(a4 a5 a6 a7 a8 a9:PV):Nat→PV
 | 4=>a4
 | 5=>a5
 | 6=>a6
 | 7=>a7
 | 8=>a8
 | 9=>a9
 | i=>tv i
section
variable {β:Type}(T:Int→Option Str){e:Str→Str→Option Bool}(P:Fn)(A:Ans1)(tw w z:Str)(m:Int)(s:PV)(tv:Nat→PV)
theorem s11a {r f b:List Nat}(hf:A.fo (S f) (S r) (S b) m=some (S (folded f r b)))(n:Nat)(c0 c1 c2 c3 c4:Cell)(iv:Int)(va vb:Nat)(xs ys:List PV)(σr:Sto)
  (hp:popF [.lst 6] (stG c0 c1 c2 c3 c4 iv va xs σr)=some (.tup [gS f,gS b],stG c0 c1 c2 c3 c4 iv vb ys σr)) (k:Fl→Cx→Sto→Option β):
  turnK (G2 T (elF e) P (own1 A)) (n+60) ⟨dL.names,V20 tw w z (S r) m tv⟩ s (stG c0 c1 c2 c3 c4 iv va xs σr) (stAt dL 11) k=k .nxt ⟨dL.names,V26 tw w z (S f) (S b) m s tv (S (folded f r b))⟩ (stG c0 c1 c2 c3 c4 iv vb ys σr):=by
 refine turnN (lw_11ta tw w z (S r) m s tv) (fun k=>?_) k
 rw[lw_11B]
 refine seqN (σ':=stG c0 c1 c2 c3 c4 iv vb ys σr) (cx':=⟨dL.names,V25 tw w z (S r) (S f) (S b) m s tv⟩) (fun k=>(lw_110a T e P A (n+19) tw w z (S r) m s tv c0 c1 c2 c3 c4 iv va xs σr k).trans ?_) (seqN (σ':=stG c0 c1 c2 c3 c4 iv vb ys σr) (cx':=⟨dL.names,V26 tw w z (S f) (S b) m s tv (S (folded f r b))⟩) (fun k=>(lw_111a T e P A (n+18) tw w z (S r) (S f) (S b) m s tv _ k).trans ?_) rfl)
 ·refine (congrArg (fun o=>liftK o fun v σ'=>opt (bindT ⟨dL.names,V21 tw w z (S r) m s tv⟩ (asgT (b11 0)) v) fun cx'=>k .nxt cx' σ') hp).trans ?_
  exact congrArg (fun o=>opt o fun cx'=>k .nxt cx' _) (lw_110ta tw w z (S r) (S f) (S b) m s tv)
 ·rw[ansFold_at hf,liftK_some]
  exact congrArg (fun o=>opt o fun cx'=>k .nxt cx' _) (lw_111ta tw w z (S r) (S f) (S b) m s tv _)
theorem s11b {r f b:List Nat}(hf:A.fo (S f) (S r) (S b) m=some (S (folded f r b)))(n:Nat)(c0 c1 c2 c3 c4:Cell)(iv:Int)(va vb:Nat)(xs ys:List PV)(σr:Sto)
  (hp:popF [.lst 6] (stG c0 c1 c2 c3 c4 iv va xs σr)=some (.tup [gS f,gS b],stG c0 c1 c2 c3 c4 iv vb ys σr)) (k:Fl→Cx→Sto→Option β):
  turnK (G2 T (elF e) P (own1 A)) (n+60) ⟨dL.names,V27 tw w z (S r) m tv⟩ s (stG c0 c1 c2 c3 c4 iv va xs σr) (stAt dL 11) k=k .nxt ⟨dL.names,V26 tw w z (S f) (S b) m s tv (S (folded f r b))⟩ (stG c0 c1 c2 c3 c4 iv vb ys σr):=by
 refine turnN (lw_11tb tw w z (S r) m s tv) (fun k=>?_) k
 rw[lw_11B]
 refine seqN (σ':=stG c0 c1 c2 c3 c4 iv vb ys σr) (cx':=⟨dL.names,V25 tw w z (S r) (S f) (S b) m s tv⟩) (fun k=>(lw_110b T e P A (n+19) tw w z (S r) m s tv c0 c1 c2 c3 c4 iv va xs σr k).trans ?_) (seqN (σ':=stG c0 c1 c2 c3 c4 iv vb ys σr) (cx':=⟨dL.names,V26 tw w z (S f) (S b) m s tv (S (folded f r b))⟩) (fun k=>(lw_111b T e P A (n+18) tw w z (S r) (S f) (S b) m s tv _ k).trans ?_) rfl)
 ·refine (congrArg (fun o=>liftK o fun v σ'=>opt (bindT ⟨dL.names,V28 tw w z (S r) m s tv⟩ (asgT (b11 0)) v) fun cx'=>k .nxt cx' σ') hp).trans ?_
  exact congrArg (fun o=>opt o fun cx'=>k .nxt cx' _) (lw_110tb tw w z (S r) (S f) (S b) m s tv)
 ·rw[ansFold_at hf,liftK_some]
  exact congrArg (fun o=>opt o fun cx'=>k .nxt cx' _) (lw_111tb tw w z (S r) (S f) (S b) m s tv _)
end
theorem V12_13 (tw w z:Str)(m:Int)(tv:Nat→PV):V12 tw w z m tv=V13 tw w z z m tv:=by kernel_rfl!
theorem V19_20 (tw w z f b:Str)(m:Int)(s:PV)(ci li pi:Nat)(tv:Nat→PV)(z0:Str):V19 tw w z f b m s ci li pi tv z0=V20 tw w z z0 m (tv2 tv (.lst pi) (.lst li) (.str b) (.str f) (.lst ci) s):=by kernel_rfl!
theorem V26_27 (tw w z f b:Str)(m:Int)(s:PV)(tv:Nat→PV)(z0:Str):V26 tw w z f b m s tv z0=V27 tw w z z0 m (tv2 tv (tv 4) (tv 5) (.str b) (.str f) (tv 8) s):=by kernel_rfl!
section
variable {β:Type}(T:Int→Option Str){e:Str→Str→Option Bool}(P:Fn)(H:EllOk e)(A:Ans1)(hC:CuOk A)(tw w z:Str)(m:Int)(s:PV)(tv:Nat→PV){r f b:List Nat}(c0 c1 c2 c3 c4:Cell)(iv:Int)(va:Nat)(σr:Sto)(n:Nat)
include H hC in
theorem s9a' (Q:StepL r f b)(hn:250≤n)(xs:List PV)(hx:xs.length≤1000):∃ (tv':Nat→PV) (σ':Sto),∀ k:Fl→Cx→Sto→Option β,turnK (G2 T (elF e) P (own1 A)) (n+60) ⟨dL.names,V13 tw w z (S r) m tv⟩ s (stG c0 c1 c2 c3 c4 iv va xs σr) (stAt dL 9) k=
   k .nxt ⟨dL.names,V20 tw w z (S (nextL r f b)) m tv'⟩ (stG c0 c1 c2 c3 c4 iv (va+1) (xs++[.tup [gS f,gS b]]) σ'):=by
 obtain⟨ci,li,pi,σ',e1⟩:=s9a (β:=β) T P H A tw w z m s tv Q hC n hn c0 c1 c2 c3 c4 iv va xs σr hx
 rw[V19_20] at e1
 exact⟨_,σ',e1⟩
include H hC in
theorem s9b' (Q:StepL r f b)(hn:250≤n)(xs:List PV)(hx:xs.length≤1000):∃ (tv':Nat→PV) (σ':Sto),∀ k:Fl→Cx→Sto→Option β,turnK (G2 T (elF e) P (own1 A)) (n+60) ⟨dL.names,V20 tw w z (S r) m tv⟩ s (stG c0 c1 c2 c3 c4 iv va xs σr) (stAt dL 9) k=
   k .nxt ⟨dL.names,V20 tw w z (S (nextL r f b)) m tv'⟩ (stG c0 c1 c2 c3 c4 iv (va+1) (xs++[.tup [gS f,gS b]]) σ'):=by
 obtain⟨ci,li,pi,σ',e1⟩:=s9b (β:=β) T P H A tw w z m s tv Q hC n hn c0 c1 c2 c3 c4 iv va xs σr hx
 rw[V19_20] at e1
 exact⟨_,σ',e1⟩
theorem s11a' (hf:A.fo (S f) (S r) (S b) m=some (S (folded f r b)))(vb:Nat)(xs ys:List PV)(hp:popF [.lst 6] (stG c0 c1 c2 c3 c4 iv va xs σr)=some (.tup [gS f,gS b],stG c0 c1 c2 c3 c4 iv vb ys σr)):∃ tv':Nat→PV,∀ k:Fl→Cx→Sto→Option β,
  turnK (G2 T (elF e) P (own1 A)) (n+60) ⟨dL.names,V20 tw w z (S r) m tv⟩ s (stG c0 c1 c2 c3 c4 iv va xs σr) (stAt dL 11) k=k .nxt ⟨dL.names,V27 tw w z (S (folded f r b)) m tv'⟩ (stG c0 c1 c2 c3 c4 iv vb ys σr):=by
 have e1:=fun k=>s11a (β:=β) T (e:=e) P A tw w z m s tv hf n c0 c1 c2 c3 c4 iv va vb xs ys σr hp k
 rw[V26_27] at e1
 exact⟨_,e1⟩
theorem s11b' (hf:A.fo (S f) (S r) (S b) m=some (S (folded f r b)))(vb:Nat)(xs ys:List PV)(hp:popF [.lst 6] (stG c0 c1 c2 c3 c4 iv va xs σr)=some (.tup [gS f,gS b],stG c0 c1 c2 c3 c4 iv vb ys σr)):∃ tv':Nat→PV,∀ k:Fl→Cx→Sto→Option β,
  turnK (G2 T (elF e) P (own1 A)) (n+60) ⟨dL.names,V27 tw w z (S r) m tv⟩ s (stG c0 c1 c2 c3 c4 iv va xs σr) (stAt dL 11) k=k .nxt ⟨dL.names,V27 tw w z (S (folded f r b)) m tv'⟩ (stG c0 c1 c2 c3 c4 iv vb ys σr):=by
 have e1:=fun k=>s11b (β:=β) T (e:=e) P A tw w z m s tv hf n c0 c1 c2 c3 c4 iv va vb xs ys σr hp k
 rw[V26_27] at e1
 exact⟨_,e1⟩
end
section
variable {β:Type}(T:Int→Option Str){e:Str→Str→Option Bool}(P:Fn)(A:Ans1)(tw w:Str)(r:Str)(m:Int)(tv:Nat→PV){z:List Nat}(hz:z.length≤200)
include hz
theorem ov_at (q i n:Nat)(hq:q≤200)(hi:i < z.length - 2 * q)(σ:Sto)(K:Option PV→Sto→Option β):compB (G2 T (elF e) P (own1 A)) (n+20) ⟨lcN e14,("k",.int (i:Int))::lC14c tw w (S z) r m q tv⟩ σ e14 K=K (pvT (ovlAt z q) (.int (i:Int))) σ:=by
 refine (lw_14d T e P A n tw w (S z) r m q tv i σ K).trans ?_
 have a1:(i:Int)+(q:Int)+1=((i+(q+1):Nat):Int):=by lia
 have a2:(i:Int)+(q:Int)=((i+q:Nat):Int):=rfl
 have a3:(i:Int)+2 * (q:Int)+1=((i+q+(q+1):Nat):Int):=by lia
 rw[S_len,gp (by lia),gp ⟨by decide,by unfold bigN; lia⟩,gp (by lia),a1,a2,a3,sli_ab z i (i+(q+1)) (Nat.le_add_right ..) (by lia),sli_ab z (i+q) (i+q+(q+1)) (Nat.le_add_right ..) (by lia),Nat.add_sub_cancel_left,Nat.add_sub_cancel_left]
 show _=K (if ovlAt z q ((i:Int)).toNat=true then some (.int (i:Int)) else none) σ
 rw[Int.toNat_natCast]
 unfold ovlAt
 by_cases h:(z.drop i).take (q+1)=(z.drop (i+q)).take (q+1)
 ·rw[decide_eq_true (S_inj.mpr h),if_pos (decide_eq_true h)]; rfl
 ·rw[decide_eq_false (fun x=>h (S_inj.mp x)),if_neg (by rw[decide_eq_false h]; exact Bool.false_ne_true)]; rfl
theorem ov_turn (q n:Nat)(hn:250≤n)(hq:2 * q≤z.length)(ho:ovl z q=[]){cx:Cx}(hb:bindT cx (forT (stAt dL 14)) (.int (q:Int))=some ⟨dL.names,V30 tw w (S z) r m q tv⟩)(σ:Sto)(k:Fl→Cx→Sto→Option β):
  turnK (G2 T (elF e) P (own1 A)) (n+50) cx (.int (q:Int)) σ (stAt dL 14) k=k .nxt ⟨dL.names,V30 tw w (S z) r m q tv⟩ (σ++[⟨0,.lst []⟩,⟨0,.lst []⟩]):=by
 rw[show σ++[⟨0,.lst []⟩,⟨0,.lst []⟩]=σ++[⟨0,.lst []⟩]++[⟨0,.lst []⟩] from (List.append_assoc (σ:List Cell) [⟨0,.lst []⟩] [⟨0,.lst []⟩]).symm]
 have hi:((S z).length:Int) - 2 * (q:Int)=((z.length - 2 * q:Nat):Int):=by rw[S_len]; lia
 have hit:=fun K:List PV→Option (Nat×Nat)→Sto→Option β=>evItK_rangeN (n+45) _ σ _ K (lw_14gg tw w (S z) r m q tv) (z.length - 2 * q) (by lia) fun K=>(lw_14ii T e P A (n+35) _ _ _ _ _ _ _ _ K).trans ((gp ⟨by decide,by unfold bigN; lia⟩).trans (by rw[hi]))
 have lc:=fun k=>lc_items (M:=n+46) (items:=rgL (z.length - 2 * q)) (by rw[rgL_len]; lia) (lw_14l tw w (S z) r m q tv) hit (fun v=>("k",v)::lC14c tw w (S z) r m q tv) (pvT (ovlAt z q)) (fun v _=>lw_14a tw w (S z) r m q tv v) (fun v _ u=>lw_14b tw w (S z) r m q tv u v) (fun v hv n K=>by
   obtain⟨j,rfl,hj⟩:=rgL_mem hv
   exact ov_at T P A tw w r m tv hz q j n (by lia) hj _ K) (by rw[rgL_len]; lia) k
 rw[show (rgL (z.length - 2 * q)).filterMap (pvT (ovlAt z q))=iL (natI (ovl z q)) from pvT_range _ _,ho] at lc
 refine turnN hb (fun k=>?_) k
 rw[lw_14B]
 refine seqN (fun k=>(lw_14f _ _ (n+48) _ _ _).trans ((lw_14c _ _ (n+47) _ _ _).trans ((lc _).trans ((lw_14r T e P A (n+42) _ _ _).trans ?_)))) rfl
 rw[lw_14o]
 refine (cmp_ne_ints _ σ.length (σ++[⟨0,.lst (iL (natI []))⟩]:Sto).length [] [] _ (getL_app (getL_last σ 0 _) _) (getL_last ..) (Nat.zero_le _) (Nat.zero_le _)).trans ?_
 refine (onB_F ..).trans ?_
 rw[lw_14fB]
 rfl
theorem ov_loop:∀ (js:List Nat) (n:Nat) (q0:Int) (σ:Sto),250≤n→(∀ j∈js,2 * (1+j)≤z.length∧ovl z (1+j)=[])→
  ∃ (cx':Cx) (τ:Sto),∀ k:Fl→Cx→Sto→Option β,exForK (G2 T (elF e) P (own1 A)) (n+js.length+51) ⟨dL.names,V30 tw w (S z) r m q0 tv⟩ σ (forT (stAt dL 14)) (forB (stAt dL 14)) none (js.map fun (j:Nat)=> .int ((1+j:Nat):Int)) k=k .nxt cx' (σ++τ)
 | [],n,q0,σ,_,_=>⟨_,[],fun k=>by rw[List.append_nil]; exact exForK_nil (n+50) _ _ _ _ _ _ rfl⟩
 | j::js,n,q0,σ,hn,h=>by
  obtain⟨cx',σ',e2⟩:=ov_loop js n ((1+j:Nat):Int) (σ++[⟨0,.lst []⟩,⟨0,.lst []⟩]) hn fun i hi=>h i (List.mem_cons_of_mem _ hi)
  rw[List.append_assoc] at e2
  exact⟨cx',_,fun k=>loopN rfl (fun k=>ov_turn T P A tw w r m tv hz (1+j) (n+js.length+1) (Nat.le_trans hn (by lia)) (h j List.mem_cons_self).1 (h j List.mem_cons_self).2 (lw_14t1 tw w (S z) r m _ (.int q0) tv) σ k) (e2 k)⟩
theorem ov_run (σ:Sto)(hz2:1≤z.length)(h:∀ j∈List.range ((z.length+1) / 2 - 1),ovl z (1+j)=[]):∃ (cx':Cx) (τ:Sto),∀ k:Fl→Cx→Sto→Option β,exK (G2 T (elF e) P (own1 A)) 1985 ⟨dL.names,V29 tw w (S z) r m tv⟩ σ (stAt dL 14) k=k .nxt cx' (σ++τ):=by
 have hdiv:Int.fdiv (((S z).length:Int)+1) 2=(((z.length+1) / 2:Nat):Int):=by rw[S_len]; exact fdiv_nat (z.length+1) 2
 have hi1:=fun K=>evItK_range1 (β:=β) (G:=G2 T (elF e) P (own1 A)) 1983 ⟨dL.names,V29 tw w (S z) r m tv⟩ σ (forI (stAt dL 14)) K (lw_14g _ _ _ _ _ _) ((z.length+1) / 2) (by lia) fun K=>(lw_14i T e P A 1973 tw w (S z) r m tv σ K).trans (by rw[hdiv])
 have hr:∀ j∈List.range ((z.length+1) / 2 - 1),2 * (1+j)≤z.length∧ovl z (1+j)=[]:=fun j hj=>⟨by have:=List.mem_range.mp hj; lia,h j hj⟩
 have hl:(List.range ((z.length+1) / 2 - 1)).length≤110:=by rw[List.length_range]; lia
 cases hq:List.range ((z.length+1) / 2 - 1) with
 | nil=>
  rw[hq] at hi1
  exact⟨_,[],forN lw_14s hi1 fun k=>by rw[List.append_nil]; exact exForK_nil 1983 _ _ _ _ _ _ rfl⟩
 | cons j js=>
  rw[hq] at hi1 hr hl
  obtain⟨cx',σ',e2⟩:=ov_loop (β:=β) T P A tw w r m tv hz js (1932 - js.length) ((1+j:Nat):Int) (σ++[⟨0,.lst []⟩,⟨0,.lst []⟩]) (by rw[List.length_cons] at hl; lia) fun i hi=>hr i (List.mem_cons_of_mem _ hi)
  rw[show 1932 - js.length+js.length+51=1983 by rw[List.length_cons] at hl; lia] at e2
  rw[List.append_assoc] at e2
  exact⟨cx',_,forN lw_14s hi1 fun k=>loopN rfl (fun k=>ov_turn T P A tw w r m tv hz (1+j) 1933 (by decide) (hr j List.mem_cons_self).1 (hr j List.mem_cons_self).2 (lw_14t0 tw w (S z) r m _ tv) σ k) (e2 k)⟩
end
structure Whole (z f0 b0 f1 b1:List Nat):Prop where
 q0:StepL z f0 b0
 q1:StepL (nextL z f0 b0) f1 b1
 back:folded f0 (folded f1 (nextL (nextL z f0 b0) f1 b1) b1) b0=z
 ov:∀ j∈List.range ((z.length+1) / 2 - 1),ovl z (1+j)=[]
 hf0:hpL f0
 hb0:hpL b0
 hf1:hpL f1
 hb1:hpL b1
 l2:(nextL (nextL z f0 b0) f1 b1).length≤100
 l3:(folded f1 (nextL (nextL z f0 b0) f1 b1) b1).length≤100
theorem law_tail (T:Int→Option Str){e:Str→Str→Option Bool}(P:Fn)(H:EllOk e)(A:Ans1)(hC:CuOk A)(hF:FoOk A)(tw w:Str)(m:Nat)(tv:Nat→PV){z f0 b0 f1 b1:List Nat}(Wz:Whole z f0 b0 f1 b1)(c0 c1 c2 c3 c4:Cell):
  ∃ σ',exsK (G2 T (elF e) P (own1 A)) 1992 ⟨dL.names,V11 tw w (S z) m tv⟩ [c0,c1,c2,c3,c4] [stAt dL 8,stAt dL 9,stAt dL 10,stAt dL 11,stAt dL 12,stAt dL 13,stAt dL 14,stAt dL 15] endK=some (.bool true,σ')∧σ'[0]?=some c0:=by
 have hfo1:=hF f1 (nextL (nextL z f0 b0) f1 b1) b1 m Wz.hf1 Wz.hb1 (Nat.le_trans Wz.q1.lf (by decide)) (Nat.le_trans Wz.q1.lb (by decide)) Wz.l2
 have hfo0:=hF f0 (folded f1 (nextL (nextL z f0 b0) f1 b1) b1) b0 m Wz.hf0 Wz.hb0 (Nat.le_trans Wz.q0.lf (by decide)) (Nat.le_trans Wz.q0.lb (by decide)) Wz.l3
 obtain⟨tv1,σ1,e1⟩:=s9a' (β:=PV×Sto) T P H A hC tw w (S z) m (.int 0) tv c0 c1 c2 c3 c4 0 1 [] 1928 Wz.q0 (by decide) [] (by decide)
 obtain⟨tv2,σ2,e2⟩:=s9b' (β:=PV×Sto) T P H A hC tw w (S z) m (.int 1) tv1 c0 c1 c2 c3 c4 0 2 σ1 1927 Wz.q1 (by decide) [.tup [gS f0,gS b0]] (Nat.le_of_ble_eq_true rfl)
 obtain⟨tv3,e3⟩:=s11a' (β:=PV×Sto) T (e:=e) P A tw w (S z) m (.int 0) tv2 c0 c1 c2 c3 c4 0 3 σ2 1926 hfo1 4 _ _ (popF_2 c0 c1 c2 c3 c4 0 3 (.tup [gS f0,gS b0]) (.tup [gS f1,gS b1]) σ2)
 obtain⟨tv4,e4⟩:=s11b' (β:=PV×Sto) T (e:=e) P A tw w (S z) m (.int 1) tv3 c0 c1 c2 c3 c4 0 4 σ2 1925 hfo0 5 _ _ (popF_1 c0 c1 c2 c3 c4 0 4 (.tup [gS f0,gS b0]) σ2)
 obtain⟨cx',σ',e5⟩:=ov_run (β:=PV×Sto) T (e:=e) P A tw w (S z) m tv4 (z:=z) Wz.q0.hi (stG c0 c1 c2 c3 c4 0 5 [] σ2) (Nat.le_trans (by decide) Wz.q0.lo) Wz.ov
 rw[Wz.back] at e4
 have hzl:(S z).length≤100000:=by rw[S_len]; exact Nat.le_trans Wz.q0.hi (by decide)
 have e8:=fun k=>lw_8 (β:=PV×Sto) T e P A 1951 tw w (S z) m tv c0 c1 c2 c3 c4 k
 have e9:=fun K=>lw_9i (β:=PV×Sto) T e P A 1969 tw w (S z) m tv [c0,c1,c2,c3,c4,⟨1,.ins [("_initial_size",.int 0)]⟩,⟨1,.acc 5 []⟩] K
 rw[V12_13] at e8 e9
 have t12:∀ k:Fl→Cx→Sto→Option (PV×Sto),exK (G2 T (elF e) P (own1 A)) 1987 ⟨dL.names,V27 tw w (S z) (S z) m tv4⟩ (stG c0 c1 c2 c3 c4 0 5 [] σ2) (stAt dL 12) k=k .nxt ⟨dL.names,V27 tw w (S z) (S z) m tv4⟩ (stG c0 c1 c2 c3 c4 0 5 [] σ2):=fun k=>by
  refine (lw_12 T e P A 1947 tw w (S z) (S z) m tv4 c0 c1 c2 c3 c4 0 5 σ2 k).trans ?_
  rw[decide_eq_true rfl]
  exact (onB_F ..).trans ((ne_ee _ _).trans (onB_F ..))
 have t10:=fun k=>lw_10 (β:=PV×Sto) T e P A 1949 tw w (S z) (S (nextL (nextL z f0 b0) f1 b1)) m tv2 c0 c1 c2 c3 c4 0 3 (.tup [gS f0,gS b0]) (.tup [gS f1,gS b1]) σ2 k
 have t11:=fun K=>lw_11i (β:=PV×Sto) T e P A 1967 tw w (S z) (S (nextL (nextL z f0 b0) f1 b1)) m tv2 (stG c0 c1 c2 c3 c4 0 3 [.tup [gS f0,gS b0],.tup [gS f1,gS b1]] σ2) K
 have t13:=fun k=>(lw_13 (β:=PV×Sto) T e P A 1946 tw w (S z) (S z) m tv4 (stG c0 c1 c2 c3 c4 0 5 [] σ2) k).trans (gp hzl)
 have t9:=forN (G:=G2 T (elF e) P (own1 A)) (n:=1989) lw_9s e9 fun k=>loopN rfl e1 (loopN rfl e2 (exForK_nil 1986 _ _ _ _ _ k rfl))
 have t11':=forN (G:=G2 T (elF e) P (own1 A)) (n:=1987) lw_11s t11 fun k=>loopN rfl e3 (loopN rfl e4 (exForK_nil 1984 _ _ _ _ _ k rfl))
 exact⟨_,seqN e8 (seqN t9 (seqN t10 (seqN t11' (seqN t12 (seqN t13 (seqN e5 (seqR (fun k=>lw_15 T e P A 1964 _ _ k) rfl))))))),rfl⟩
noncomputable def dbl0 (w:List Nat):List Nat:=folded [] w []
noncomputable def addL (u:Bool)(c:Nat):List (List Nat):=match u with
 | true=>[]
 | false=>[[c]]
theorem dbl0_eq (w:List Nat):dbl0 w=dbl w:=List.append_nil _
theorem dbl0_len (w:List Nat):(dbl0 w).length=2 * w.length:=by rw[dbl0_eq,dbl_len]
theorem dbl_hp:∀ w:List Nat,hpL (dbl w)
 | []=>fun c h=>absurd h List.not_mem_nil
 | c::w=>by
  show hpL (two1 c++dbl w)
  refine hpL_app (fun x hx=>?_) (dbl_hp w)
  unfold two1 at hx
  by_cases h:c=104
  ·rw[if_pos h] at hx
   exact (List.mem_cons.mp hx).imp id fun h=>List.mem_singleton.mp h
  ·rw[if_neg h] at hx
   exact (List.mem_cons.mp hx).elim .inr fun h=> .inl (List.mem_singleton.mp h)
theorem dbl0_hp {w:List Nat}(_:hpL w):hpL (dbl0 w):=dbl0_eq w▸dbl_hp w
theorem ne_bb {β:Type}(σ:Sto)(u v:Bool)(k:Bool→Option β):cmpK .NotEq σ (.tup [.bool u,.bool v]) (.tup [.bool u,.bool v]) k=k false:=by
 cases u <;> cases v <;> kernel_rfl!
section
variable {β:Type}(T:Int→Option Str){e:Str→Str→Option Bool}(P:Fn){A:Ans1}(hA:LaOk A){W:List Nat}(hW:hpL W)(hl:W.length≤50)(m:Int)
include hA hW hl
theorem s6a (n:Nat)(c0 c1 c2:Cell)(vf vb:Nat)(fs bs:List (List Nat))(hfs:fs.length≤100)(hbs:bs.length≤100)(c d:Nat)(hc:hp c)(hd:hp d)
  (hu:lapsL ((dbl0 W).reverse++[c])=lapsL (W.reverse++[d])) (hv:lapsL (dbl0 W++[c])=lapsL (W++[c])):
  ∃ vf' vb',∀ k:Fl→Cx→Sto→Option β,turnK (G2 T (elF e) P (own1 A)) (n+60) ⟨dL.names,V5 (S (dbl0 W)) (S W) m⟩ (.tup [.str (S [c]),.str (S [d])]) [c0,c1,c2,⟨vf,.lst (fs.map gS)⟩,⟨vb,.lst (bs.map gS)⟩] (stAt dL 6) k=
   k .nxt ⟨dL.names,V7 (S (dbl0 W)) (S W) (S [c]) (S [d]) m (lapsL ((dbl0 W).reverse++[c])) (lapsL (dbl0 W++[c]))⟩ [c0,c1,c2,⟨vf',.lst ((fs++addL (lapsL ((dbl0 W).reverse++[c])) c).map gS)⟩,⟨vb',.lst ((bs++addL (lapsL (dbl0 W++[c])) c).map gS)⟩]:=by
 have hdl:=dbl0_len W
 have hdw:=dbl0_hp hW
 have o1:∀ x,hp x→hpL [x]:=fun x h y hy=>List.mem_singleton.mp hy▸h
 have a1:=ansSB_at (hA ((dbl0 W).reverse++[c]) (by rw[List.length_append,List.length_reverse,List.length_singleton]; lia) (hp_dot (hpL_app (hpL_rev hdw) (o1 c hc))))
 have a2:=ansSB_at (hA (dbl0 W++[c]) (by rw[List.length_append,List.length_singleton]; lia) (hp_dot (hpL_app hdw (o1 c hc))))
 have a3:=ansSB_at (hA (W.reverse++[d]) (by rw[List.length_append,List.length_reverse,List.length_singleton]; lia) (hp_dot (hpL_app (hpL_rev hW) (o1 d hd))))
 have a4:=ansSB_at (hA (W++[c]) (by rw[List.length_append,List.length_singleton]; lia) (hp_dot (hpL_app hW (o1 c hc))))
 rw[← hu] at a3
 rw[← hv] at a4
 have e0:∀ (σ:Sto) (k:Fl→Cx→Sto→Option β),exK (G2 T (elF e) P (own1 A)) (n+59) ⟨dL.names,V6 (S (dbl0 W)) (S W) (S [c]) (S [d]) m⟩ σ (b6 0) k=k .nxt ⟨dL.names,V7 (S (dbl0 W)) (S W) (S [c]) (S [d]) m (lapsL ((dbl0 W).reverse++[c])) (lapsL (dbl0 W++[c]))⟩ σ:=fun σ k=>by
  refine (lw_60a T e P A (n+19) (S (dbl0 W)) (S W) (S [c]) (S [d]) m σ k).trans ?_
  rw[S_len,gp (by lia),sli_rev,S_app,S_app,gp (by rw[S_len,List.length_append,List.length_reverse,List.length_singleton]; lia),a1,liftK_some,gp (by rw[S_len,List.length_append,List.length_singleton]; lia),a2,liftK_some]
  exact congrArg (fun o=>opt o fun cx'=>k .nxt cx' σ) (lw_60ta (S (dbl0 W)) (S W) (S [c]) (S [d]) m _ _)
 have e1:∀ (σ:Sto) (k:Fl→Cx→Sto→Option β),exK (G2 T (elF e) P (own1 A)) (n+58) ⟨dL.names,V7 (S (dbl0 W)) (S W) (S [c]) (S [d]) m (lapsL ((dbl0 W).reverse++[c])) (lapsL (dbl0 W++[c]))⟩ σ (b6 1) k=k .nxt ⟨dL.names,V7 (S (dbl0 W)) (S W) (S [c]) (S [d]) m (lapsL ((dbl0 W).reverse++[c])) (lapsL (dbl0 W++[c]))⟩ σ:=fun σ k=>by
  refine (lw_61 T e P A (n+18) (S (dbl0 W)) (S W) (S [c]) (S [d]) m _ _ σ k).trans ?_
  rw[S_len,gp (by lia),sli_rev,S_app,S_app,gp (by rw[S_len,List.length_append,List.length_reverse,List.length_singleton]; lia),a3,liftK_some,gp (by rw[S_len,List.length_append,List.length_singleton]; lia),a4,liftK_some]
  exact (ne_bb ..).trans (onB_F ..)
 obtain⟨vf',e2⟩:∃ vf',∀ k:Fl→Cx→Sto→Option β,exK (G2 T (elF e) P (own1 A)) (n+57) ⟨dL.names,V7 (S (dbl0 W)) (S W) (S [c]) (S [d]) m (lapsL ((dbl0 W).reverse++[c])) (lapsL (dbl0 W++[c]))⟩ [c0,c1,c2,⟨vf,.lst (fs.map gS)⟩,⟨vb,.lst (bs.map gS)⟩] (b6 2) k=k .nxt ⟨dL.names,V7 (S (dbl0 W)) (S W) (S [c]) (S [d]) m (lapsL ((dbl0 W).reverse++[c])) (lapsL (dbl0 W++[c]))⟩ [c0,c1,c2,⟨vf',.lst ((fs++addL (lapsL ((dbl0 W).reverse++[c])) c).map gS)⟩,⟨vb,.lst (bs.map gS)⟩]:=by
  have h:=fun k:Fl→Cx→Sto→Option β=>lw_62 T e P A (n+17) (S (dbl0 W)) (S W) (S [c]) (S [d]) m (lapsL ((dbl0 W).reverse++[c])) (lapsL (dbl0 W++[c])) c0 c1 c2 vf vb (fs.map gS) (bs.map gS) k
  cases hx:lapsL ((dbl0 W).reverse++[c]) with
  | true=>
   rw[hx] at h
   exact⟨vf,fun k=>(h k).trans ((onB_F ..).trans (by rw[show fs++addL true c=fs from List.append_nil fs]))⟩
  | false=>
   rw[hx] at h
   exact⟨vf+1,fun k=>(h k).trans ((onB_T ..).trans ((gp (by rw[List.length_map]; exact Nat.le_trans hfs (by decide))).trans (by rw[List.map_append]; rfl)))⟩
 obtain⟨vb',e3⟩:∃ vb',∀ k:Fl→Cx→Sto→Option β,exK (G2 T (elF e) P (own1 A)) (n+56) ⟨dL.names,V7 (S (dbl0 W)) (S W) (S [c]) (S [d]) m (lapsL ((dbl0 W).reverse++[c])) (lapsL (dbl0 W++[c]))⟩ [c0,c1,c2,⟨vf',.lst ((fs++addL (lapsL ((dbl0 W).reverse++[c])) c).map gS)⟩,⟨vb,.lst (bs.map gS)⟩] (b6 3) k=k .nxt ⟨dL.names,V7 (S (dbl0 W)) (S W) (S [c]) (S [d]) m (lapsL ((dbl0 W).reverse++[c])) (lapsL (dbl0 W++[c]))⟩ [c0,c1,c2,⟨vf',.lst ((fs++addL (lapsL ((dbl0 W).reverse++[c])) c).map gS)⟩,⟨vb',.lst ((bs++addL (lapsL (dbl0 W++[c])) c).map gS)⟩]:=by
  have h:=fun k:Fl→Cx→Sto→Option β=>lw_63 T e P A (n+16) (S (dbl0 W)) (S W) (S [c]) (S [d]) m (lapsL ((dbl0 W).reverse++[c])) (lapsL (dbl0 W++[c])) c0 c1 c2 vf' vb ((fs++addL (lapsL ((dbl0 W).reverse++[c])) c).map gS) (bs.map gS) k
  cases hx:lapsL (dbl0 W++[c]) with
  | true=>
   rw[hx] at h
   exact⟨vb,fun k=>(h k).trans ((onB_F ..).trans (by rw[show bs++addL true c=bs from List.append_nil bs]))⟩
  | false=>
   rw[hx] at h
   exact⟨vb+1,fun k=>(h k).trans ((onB_T ..).trans ((gp (by rw[List.length_map]; exact Nat.le_trans hbs (by decide))).trans (by rw[show (bs++addL false c).map gS=bs.map gS++[gS [c]] from List.map_append]; rfl)))⟩
 refine⟨vf',vb',fun k=>turnN (lw_6ta (S (dbl0 W)) (S W) (S [c]) (S [d]) m) (fun k=>?_) k⟩
 rw[lw_6B]
 exact seqN (e0 _) (seqN (e1 _) (seqN e2 (seqN e3 rfl)))
theorem s6b (x0 y0:Str)(u0 v0:PV)(n:Nat)(c0 c1 c2:Cell)(vf vb:Nat)(fs bs:List (List Nat))(hfs:fs.length≤100)(hbs:bs.length≤100)(c d:Nat)(hc:hp c)(hd:hp d)
  (hu:lapsL ((dbl0 W).reverse++[c])=lapsL (W.reverse++[d])) (hv:lapsL (dbl0 W++[c])=lapsL (W++[c])):
  ∃ vf' vb',∀ k:Fl→Cx→Sto→Option β,turnK (G2 T (elF e) P (own1 A)) (n+60) ⟨dL.names,V8 (S (dbl0 W)) (S W) x0 y0 m u0 v0⟩ (.tup [.str (S [c]),.str (S [d])]) [c0,c1,c2,⟨vf,.lst (fs.map gS)⟩,⟨vb,.lst (bs.map gS)⟩] (stAt dL 6) k=
   k .nxt ⟨dL.names,V7 (S (dbl0 W)) (S W) (S [c]) (S [d]) m (lapsL ((dbl0 W).reverse++[c])) (lapsL (dbl0 W++[c]))⟩ [c0,c1,c2,⟨vf',.lst ((fs++addL (lapsL ((dbl0 W).reverse++[c])) c).map gS)⟩,⟨vb',.lst ((bs++addL (lapsL (dbl0 W++[c])) c).map gS)⟩]:=by
 have hdl:=dbl0_len W
 have hdw:=dbl0_hp hW
 have o1:∀ x,hp x→hpL [x]:=fun x h y hy=>List.mem_singleton.mp hy▸h
 have a1:=ansSB_at (hA ((dbl0 W).reverse++[c]) (by rw[List.length_append,List.length_reverse,List.length_singleton]; lia) (hp_dot (hpL_app (hpL_rev hdw) (o1 c hc))))
 have a2:=ansSB_at (hA (dbl0 W++[c]) (by rw[List.length_append,List.length_singleton]; lia) (hp_dot (hpL_app hdw (o1 c hc))))
 have a3:=ansSB_at (hA (W.reverse++[d]) (by rw[List.length_append,List.length_reverse,List.length_singleton]; lia) (hp_dot (hpL_app (hpL_rev hW) (o1 d hd))))
 have a4:=ansSB_at (hA (W++[c]) (by rw[List.length_append,List.length_singleton]; lia) (hp_dot (hpL_app hW (o1 c hc))))
 rw[← hu] at a3
 rw[← hv] at a4
 have e0:∀ (σ:Sto) (k:Fl→Cx→Sto→Option β),exK (G2 T (elF e) P (own1 A)) (n+59) ⟨dL.names,V9 (S (dbl0 W)) (S W) (S [c]) (S [d]) m u0 v0⟩ σ (b6 0) k=k .nxt ⟨dL.names,V7 (S (dbl0 W)) (S W) (S [c]) (S [d]) m (lapsL ((dbl0 W).reverse++[c])) (lapsL (dbl0 W++[c]))⟩ σ:=fun σ k=>by
  refine (lw_60b T e P A (n+19) (S (dbl0 W)) (S W) (S [c]) (S [d]) m u0 v0 σ k).trans ?_
  rw[S_len,gp (by lia),sli_rev,S_app,S_app,gp (by rw[S_len,List.length_append,List.length_reverse,List.length_singleton]; lia),a1,liftK_some,gp (by rw[S_len,List.length_append,List.length_singleton]; lia),a2,liftK_some]
  exact congrArg (fun o=>opt o fun cx'=>k .nxt cx' σ) (lw_60tb (S (dbl0 W)) (S W) (S [c]) (S [d]) m u0 v0 _ _)
 have e1:∀ (σ:Sto) (k:Fl→Cx→Sto→Option β),exK (G2 T (elF e) P (own1 A)) (n+58) ⟨dL.names,V7 (S (dbl0 W)) (S W) (S [c]) (S [d]) m (lapsL ((dbl0 W).reverse++[c])) (lapsL (dbl0 W++[c]))⟩ σ (b6 1) k=k .nxt ⟨dL.names,V7 (S (dbl0 W)) (S W) (S [c]) (S [d]) m (lapsL ((dbl0 W).reverse++[c])) (lapsL (dbl0 W++[c]))⟩ σ:=fun σ k=>by
  refine (lw_61 T e P A (n+18) (S (dbl0 W)) (S W) (S [c]) (S [d]) m _ _ σ k).trans ?_
  rw[S_len,gp (by lia),sli_rev,S_app,S_app,gp (by rw[S_len,List.length_append,List.length_reverse,List.length_singleton]; lia),a3,liftK_some,gp (by rw[S_len,List.length_append,List.length_singleton]; lia),a4,liftK_some]
  exact (ne_bb ..).trans (onB_F ..)
 obtain⟨vf',e2⟩:∃ vf',∀ k:Fl→Cx→Sto→Option β,exK (G2 T (elF e) P (own1 A)) (n+57) ⟨dL.names,V7 (S (dbl0 W)) (S W) (S [c]) (S [d]) m (lapsL ((dbl0 W).reverse++[c])) (lapsL (dbl0 W++[c]))⟩ [c0,c1,c2,⟨vf,.lst (fs.map gS)⟩,⟨vb,.lst (bs.map gS)⟩] (b6 2) k=k .nxt ⟨dL.names,V7 (S (dbl0 W)) (S W) (S [c]) (S [d]) m (lapsL ((dbl0 W).reverse++[c])) (lapsL (dbl0 W++[c]))⟩ [c0,c1,c2,⟨vf',.lst ((fs++addL (lapsL ((dbl0 W).reverse++[c])) c).map gS)⟩,⟨vb,.lst (bs.map gS)⟩]:=by
  have h:=fun k:Fl→Cx→Sto→Option β=>lw_62 T e P A (n+17) (S (dbl0 W)) (S W) (S [c]) (S [d]) m (lapsL ((dbl0 W).reverse++[c])) (lapsL (dbl0 W++[c])) c0 c1 c2 vf vb (fs.map gS) (bs.map gS) k
  cases hx:lapsL ((dbl0 W).reverse++[c]) with
  | true=>
   rw[hx] at h
   exact⟨vf,fun k=>(h k).trans ((onB_F ..).trans (by rw[show fs++addL true c=fs from List.append_nil fs]))⟩
  | false=>
   rw[hx] at h
   exact⟨vf+1,fun k=>(h k).trans ((onB_T ..).trans ((gp (by rw[List.length_map]; exact Nat.le_trans hfs (by decide))).trans (by rw[List.map_append]; rfl)))⟩
 obtain⟨vb',e3⟩:∃ vb',∀ k:Fl→Cx→Sto→Option β,exK (G2 T (elF e) P (own1 A)) (n+56) ⟨dL.names,V7 (S (dbl0 W)) (S W) (S [c]) (S [d]) m (lapsL ((dbl0 W).reverse++[c])) (lapsL (dbl0 W++[c]))⟩ [c0,c1,c2,⟨vf',.lst ((fs++addL (lapsL ((dbl0 W).reverse++[c])) c).map gS)⟩,⟨vb,.lst (bs.map gS)⟩] (b6 3) k=k .nxt ⟨dL.names,V7 (S (dbl0 W)) (S W) (S [c]) (S [d]) m (lapsL ((dbl0 W).reverse++[c])) (lapsL (dbl0 W++[c]))⟩ [c0,c1,c2,⟨vf',.lst ((fs++addL (lapsL ((dbl0 W).reverse++[c])) c).map gS)⟩,⟨vb',.lst ((bs++addL (lapsL (dbl0 W++[c])) c).map gS)⟩]:=by
  have h:=fun k:Fl→Cx→Sto→Option β=>lw_63 T e P A (n+16) (S (dbl0 W)) (S W) (S [c]) (S [d]) m (lapsL ((dbl0 W).reverse++[c])) (lapsL (dbl0 W++[c])) c0 c1 c2 vf' vb ((fs++addL (lapsL ((dbl0 W).reverse++[c])) c).map gS) (bs.map gS) k
  cases hx:lapsL (dbl0 W++[c]) with
  | true=>
   rw[hx] at h
   exact⟨vb,fun k=>(h k).trans ((onB_F ..).trans (by rw[show bs++addL true c=bs from List.append_nil bs]))⟩
  | false=>
   rw[hx] at h
   exact⟨vb+1,fun k=>(h k).trans ((onB_T ..).trans ((gp (by rw[List.length_map]; exact Nat.le_trans hbs (by decide))).trans (by rw[show (bs++addL false c).map gS=bs.map gS++[gS [c]] from List.map_append]; rfl)))⟩
 refine⟨vf',vb',fun k=>turnN (lw_6tb (S (dbl0 W)) (S W) (S [c]) (S [d]) x0 y0 m u0 v0) (fun k=>?_) k⟩
 rw[lw_6B]
 exact seqN (e0 _) (seqN (e1 _) (seqN e2 (seqN e3 rfl)))
end
theorem V7_8 (tw w x y:Str)(m:Int)(u v:Bool):V7 tw w x y m u v=V8 tw w x y m (.bool u) (.bool v):=by kernel_rfl!
noncomputable def tvX (x y:Str)(u v:Bool):Nat→PV
 | 0=> .bool v
 | 1=> .bool u
 | 2=> .str y
 | _=> .str x
theorem V10_11 (tw w x y z:Str)(m:Int)(u v:Bool):V10 tw w x y z m u v=V11 tw w z m (tvX x y u v):=by kernel_rfl!
theorem s7 {β:Type}(T:Int→Option Str){e:Str→Str→Option Bool}(P:Fn){A:Ans1}(hF:FoOk A){W:List Nat}(hl:W.length≤50)(tw x y:Str)(u v:Bool)(m:Nat)(n:Nat)(c0 c1 c2:Cell)(vf vb:Nat)(fs bs:List (List Nat))(h1:fs≠[])(h2:bs≠[])
  (h3:fs.length≤100) (h4:bs.length≤100) (h5:∀ f∈fs,hpL f∧f.length≤50) (h6:∀ f∈bs,hpL f∧f.length≤50):
  ∃ f∈fs,∃ b∈bs,∃ tv:Nat→PV,∀ k:Fl→Cx→Sto→Option β,exK (G2 T (elF e) P (own1 A)) (n+40) ⟨dL.names,V7 tw (S W) x y m u v⟩ [c0,c1,c2,⟨vf,.lst (fs.map gS)⟩,⟨vb,.lst (bs.map gS)⟩] (stAt dL 7) k=
   k .nxt ⟨dL.names,V11 tw (S W) (S (folded f W b)) m tv⟩ [c0,c1,c2,⟨vf,.lst (fs.map gS)⟩,⟨vb,.lst (bs.map gS)⟩]:=by
 have i1:m % fs.length < fs.length:=Nat.mod_lt _ (List.length_pos_iff.mpr h1)
 have i2:m / 3 % bs.length < bs.length:=Nat.mod_lt _ (List.length_pos_iff.mpr h2)
 have j1:m % fs.length < (fs.map gS).length:=by rw[List.length_map]; exact i1
 have j2:m / 3 % bs.length < (bs.map gS).length:=by rw[List.length_map]; exact i2
 have n1:fs.length≠0:=fun h=>h1 (List.length_eq_zero_iff.mp h)
 have n2:bs.length≠0:=fun h=>h2 (List.length_eq_zero_iff.mp h)
 have m1:fs[m % fs.length]∈fs:=List.getElem_mem i1
 have m2:bs[m / 3 % bs.length]∈bs:=List.getElem_mem i2
 have hfo:=hF fs[m % fs.length] W bs[m / 3 % bs.length] m (h5 _ m1).1 (h6 _ m2).1 (h5 _ m1).2 (h6 _ m2).2 (Nat.le_trans hl (by decide))
 refine⟨_,m1,_,m2,tvX x y u v,fun k=>?_⟩
 refine (lw_7 T e P A n tw (S W) x y m u v c0 c1 c2 vf vb (fs.map gS) (bs.map gS) k).trans ?_
 rw[List.length_map,List.length_map,gp (Nat.le_trans h3 (by decide)),if_neg (by lia),show Int.fmod (m:Int) (fs.length:Int)=((m % fs.length:Nat):Int) from fmod_nat _ _]
 refine (subK_nat _ 3 _ (fs.map gS) _ rfl j1 (by rw[List.length_map]; exact Nat.le_trans h3 (by decide))).trans ?_
 rw[gp (Nat.le_trans h4 (by decide)),if_neg (by lia),show Int.fmod (Int.fdiv (m:Int) 3) (bs.length:Int)=((m / 3 % bs.length:Nat):Int) by rw[show Int.fdiv (m:Int) 3=((m / 3:Nat):Int) from fdiv_nat m 3]; exact fmod_nat _ _]
 refine (subK_nat _ 4 _ (bs.map gS) _ rfl j2 (by rw[List.length_map]; exact Nat.le_trans h4 (by decide))).trans ?_
 rw[List.getElem_map,List.getElem_map]
 show liftK (ansFold A.fo [.str (S fs[m % fs.length]),.str (S W),.str (S bs[m / 3 % bs.length]),.int (m:Int)] _) _=_
 rw[ansFold_at hfo,liftK_some]
 refine (congrArg (fun o=>opt o fun cx'=>k .nxt cx' _) (lw_7t tw (S W) x y _ m u v)).trans ?_
 rw[V10_11]
 rfl
noncomputable def frontsL (w:List Nat):List (List Nat):=[[]]++addL (lapsL ((dbl0 w).reverse++[104])) 104++addL (lapsL ((dbl0 w).reverse++[112])) 112
noncomputable def backsL (w:List Nat):List (List Nat):=[[]]++addL (lapsL (dbl0 w++[104])) 104++addL (lapsL (dbl0 w++[112])) 112
structure WordOk (w:List Nat):Prop where
 len:w.length≤50
 hp:hpL w
 big:9≤w.length∨([("hhpphhpp":Str),"pphhpphh"].any fun t=>t==S w)=true
 u1:lapsL ((dbl0 w).reverse++[104])=lapsL (w.reverse++[112])
 v1:lapsL (dbl0 w++[104])=lapsL (w++[104])
 u2:lapsL ((dbl0 w).reverse++[112])=lapsL (w.reverse++[104])
 v2:lapsL (dbl0 w++[112])=lapsL (w++[112])
 all:∀ f∈frontsL w,∀ b∈backsL w,∃ f0 b0 f1 b1,Whole (folded f w b) f0 b0 f1 b1
theorem addL_hp {u:Bool}{c:Nat}(hc:hp c):∀ f∈addL u c,hpL f∧f.length≤50:=by
 cases u with
 | true=>exact fun f h=>absurd h List.not_mem_nil
 | false=>exact fun f h=>by rw[List.mem_singleton.mp h]; exact⟨fun y hy=>List.mem_singleton.mp hy▸hc,Nat.le_of_ble_eq_true rfl⟩
theorem three_hp {a b:List (List Nat)}(ha:∀ f∈a,hpL f∧f.length≤50)(hb:∀ f∈b,hpL f∧f.length≤50):∀ f∈[[]]++a++b,hpL f∧f.length≤50:=fun f h=>
 (List.mem_append.mp h).elim (fun h=>(List.mem_append.mp h).elim (fun h=>by rw[List.mem_singleton.mp h]; exact⟨fun y hy=>absurd hy List.not_mem_nil,by decide⟩) (ha f)) (hb f)
theorem addL_len (u:Bool)(c:Nat):(addL u c).length≤1:=by
 cases u with
 | true=>exact Nat.zero_le _
 | false=>exact Nat.le_refl _
theorem three_len {a b:List (List Nat)}(ha:a.length≤1)(hb:b.length≤1):([[]]++a++b).length≤100:=by
 rw[List.length_append,List.length_append,List.length_singleton]
 lia
noncomputable def GrOk (A:Ans1):Prop:=∀ n0 n1 n2 n3 n4 n5 n6 n7 n8 n9:Nat,A.gr (natI [n0,n1,n2,n3,n4,n5,n6,n7,n8,n9])=some (S (grownL n0 [n1,n2,n3,n4,n5,n6,n7,n8]))
section
variable (T:Int→Option Str){e:Str→Str→Option Bool}(P:Fn)(H:EllOk e){A:Ans1}(hA:LaOk A)(hC:CuOk A)(hF:FoOk A)(hG:GrOk A)
include H hA hC hF in
theorem law_word (W:List Nat)(hW:WordOk W)(m:Nat)(c0 c1 c2:Cell):∃ σ',exsK (G2 T (elF e) P (own1 A)) 1997 ⟨dL.names,V3 (S W) m⟩ [c0,c1,c2] [stAt dL 3,stAt dL 4,stAt dL 5,stAt dL 6,stAt dL 7,stAt dL 8,stAt dL 9,stAt dL 10,stAt dL 11,stAt dL 12,stAt dL 13,stAt dL 14,stAt dL 15] endK=some (.bool true,σ')∧σ'[0]?=some c0:=by
 have hlen:=hW.len
 have t3:∀ k:Fl→Cx→Sto→Option (PV×Sto),exK (G2 T (elF e) P (own1 A)) 1996 ⟨dL.names,V3 (S W) m⟩ [c0,c1,c2] (stAt dL 3) k=k .nxt ⟨dL.names,V3 (S W) m⟩ [c0,c1,c2]:=fun k=>by
  refine (lw_3 T e P A 1956 (S W) m _ k).trans ?_
  rw[S_len,gp (by lia)]
  rcases hW.big with h | h
  ·rw[decide_eq_false (by lia)]
   exact onB_F ..
  ·rw[h]
   cases decide ((W.length:Int) < 9) <;> rfl
 have hfo:=hF [] W [] m (fun y hy=>absurd hy List.not_mem_nil) (fun y hy=>absurd hy List.not_mem_nil) (by decide) (by decide) (Nat.le_trans hlen (by decide))
 have t4:∀ (σ:Sto) (k:Fl→Cx→Sto→Option (PV×Sto)),exK (G2 T (elF e) P (own1 A)) 1995 ⟨dL.names,V3 (S W) m⟩ σ (stAt dL 4) k=k .nxt ⟨dL.names,V4 (S (dbl0 W)) (S W) m⟩ σ:=fun σ k=>by
  refine (lw_4 T e P A 1955 (S W) m _ k).trans ?_
  show liftK (ansFold A.fo [.str (S []),.str (S W),.str (S []),.int (m:Int)] _) _=_
  rw[ansFold_at hfo,liftK_some]
  exact congrArg (fun o=>opt o fun cx'=>k .nxt cx' _) (lw_4t (S (dbl0 W)) (S W) m)
 have t5:=fun k=>lw_5 (β:=PV×Sto) T e P A 1954 (S (dbl0 W)) (S W) m c0 c1 c2 k
 obtain⟨vf1,vb1,e1⟩:=s6a (β:=PV×Sto) T (e:=e) P hA hW.hp hlen m 1931 c0 c1 c2 0 0 [[]] [[]] (by decide) (by decide) 104 112 (.inl rfl) (.inr rfl) hW.u1 hW.v1
 rw[V7_8] at e1
 obtain⟨vf2,vb2,e2⟩:=s6b (β:=PV×Sto) T (e:=e) P hA hW.hp hlen m (S [104]) (S [112]) (.bool (lapsL ((dbl0 W).reverse++[104]))) (.bool (lapsL (dbl0 W++[104]))) 1930 c0 c1 c2 vf1 vb1 ([[]]++addL (lapsL ((dbl0 W).reverse++[104])) 104) ([[]]++addL (lapsL (dbl0 W++[104])) 104)
  (Nat.le_trans (Nat.le_of_eq List.length_append) (Nat.le_trans (Nat.add_le_add_left (addL_len _ _) 1) (by decide))) (Nat.le_trans (Nat.le_of_eq List.length_append) (Nat.le_trans (Nat.add_le_add_left (addL_len _ _) 1) (by decide))) 112 104 (.inr rfl) (.inl rfl) hW.u2 hW.v2
 have t6:=forN (G:=G2 T (elF e) P (own1 A)) (n:=1992) lw_6s (fun K=>lw_6i T e P A 1972 (S (dbl0 W)) (S W) m _ K) fun k=>loopN rfl e1 (loopN rfl e2 (exForK_nil 1989 _ _ _ _ _ k rfl))
 obtain⟨f,hf,b,hb,tv,t7⟩:=s7 (β:=PV×Sto) T (e:=e) P hF hlen (S (dbl0 W)) (S [112]) (S [104]) (lapsL ((dbl0 W).reverse++[112])) (lapsL (dbl0 W++[112])) m 1952 c0 c1 c2 vf2 vb2 (frontsL W) (backsL W) (by unfold frontsL; exact List.cons_ne_nil _ _) (by unfold backsL; exact List.cons_ne_nil _ _)
  (three_len (addL_len _ _) (addL_len _ _)) (three_len (addL_len _ _) (addL_len _ _)) (three_hp (addL_hp (.inl rfl)) (addL_hp (.inr rfl))) (three_hp (addL_hp (.inl rfl)) (addL_hp (.inr rfl)))
 obtain⟨f0,b0,f1,b1,Wz⟩:=hW.all f hf b hb
 obtain⟨σ',e8,h0⟩:=law_tail T P H A hC hF (S (dbl0 W)) (S W) m tv Wz c0 c1 c2 ⟨vf2,.lst ((frontsL W).map gS)⟩ ⟨vb2,.lst ((backsL W).map gS)⟩
 exact⟨σ',seqN t3 (seqN (t4 _) (seqN t5 (seqN t6 (seqN t7 e8)))),h0⟩
end
theorem fmNat (x:Int):∃ a:Nat,Int.fmod x 1000000=a:=⟨(Int.fmod x 1000000).toNat,by
 have:0≤Int.fmod x 1000000:=by rw[Int.fmod_eq_emod_of_nonneg _ (by decide)]; lia
 lia⟩
noncomputable def fNum (script:List Int):PV→Option PV
 | .tup [a,b]=>match a with
  | .int i=>match b with
   | .int w=>some (.int (Int.fmod (w+script.getD i.toNat 0) 1000000))
   | _=>none
  | _=>none
 | _=>none
noncomputable def bNum:PV→LE
 | .tup [a,b]=>("own",b)::("k",a)::lC1
 | _=>lC1
noncomputable def own10:List Int:=[0,0,0,3,1,2,1,0,3,33]
theorem enumed_mem:∀ (l:List Int) (n:Nat) {v:PV},v∈enumed n (iL l)→∃ (i:Nat) (w:Int),v= .tup [.int (i:Int),.int w]
 | [],_,_,h=>absurd h List.not_mem_nil
 | x::l,n,v,h=>(List.mem_cons.mp h).elim (fun e=>⟨n,x,e⟩) fun h=>enumed_mem l (n+1) h
theorem bNum_or (u:PV):bNum u=lC1∨∃ a b:PV,bNum u=((("own":Str),b)::(("k":Str),a)::lC1:LE):=by
 unfold bNum
 split
 ·exact .inr ⟨_,_,rfl⟩
 ·exact .inl rfl
theorem num_at {β:Type}(T:Int→Option Str){e:Str→Str→Option Bool}(P:Fn)(A:Ans1)(script:List Int)(hs:script.length≤1000)(v i:Nat)(w:Int)(n:Nat)(K:Option PV→Sto→Option β):
  compB (G2 T (elF e) P (own1 A)) (n+20) ⟨lcN eL1,("own",.int w)::("k",.int (i:Int))::lC1⟩ [⟨v,.lst (iL script)⟩] eL1 K=K (some (.int (Int.fmod (w+script.getD i 0) 1000000))) [⟨v,.lst (iL script)⟩]:=by
 rw[lw_1c,gp (by rw[iL_len]; exact Nat.le_trans hs (by decide)),iL_len]
 by_cases hi:i < script.length
 ·rw[decide_eq_true (by lia)]
  refine (onB_T ..).trans ((subK_nat _ 0 i (iL script) _ rfl (by rw[iL_len]; exact hi) (by rw[iL_len]; exact Nat.le_trans hs (by decide))).trans ?_)
  have:(iL script)[i]'(by rw[iL_len]; exact hi)= .int script[i]:=List.getElem_map ..
  rw[this,List.getD_eq_getElem?_getD,List.getElem?_eq_getElem hi]
  exact mod_at (w+script[i]) 1000000 (by decide) _ (fun r σ=>K (some r) σ)
 ·rw[decide_eq_false (by lia),List.getD_eq_getElem?_getD,List.getElem?_eq_none (by lia)]
  rfl
section
variable (T:Int→Option Str){e:Str→Str→Option Bool}(P:Fn)(H:EllOk e){A:Ans1}(hA:LaOk A)(hC:CuOk A)(hF:FoOk A)(hG:GrOk A)
theorem pvN_iL (l:List Nat):iL (natI l)=pvN l:=iL_mem
include H hA hC hF hG in
theorem law1_run (hW:∀ n0 n1 n2 n3 n4 n5 n6 n7 n8:Nat,WordOk (grownL n0 [n1,n2,n3,n4,n5,n6,n7,n8]))(v:Nat)(script:List Int)(hs:script.length≤1000):
  ∃ σ',runDK (G2 T (elF e) P (own1 A)) 2000 dL [.lst 0] [⟨v,.lst (iL script)⟩]=some (.bool true,σ')∧σ'[0]?=some ⟨v,.lst (iL script)⟩:=by
 rw[runDK_at (le:=[("script",.lst 0)]) dL_params rfl rfl,dL_body]
 have C:=fun k=>lc_items (G:=G2 T (elF e) P (own1 A)) (M:=1996) (σ:=[⟨v,.lst (iL script)⟩]) (items:=enumed 0 (iL own10)) (by decide) lw_1l (fun K=>lw_1i (β:=PV×Sto) T e P A 1991 [⟨v,.lst (iL script)⟩] K) bNum (fNum script) (fun v hv=>by
   obtain⟨i,w,rfl⟩:=enumed_mem own10 0 hv
   exact lw_1a _ _) (fun v hv u=>by
   obtain⟨i,w,rfl⟩:=enumed_mem own10 0 hv
   rcases bNum_or u with hu | ⟨a,b,hu⟩ <;> rw[hu]
   ·exact lw_1a _ _
   ·exact lw_1b _ _ _ _) (fun v hv n K=>by
   obtain⟨i,w,rfl⟩:=enumed_mem own10 0 hv
   exact num_at T P A script hs _ _ _ n K) (by decide) k
 obtain⟨n0,e0⟩:=fmNat (0+script.getD 0 0)
 obtain⟨n1,e1⟩:=fmNat (0+script.getD 1 0)
 obtain⟨n2,e2⟩:=fmNat (0+script.getD 2 0)
 obtain⟨n3,e3⟩:=fmNat (3+script.getD 3 0)
 obtain⟨n4,e4⟩:=fmNat (1+script.getD 4 0)
 obtain⟨n5,e5⟩:=fmNat (2+script.getD 5 0)
 obtain⟨n6,e6⟩:=fmNat (1+script.getD 6 0)
 obtain⟨n7,e7⟩:=fmNat (0+script.getD 7 0)
 obtain⟨n8,e8⟩:=fmNat (3+script.getD 8 0)
 obtain⟨n9,e9⟩:=fmNat (33+script.getD 9 0)
 have en:(enumed 0 (iL own10)).filterMap (fNum script)=pvN [n0,n1,n2,n3,n4,n5,n6,n7,n8,n9]:=by
  show [PV.int (Int.fmod (0+script.getD 0 0) 1000000),PV.int (Int.fmod (0+script.getD 1 0) 1000000),PV.int (Int.fmod (0+script.getD 2 0) 1000000),PV.int (Int.fmod (3+script.getD 3 0) 1000000),PV.int (Int.fmod (1+script.getD 4 0) 1000000),PV.int (Int.fmod (2+script.getD 5 0) 1000000),PV.int (Int.fmod (1+script.getD 6 0) 1000000),PV.int (Int.fmod (0+script.getD 7 0) 1000000),PV.int (Int.fmod (3+script.getD 8 0) 1000000),PV.int (Int.fmod (33+script.getD 9 0) 1000000)]=_
  rw[e0,e1,e2,e3,e4,e5,e6,e7,e8,e9]
  rfl
 rw[en] at C
 have t1:=fun k=>asgN (G:=G2 T (elF e) P (own1 A)) (n:=1997) lw_1s C lw_1t k
 have hg:=hG n0 n1 n2 n3 n4 n5 n6 n7 n8 n9
 have hi:intsOf (pvN [n0,n1,n2,n3,n4,n5,n6,n7,n8,n9])=some (natI [n0,n1,n2,n3,n4,n5,n6,n7,n8,n9]):=by rw[← pvN_iL]; exact intsOf_iL _
 have ga:∀ σ:Sto,getL σ 1=some (pvN [n0,n1,n2,n3,n4,n5,n6,n7,n8,n9])→ansGr A.gr [.lst 1] σ=some (.str (S (grownL n0 [n1,n2,n3,n4,n5,n6,n7,n8])),σ++[⟨0,.lst (pvN [n1,n2,n3,n4,n5,n6,n7,n8])⟩]):=fun σ h=>by
  have s1:ansGr A.gr [.lst 1] σ=opt (getL σ 1) fun xs=>opt (intsOf xs) fun l=>opt (A.gr l) fun r=>some (.str r,σ++[⟨0,.lst ((xs.drop 1).take 8)⟩]):=rfl
  rw[s1,h]
  have s2:∀ (xs:List PV) (f:List PV→Option (PV×Sto)),opt (some xs) f=f xs:=fun _ _=>rfl
  rw[s2,hi]
  have s3:∀ (xs:List Int) (f:List Int→Option (PV×Sto)),opt (some xs) f=f xs:=fun _ _=>rfl
  rw[s3,hg]
  rfl
 have t2:∀ k:Fl→Cx→Sto→Option (PV×Sto),exK (G2 T (elF e) P (own1 A)) 1997 ⟨dL.names,V2⟩ ([⟨v,.lst (iL script)⟩]++[⟨0,.lst (pvN [n0,n1,n2,n3,n4,n5,n6,n7,n8,n9])⟩]) (stAt dL 2) k=
   k .nxt ⟨dL.names,V3 (S (grownL n0 [n1,n2,n3,n4,n5,n6,n7,n8])) n9⟩ ([⟨v,.lst (iL script)⟩,⟨0,.lst (pvN [n0,n1,n2,n3,n4,n5,n6,n7,n8,n9])⟩,⟨0,.lst (pvN [n1,n2,n3,n4,n5,n6,n7,n8])⟩]):=fun k=>by
  refine (lw_2 T e P A 1957 _ k).trans ?_
  rw[ga _ rfl,liftK_some]
  refine (subK_nat _ 1 9 (pvN [n0,n1,n2,n3,n4,n5,n6,n7,n8,n9]) _ rfl (Nat.le_of_ble_eq_true rfl) (Nat.le_of_ble_eq_true rfl)).trans ?_
  exact congrArg (fun o=>opt o fun cx'=>k .nxt cx' _) (lw_2t (S (grownL n0 [n1,n2,n3,n4,n5,n6,n7,n8])) n9)
 obtain⟨σ',h1,h2⟩:=law_word T P H hA hC hF (grownL n0 [n1,n2,n3,n4,n5,n6,n7,n8]) (hW n0 n1 n2 n3 n4 n5 n6 n7 n8) n9 ⟨v,.lst (iL script)⟩ ⟨0,.lst (pvN [n0,n1,n2,n3,n4,n5,n6,n7,n8,n9])⟩ ⟨0,.lst (pvN [n1,n2,n3,n4,n5,n6,n7,n8])⟩
 exact⟨σ',seqN (fun k=>lw_0 T e P A 1959 _ k) (seqN t1 (seqN t2 h1)),h2⟩
end
noncomputable def hpB (l:List Nat):Bool:=l.all fun c=>Nat.beq c 104 || Nat.beq c 112
noncomputable def listB:List Nat→List Nat→Bool
 | [],[]=>true
 | a::l,b::m=>Nat.beq a b&&listB l m
 | _,_=>false
noncomputable def wholeR (z f0 b0 f1 b1:List Nat):Bool:=stepOk z f0 b0&&(stepOk (nextL z f0 b0) f1 b1&&(listB (folded f0 (folded f1 (nextL (nextL z f0 b0) f1 b1) b1) b0) z&&(((List.range ((z.length+1) / 2 - 1)).all fun j=>(ovl z (1+j)).isEmpty)&&
 (hpB f0&&(hpB b0&&(hpB f1&&(hpB b1&&(decide ((nextL (nextL z f0 b0) f1 b1).length≤100)&&decide ((folded f1 (nextL (nextL z f0 b0) f1 b1) b1).length≤100)))))))))
noncomputable def only {β:Type}(l:List (List Nat×List Nat))(d:β)(f:List Nat→List Nat→β):β:=match l with
 | []=>d
 | x::l=>match l with
  | []=>f x.1 x.2
  | _::_=>d
noncomputable def wholeQ (z:List Nat):Bool:=only (cutsL z) false fun f0 b0=>only (cutsL (nextL z f0 b0)) false fun f1 b1=>wholeR z f0 b0 f1 b1
noncomputable def boolB2 (a b:Bool):Bool:=match a with
 | true=>b
 | false=>!b
noncomputable def wordQ (w:List Nat):Bool:=decide (w.length≤50)&&(hpB w&&((decide (9≤w.length) || [("hhpphhpp":Str),"pphhpphh"].any fun t=>t==S w)&&(boolB2 (lapsL ((dbl0 w).reverse++[104])) (lapsL (w.reverse++[112]))&&(boolB2 (lapsL (dbl0 w++[104])) (lapsL (w++[104]))&&
 (boolB2 (lapsL ((dbl0 w).reverse++[112])) (lapsL (w.reverse++[104]))&&(boolB2 (lapsL (dbl0 w++[112])) (lapsL (w++[112]))&&(frontsL w).all fun f=>(backsL w).all fun b=>wholeQ (folded f w b)))))))
noncomputable def insL (l:List (List Nat))(w:List Nat):List (List Nat):=match l.any fun x=>listB x w with
 | true=>l
 | false=>w::l
noncomputable def reachL:Nat→List (List Nat)
 | 0=>[[104],[112]]
 | n+1=>((reachL n).flatMap fun w=>[grStep w 0,grStep w 1,grStep w 2,grStep w 3]).foldl insL []
theorem hpB_t {l:List Nat}(h:hpB l=true):hpL l:=fun c hc=>((Bool.or_eq_true ..).mp (List.all_eq_true.mp h c hc)).imp Nat.eq_of_beq_eq_true Nat.eq_of_beq_eq_true
theorem listB_t:∀ {a b:List Nat},listB a b=true→a=b
 | [],[],_=>rfl
 | a::l,b::m,h=>by
  obtain⟨h1,h2⟩:=and_tt (show (Nat.beq a b&&listB l m)=true from h)
  rw[Nat.eq_of_beq_eq_true h1,listB_t h2]
 | [],_::_,h=>Bool.noConfusion h
 | _::_,[],h=>Bool.noConfusion h
theorem boolB2_t {a b:Bool}(h:boolB2 a b=true):a=b:=by
 cases a <;> cases b <;> first | rfl | exact Bool.noConfusion h
theorem only_t {l:List (List Nat×List Nat)}{f:List Nat→List Nat→Bool}(h:only l false f=true):∃ a b,f a b=true:=by
 cases l with
 | nil=>exact Bool.noConfusion h
 | cons x l=>
  cases l with
  | nil=>exact⟨x.1,x.2,h⟩
  | cons _ _=>exact Bool.noConfusion h
theorem wholeQ_t {z:List Nat}(h:wholeQ z=true):∃ f0 b0 f1 b1,Whole z f0 b0 f1 b1:=by
 obtain⟨f0,b0,h⟩:=only_t h
 obtain⟨f1,b1,h⟩:=only_t h
 obtain⟨h1,h⟩:=and_tt h
 obtain⟨h2,h⟩:=and_tt h
 obtain⟨h3,h⟩:=and_tt h
 obtain⟨h4,h⟩:=and_tt h
 obtain⟨h5,h⟩:=and_tt h
 obtain⟨h6,h⟩:=and_tt h
 obtain⟨h7,h⟩:=and_tt h
 obtain⟨h8,h⟩:=and_tt h
 obtain⟨h9,h10⟩:=and_tt h
 exact⟨f0,b0,f1,b1,stepOk_t h1,stepOk_t h2,listB_t h3,fun j hj=>List.isEmpty_iff.mp (List.all_eq_true.mp h4 j hj),hpB_t h5,hpB_t h6,hpB_t h7,hpB_t h8,of_decide_eq_true h9,of_decide_eq_true h10⟩
theorem wordQ_t {w:List Nat}(h:wordQ w=true):WordOk w:=by
 obtain⟨h1,h⟩:=and_tt h
 obtain⟨h2,h⟩:=and_tt h
 obtain⟨h3,h⟩:=and_tt h
 obtain⟨h4,h⟩:=and_tt h
 obtain⟨h5,h⟩:=and_tt h
 obtain⟨h6,h⟩:=and_tt h
 obtain⟨h7,h8⟩:=and_tt h
 exact⟨of_decide_eq_true h1,hpB_t h2,((Bool.or_eq_true ..).mp h3).imp of_decide_eq_true id,boolB2_t h4,boolB2_t h5,boolB2_t h6,boolB2_t h7,fun f hf b hb=>wholeQ_t (List.all_eq_true.mp (List.all_eq_true.mp h8 f hf) b hb)⟩
theorem ins_mem {l:List (List Nat)}{w x:List Nat}(h:x∈l∨x=w):x∈insL l w:=by
 unfold insL
 cases hx:l.any fun x=>listB x w with
 | true=>
  refine h.elim id fun e=>?_
  obtain⟨y,hy,hw⟩:=List.any_eq_true.mp hx
  rw[e,← listB_t hw]
  exact hy
 | false=>exact h.elim (List.mem_cons_of_mem _) fun e=>e▸List.mem_cons_self
theorem fold_mem {x:List Nat}:∀ (l acc:List (List Nat)),x∈acc∨x∈l→x∈l.foldl insL acc
 | [],acc,h=>h.elim id fun h=>absurd h List.not_mem_nil
 | w::l,acc,h=>fold_mem l (insL acc w) (h.elim (fun h=> .inl (ins_mem (.inl h))) fun h=>(List.mem_cons.mp h).elim (fun e=> .inl (ins_mem (.inr e))) .inr)
theorem grBeh_mod (m k:Nat):grBeh m k=grBeh (m % 4) k:=by
 unfold grBeh
 rw[show (m / 2+k / 2) % 2=(m % 4 / 2+k / 2) % 2 by omega]
theorem hpC_mod (m k:Nat):hpC (m+k)=hpC (m % 4+k):=by
 unfold hpC
 rw[show (m+k) % 2=(m % 4+k) % 2 by omega]
theorem grW_mod (w:List Nat)(m:Nat):∀ ks,grW w m ks=grW w (m % 4) ks
 | []=>rfl
 | k::ks=>by
  show (match lapsL (grTe w m k) with | true=>grW w m ks | false=>grLo w m k)=(match lapsL (grTe w (m % 4) k) with | true=>grW w (m % 4) ks | false=>grLo w (m % 4) k)
  have h1:grTe w m k=grTe w (m % 4) k:=by unfold grTe; rw[grBeh_mod,hpC_mod]
  have h2:grLo w m k=grLo w (m % 4) k:=by unfold grLo; rw[grBeh_mod,hpC_mod]
  rw[h1,h2,grW_mod w m ks]
theorem four_mem (w:List Nat)(m:Nat):grStep w m∈[grStep w 0,grStep w 1,grStep w 2,grStep w 3]:=by
 rw[show grStep w m=grStep w (m % 4) from grW_mod w m _]
 have h:m % 4 < 4:=Nat.mod_lt _ (by decide)
 generalize m % 4=y at h
 rcases y with _ | _ | _ | _ | y
 ·exact List.mem_cons_self
 ·exact List.mem_cons_of_mem _ List.mem_cons_self
 ·exact List.mem_cons_of_mem _ (List.mem_cons_of_mem _ List.mem_cons_self)
 ·exact List.mem_cons_of_mem _ (List.mem_cons_of_mem _ (List.mem_cons_of_mem _ List.mem_cons_self))
 ·omega
theorem reach_step {n m:Nat}{w:List Nat}(h:w∈reachL n):grStep w m∈reachL (n+1):=fold_mem _ _ (.inr (List.mem_flatMap.mpr ⟨w,h,four_mem w m⟩))
theorem reach_0 (n:Nat):[hpC n]∈reachL 0:=by
 rcases hpC_hp n with h | h <;> rw[h]
 ·exact List.mem_cons_self
 ·exact List.mem_cons_of_mem _ List.mem_cons_self
theorem grown_reach (n0 n1 n2 n3 n4 n5 n6 n7 n8:Nat):grownL n0 [n1,n2,n3,n4,n5,n6,n7,n8]∈reachL 8:=
 reach_step (reach_step (reach_step (reach_step (reach_step (reach_step (reach_step (reach_step (reach_0 n0))))))))
noncomputable def words:List (List Nat):=[[104,104,112,104,104,112,112,104,112],[104,104,112,104,104,112,112,104,104],[112,104,112,104,104,112,112,104,112],[112,104,112,104,104,112,112,104,104],[112,112,104,104,112,112,104,104],[104,112,112,104,104,112,112,104,112],[112,104,112,104,104,112,104,112,112],[104,112,112,104,104,112,104,112,112],[112,112,104,112,104,104,112,112,104],[112,112,104,112,104,104,112,104,112],[112,112,104,104,112,104,112,112,104],[104,112,104,104,112,104,112,112,104],[104,112,112,104,112,104,104,112,112],[104,112,112,104,112,104,104,112,104],[112,104,104,112,104,112,112,104,104],[112,104,104,112,104,112,112,104,112],[104,104,112,112,104,112,104,104,112],[112,104,112,112,104,112,104,104,112],[104,104,112,112,104,104,112,112],[112,104,112,112,104,104,112,112,104],[104,104,112,112,104,104,112,104,112],[104,104,112,112,104,104,112,104,104],[112,104,112,112,104,104,112,104,112],[112,104,112,112,104,104,112,104,104],[112,112,104,112,112,104,104,112,112],[112,112,104,112,112,104,104,112,104],[104,104,112,104,112,112,104,104,112],[104,112,104,112,112,104,104,112,112],[104,112,104,112,112,104,104,112,104],[104,104,112,104,112,112,104,112,104],[104,112,104,112,112,104,112,104,104],[104,112,104,104,112,112,104,104,112],[112,104,104,112,112,104,104,112,104],[112,112,104,104,112,112,104,112,104],[104,112,104,104,112,112,104,112,104],[112,104,104,112,112,104,112,104,104],[112,112,104,104,112,112,104,112,112],[104,112,104,104,112,112,104,112,112]]
theorem reach_8:reachL 8=words:=by kernel_rfl!
theorem wq_0:wordQ [104,104,112,104,104,112,112,104,112]=true:=by kernel_rfl!
theorem wq_1:wordQ [104,104,112,104,104,112,112,104,104]=true:=by kernel_rfl!
theorem wq_2:wordQ [112,104,112,104,104,112,112,104,112]=true:=by kernel_rfl!
theorem wq_3:wordQ [112,104,112,104,104,112,112,104,104]=true:=by kernel_rfl!
theorem wq_4:wordQ [112,112,104,104,112,112,104,104]=true:=by kernel_rfl!
theorem wq_5:wordQ [104,112,112,104,104,112,112,104,112]=true:=by kernel_rfl!
theorem wq_6:wordQ [112,104,112,104,104,112,104,112,112]=true:=by kernel_rfl!
theorem wq_7:wordQ [104,112,112,104,104,112,104,112,112]=true:=by kernel_rfl!
theorem wq_8:wordQ [112,112,104,112,104,104,112,112,104]=true:=by kernel_rfl!
theorem wq_9:wordQ [112,112,104,112,104,104,112,104,112]=true:=by kernel_rfl!
theorem wq_10:wordQ [112,112,104,104,112,104,112,112,104]=true:=by kernel_rfl!
theorem wq_11:wordQ [104,112,104,104,112,104,112,112,104]=true:=by kernel_rfl!
theorem wq_12:wordQ [104,112,112,104,112,104,104,112,112]=true:=by kernel_rfl!
theorem wq_13:wordQ [104,112,112,104,112,104,104,112,104]=true:=by kernel_rfl!
theorem wq_14:wordQ [112,104,104,112,104,112,112,104,104]=true:=by kernel_rfl!
theorem wq_15:wordQ [112,104,104,112,104,112,112,104,112]=true:=by kernel_rfl!
theorem wq_16:wordQ [104,104,112,112,104,112,104,104,112]=true:=by kernel_rfl!
theorem wq_17:wordQ [112,104,112,112,104,112,104,104,112]=true:=by kernel_rfl!
theorem wq_18:wordQ [104,104,112,112,104,104,112,112]=true:=by kernel_rfl!
theorem wq_19:wordQ [112,104,112,112,104,104,112,112,104]=true:=by kernel_rfl!
theorem wq_20:wordQ [104,104,112,112,104,104,112,104,112]=true:=by kernel_rfl!
theorem wq_21:wordQ [104,104,112,112,104,104,112,104,104]=true:=by kernel_rfl!
theorem wq_22:wordQ [112,104,112,112,104,104,112,104,112]=true:=by kernel_rfl!
theorem wq_23:wordQ [112,104,112,112,104,104,112,104,104]=true:=by kernel_rfl!
theorem wq_24:wordQ [112,112,104,112,112,104,104,112,112]=true:=by kernel_rfl!
theorem wq_25:wordQ [112,112,104,112,112,104,104,112,104]=true:=by kernel_rfl!
theorem wq_26:wordQ [104,104,112,104,112,112,104,104,112]=true:=by kernel_rfl!
theorem wq_27:wordQ [104,112,104,112,112,104,104,112,112]=true:=by kernel_rfl!
theorem wq_28:wordQ [104,112,104,112,112,104,104,112,104]=true:=by kernel_rfl!
theorem wq_29:wordQ [104,104,112,104,112,112,104,112,104]=true:=by kernel_rfl!
theorem wq_30:wordQ [104,112,104,112,112,104,112,104,104]=true:=by kernel_rfl!
theorem wq_31:wordQ [104,112,104,104,112,112,104,104,112]=true:=by kernel_rfl!
theorem wq_32:wordQ [112,104,104,112,112,104,104,112,104]=true:=by kernel_rfl!
theorem wq_33:wordQ [112,112,104,104,112,112,104,112,104]=true:=by kernel_rfl!
theorem wq_34:wordQ [104,112,104,104,112,112,104,112,104]=true:=by kernel_rfl!
theorem wq_35:wordQ [112,104,104,112,112,104,112,104,104]=true:=by kernel_rfl!
theorem wq_36:wordQ [112,112,104,104,112,112,104,112,112]=true:=by kernel_rfl!
theorem wq_37:wordQ [104,112,104,104,112,112,104,112,112]=true:=by kernel_rfl!
theorem words_ok:∀ w∈words,wordQ w=true:=List.forall_mem_cons.mpr ⟨wq_0,List.forall_mem_cons.mpr ⟨wq_1,List.forall_mem_cons.mpr ⟨wq_2,List.forall_mem_cons.mpr ⟨wq_3,List.forall_mem_cons.mpr ⟨wq_4,List.forall_mem_cons.mpr ⟨wq_5,List.forall_mem_cons.mpr ⟨wq_6,List.forall_mem_cons.mpr ⟨wq_7,List.forall_mem_cons.mpr ⟨wq_8,List.forall_mem_cons.mpr ⟨wq_9,List.forall_mem_cons.mpr ⟨wq_10,List.forall_mem_cons.mpr ⟨wq_11,List.forall_mem_cons.mpr ⟨wq_12,List.forall_mem_cons.mpr ⟨wq_13,List.forall_mem_cons.mpr ⟨wq_14,List.forall_mem_cons.mpr ⟨wq_15,List.forall_mem_cons.mpr ⟨wq_16,List.forall_mem_cons.mpr ⟨wq_17,List.forall_mem_cons.mpr ⟨wq_18,List.forall_mem_cons.mpr ⟨wq_19,List.forall_mem_cons.mpr ⟨wq_20,List.forall_mem_cons.mpr ⟨wq_21,List.forall_mem_cons.mpr ⟨wq_22,List.forall_mem_cons.mpr ⟨wq_23,List.forall_mem_cons.mpr ⟨wq_24,List.forall_mem_cons.mpr ⟨wq_25,List.forall_mem_cons.mpr ⟨wq_26,List.forall_mem_cons.mpr ⟨wq_27,List.forall_mem_cons.mpr ⟨wq_28,List.forall_mem_cons.mpr ⟨wq_29,List.forall_mem_cons.mpr ⟨wq_30,List.forall_mem_cons.mpr ⟨wq_31,List.forall_mem_cons.mpr ⟨wq_32,List.forall_mem_cons.mpr ⟨wq_33,List.forall_mem_cons.mpr ⟨wq_34,List.forall_mem_cons.mpr ⟨wq_35,List.forall_mem_cons.mpr ⟨wq_36,List.forall_mem_cons.mpr ⟨wq_37,fun _ h=>absurd h List.not_mem_nil⟩⟩⟩⟩⟩⟩⟩⟩⟩⟩⟩⟩⟩⟩⟩⟩⟩⟩⟩⟩⟩⟩⟩⟩⟩⟩⟩⟩⟩⟩⟩⟩⟩⟩⟩⟩⟩⟩
theorem grown_ok (n0 n1 n2 n3 n4 n5 n6 n7 n8:Nat):WordOk (grownL n0 [n1,n2,n3,n4,n5,n6,n7,n8]):=wordQ_t (words_ok _ (reach_8▸grown_reach n0 n1 n2 n3 n4 n5 n6 n7 n8))
noncomputable def onBoolV {β:Type}(v:PV)(f:Bool→Option β):Option β:=match v with
 | .bool b=>f b
 | _=>none
theorem onBoolV_some {β:Type}{r:β}{v:PV}{f:Bool→Option β}(h:onBoolV v f=some r):∃ b,v= .bool b∧f b=some r:=by
 cases v with
 | bool b=>exact⟨b,rfl,h⟩
 | _=>exact nos h
noncomputable def strAns (F:Fn)(args:List PV):Option Str:=opt (F args []) fun p=>onStr p.1 some
noncomputable def boolAns (F:Fn)(args:List PV):Option Bool:=opt (F args []) fun p=>onBoolV p.1 some
theorem intsOf_some:∀ {xs:List PV} {l:List Int},intsOf xs=some l→xs=iL l
 | [],l,h=>(Option.some.inj h)▸rfl
 | v::vs,l,h=>by
  obtain⟨i,rfl,h⟩:=onInt_some (show onInt v (fun i=>opt (intsOf vs) fun l=>some (i::l))=some l from h)
  obtain⟨t,e,h⟩:=opt_some h
  rw[intsOf_some e,← Option.some.inj h]
  rfl
theorem pureF_at {F:Fn}{args:List PV}{v:PV}{τ:Sto}(ha:args.all flat=true)(h:F args []=some (v,τ))(hv:flat v=true)(σ:Sto):pureF F args σ=some (v,σ):=by
 refine (if_pos ha).trans ?_
 rw[h]
 exact if_pos hv
theorem strAns_some {F:Fn}{args:List PV}{r:Str}(h:strAns F args=some r):∃ τ,F args []=some (.str r,τ):=by
 obtain⟨⟨v,τ⟩,hF,h⟩:=opt_some h
 obtain⟨x,e,h⟩:=onStr_some h
 exact⟨τ,by rw[hF,show v=_ from e,Option.some.inj h]⟩
theorem boolAns_some {F:Fn}{args:List PV}{r:Bool}(h:boolAns F args=some r):∃ τ,F args []=some (.bool r,τ):=by
 obtain⟨⟨v,τ⟩,hF,h⟩:=opt_some h
 obtain⟨x,e,h⟩:=onBoolV_some h
 exact⟨τ,by rw[hF,show v=_ from e,Option.some.inj h]⟩
theorem strAns_of {F:Fn}{args:List PV}{r:Str}{τ:Sto}(h:F args []=some (.str r,τ)):strAns F args=some r:=by unfold strAns; rw[h]; rfl
theorem boolAns_of {F:Fn}{args:List PV}{r:Bool}{τ:Sto}(h:F args []=some (.bool r,τ)):boolAns F args=some r:=by unfold boolAns; rw[h]; rfl
theorem elF_le (F:Fn):Le (elF fun w g=>boolAns F [.str w,.str g]) (pureF F):=fun args σ r h=>by
 obtain⟨a,b,e1,h1⟩:=two_some h
 obtain⟨w,e2,h2⟩:=onStr_some h1
 obtain⟨g,e3,h3⟩:=onStr_some h2
 subst e1 e2 e3
 obtain⟨x,hx,h4⟩:=opt_some h3
 obtain rfl:=Option.some.inj h4
 obtain⟨τ,hF⟩:=boolAns_some hx
 exact pureF_at rfl hF rfl σ
theorem ansOwn_le (F:Fn):Le (ansOwn fun l i=>strAns F [.str l,.int i]) (pureF F):=fun args σ r h=>by
 obtain⟨a,b,e1,h1⟩:=two_some h
 obtain⟨w,e2,h2⟩:=onStr_some h1
 obtain⟨g,e3,h3⟩:=onInt_some h2
 subst e1 e2 e3
 obtain⟨x,hx,h4⟩:=opt_some h3
 obtain rfl:=Option.some.inj h4
 obtain⟨τ,hF⟩:=strAns_some hx
 exact pureF_at rfl hF rfl σ
theorem ansIS_le (F:Fn):Le (ansIS fun i=>strAns F [.int i]) (pureF F):=fun args σ r h=>by
 obtain⟨a,e1,h1⟩:=one_some h
 obtain⟨i,e2,h2⟩:=onInt_some h1
 subst e1 e2
 obtain⟨x,hx,h3⟩:=opt_some h2
 obtain rfl:=Option.some.inj h3
 obtain⟨τ,hF⟩:=strAns_some hx
 exact pureF_at rfl hF rfl σ
theorem ansSB_le (F:Fn):Le (ansSB fun w=>boolAns F [.str w]) (pureF F):=fun args σ r h=>by
 obtain⟨a,e1,h1⟩:=one_some h
 obtain⟨i,e2,h2⟩:=onStr_some h1
 subst e1 e2
 obtain⟨x,hx,h3⟩:=opt_some h2
 obtain rfl:=Option.some.inj h3
 obtain⟨τ,hF⟩:=boolAns_some hx
 exact pureF_at rfl hF rfl σ
theorem four_some {α β:Type}{r:β}{l:List α}{f:α→α→α→α→Option β}(h:four l f=some r):∃ a b c d,l=[a,b,c,d]∧f a b c d=some r:=by
 cases l with
 | nil=>exact nos h
 | cons a l=>
  obtain⟨b,c,d,e,h⟩:=three_some (show three l (fun b c d=>f a b c d)=some r from h)
  exact⟨a,b,c,d,by rw[e],h⟩
theorem ansFold_some {f:Str→Str→Str→Int→Option Str}{args:List PV}{σ:Sto}{r:PV×Sto}(h:ansFold f args σ=some r):∃ w l g i x,args=[.str w,.str l,.str g,.int i]∧f w l g i=some x∧(.str x,σ)=r:=by
 obtain⟨a,b,c,d,e1,h1⟩:=four_some h
 obtain⟨w,e2,h2⟩:=onStr_some h1
 obtain⟨g,e3,h3⟩:=onStr_some h2
 obtain⟨u,e4,h4⟩:=onStr_some h3
 obtain⟨i,e5,h5⟩:=onInt_some h4
 subst e1 e2 e3 e4 e5
 obtain⟨x,hx,h6⟩:=opt_some h5
 exact⟨w,g,u,i,x,rfl,hx,Option.some.inj h6⟩
theorem ansFold_le (F:Fn):Le (ansFold fun w l g i=>strAns F [.str w,.str l,.str g,.int i]) (pureF F):=fun args σ r h=>by
 obtain⟨w,l,g,i,x,e1,hx,e2⟩:=ansFold_some h
 subst e1 e2
 obtain⟨τ,hF⟩:=strAns_some hx
 exact pureF_at rfl hF rfl σ
noncomputable def tupsOf:List PV→Option (List (Str×Str))
 | []=>some []
 | v::vs=>onTup v fun l=>two l fun a b=>onStr a fun x=>onStr b fun y=>opt (tupsOf vs) fun r=>some ((x,y)::r)
theorem tupsOf_tups:∀ l:List (Str×Str),tupsOf (tups l)=some l
 | []=>rfl
 | x::l=>congrArg (fun o=>opt o fun r=>some ((x.1,x.2)::r)) (tupsOf_tups l)
theorem tupsOf_some:∀ {xs:List PV} {l:List (Str×Str)},tupsOf xs=some l→xs=tups l
 | [],l,h=>(Option.some.inj h)▸rfl
 | v::vs,l,h=>by
  obtain⟨t,rfl,h⟩:=onTup_some (show onTup v (fun l=>two l fun a b=>onStr a fun x=>onStr b fun y=>opt (tupsOf vs) fun r=>some ((x,y)::r))=some l from h)
  obtain⟨a,b,rfl,h⟩:=two_some h
  obtain⟨x,rfl,h⟩:=onStr_some h
  obtain⟨y,rfl,h⟩:=onStr_some h
  obtain⟨r,e,h⟩:=opt_some h
  rw[tupsOf_some e,← Option.some.inj h]
  rfl
noncomputable def tupsAns (F:Fn)(args:List PV):Option (List (Str×Str)):=opt (F args []) fun p=>onLst p.1 fun i=>opt (getL p.2 i) tupsOf
theorem tupsAns_some {F:Fn}{args:List PV}{l:List (Str×Str)}(h:tupsAns F args=some l):∃ i τ,F args []=some (.lst i,τ)∧getL τ i=some (tups l):=by
 obtain⟨⟨v,τ⟩,hF,h⟩:=opt_some h
 obtain⟨i,e,h⟩:=onLst_some h
 obtain⟨xs,hx,h⟩:=opt_some h
 exact⟨i,τ,by rw[hF,show v=_ from e],by rw[show getL τ i=_ from hx,tupsOf_some h]⟩
theorem tups_flat (l:List (Str×Str)):(tups l).all flat=true:=by
 unfold tups
 rw[List.all_map]
 apply List.all_eq_true.mpr
 intro x _
 rfl
theorem ansTups_le (F:Fn):Le (ansTups fun w=>tupsAns F [.str w]) (listF F):=fun args σ r h=>by
 obtain⟨a,e1,h1⟩:=one_some h
 obtain⟨w,e2,h2⟩:=onStr_some h1
 subst e1 e2
 obtain⟨b,hb,h3⟩:=opt_some h2
 obtain rfl:=Option.some.inj h3
 obtain⟨i,τ,hF,hx⟩:=tupsAns_some hb
 show grd ([PV.str w].all flat=true) _=_
 rw[hF]
 refine (if_pos rfl).trans ?_
 show opt (getL τ i) _=_
 rw[hx]
 exact if_pos (tups_flat _)
noncomputable def grA1 (l:List Int):Option Str:=grd (l=natI (l.map Int.toNat)∧(l.map Int.toNat).length=10) (some (S (grownL ((l.map Int.toNat).getD 0 0) (((l.map Int.toNat).drop 1).take 8))))
theorem natI_back (l:List Nat):(natI l).map Int.toNat=l:=by
 unfold natI
 rw[List.map_map]
 exact (List.map_congr_left fun x _=>Int.toNat_natCast x).trans (List.map_id l)
theorem grA1_ok:∀ n0 n1 n2 n3 n4 n5 n6 n7 n8 n9:Nat,grA1 (natI [n0,n1,n2,n3,n4,n5,n6,n7,n8,n9])=some (S (grownL n0 [n1,n2,n3,n4,n5,n6,n7,n8])):=fun n0 n1 n2 n3 n4 n5 n6 n7 n8 n9=>by
 unfold grA1
 rw[natI_back]
 exact if_pos ⟨rfl,rfl⟩
theorem ten {l:List Nat}(h:l.length=10):∃ n0 n1 n2 n3 n4 n5 n6 n7 n8 n9,l=[n0,n1,n2,n3,n4,n5,n6,n7,n8,n9]:=by
 obtain⟨a,t1,e1,h1⟩:=lstS h
 obtain⟨b,t2,e2,h2⟩:=lstS h1
 obtain⟨c,t3,e3,h3⟩:=lstS h2
 obtain⟨d,t4,e4,h4⟩:=lstS h3
 obtain⟨e,t5,e5,h5⟩:=lstS h4
 obtain⟨f,t6,e6,h6⟩:=lstS h5
 obtain⟨g,t7,e7,h7⟩:=lstS h6
 obtain⟨i,j,k,e8⟩:=lst3 h7
 exact⟨a,b,c,d,e,f,g,i,j,k,by rw[e1,e2,e3,e4,e5,e6,e7,e8]⟩
theorem ansGr_le (T:Int→Option Str)(E P:Fn){A:Ans1}(hA:LaOk A):Le (ansGr grA1) (runDK (G2 T E P (own1 A)) 2000 dG):=fun args σ r h=>by
 obtain⟨a,e1,h1⟩:=one_some h
 obtain⟨i,e2,h2⟩:=onLst_some h1
 subst e1 e2
 obtain⟨xs,hx,h3⟩:=opt_some h2
 obtain⟨l,hl,h4⟩:=opt_some h3
 obtain⟨w,hw,h5⟩:=opt_some h4
 obtain rfl:=Option.some.inj h5
 obtain⟨⟨c1,c2⟩,c3⟩:=grd_some hw
 obtain⟨n0,n1,n2,n3,n4,n5,n6,n7,n8,n9,e⟩:=ten c2
 rw[e] at c1 c3
 have hxs:xs=pvN [n0,n1,n2,n3,n4,n5,n6,n7,n8,n9]:=by rw[intsOf_some hl,c1,pvN_iL]
 rw[hxs] at hx ⊢
 rw[← Option.some.inj c3]
 exact grown_run T E P hA i n0 n1 n2 n3 n4 n5 n6 n7 n8 n9 σ hx
noncomputable def T3 (i:Int):Option Str:=tbl3.lookup i
theorem T3_h:((List.range 12).map fun y=>foldC T3 ((frL 104).getD y 0))=(List.range 12).map fun _=>some (S [104]):=by kernel_rfl!
theorem T3_p:((List.range 12).map fun y=>foldC T3 ((frL 112).getD y 0))=(List.range 12).map fun _=>some (S [112]):=by kernel_rfl!
theorem T3_ft:FT T3 where
 h:=fun m=>List.map_inj_left.mp T3_h (m % 12) (List.mem_range.mpr (Nat.mod_lt _ (by decide)))
 p:=fun m=>List.map_inj_left.mp T3_p (m % 12) (List.mem_range.mpr (Nat.mod_lt _ (by decide)))
 hp:=by kernel_rfl!
 ph:=by kernel_rfl!
theorem glue_len_le:∀ (ps:List (List Nat)),∀ p∈ps,p.length≤(glue ps).length
 | [],_,h=>by cases h
 | [a],p,h=>by simp at h; subst h; simp[glue]
 | a::b::r,p,h=>by
  have ih:=glue_len_le (b::r)
  rw[show glue (a::b::r)=a++(dots++glue (b::r)) from rfl]
  rcases List.mem_cons.mp h with rfl | h
  ·simp
  ·have:=ih p h
   simp; lia
theorem no_dots {w:List Nat}(h:46∉w):Txt.contains (S w) "..."=false:=by
 rw[Bool.eq_false_iff]
 intro hc
 unfold Txt.contains at hc
 rw[dots_S,StrLaws.found_iff] at hc
 obtain⟨i,h1,h2⟩:=hc
 rw[subAt_S] at h2
 have e:=beq_iff_eq.mp h2
 have hm:46∈(w.drop i).take dots.length:=by rw[e]; simp[dots]
 exact h (List.mem_of_mem_drop (List.mem_of_mem_take hm))
theorem e3_ok (T:Int→Option Str):EllOk fun w g=>boolAns (runDK (G0 T) 2000 dE) [.str w,.str g] where
 dots:=fun a mid b g hd hn hw hg=>by
  obtain⟨σ',e⟩:=ell_S T a mid b g hd (by lia) (by lia) (by lia) (fun w hm=>by have:=glue_len_le _ w hm; lia)
  exact boolAns_of e
 none:=fun w g h=>by
  have e:runDK (G0 T) 2000 dE [.str (S w),.str (S g)] []=some (.bool (decide (S w=S g)),[]):=by
   rw[runDK_at (le:=[("want",.str (S w)),("got",.str (S g))]) dE_params rfl rfl,dE_body,exsK_cons,el_0 T 1979,no_dots h]
   rfl
  exact (boolAns_of e).trans (congrArg some (decide_eq_decide.mpr S_inj))
noncomputable abbrev F3E:Fn:=runDK (G0 T3) 2000 dE
noncomputable abbrev E3:Fn:=elF fun w g=>boolAns F3E [.str w,.str g]
noncomputable abbrev GA3:Gl:=G1 T3 E3 noF
noncomputable def A0:Ans1:=⟨fun l i=>strAns (runDK GA3 500 dS) [.str l,.int i],fun i=>strAns (runDK GA3 100 dU) [.int i],fun _ _ _ _=>none,fun w=>boolAns (runDK GA3 2000 dP) [.str w],fun _=>none,fun _=>none⟩
noncomputable abbrev GB0:Gl:=G2 T3 E3 noF (own1 A0)
noncomputable def A1:Ans1:=⟨fun _ _=>none,fun _=>none,fun f w b i=>strAns (runDK GB0 2000 dF) [.str f,.str w,.str b,.int i],fun w=>boolAns (runDK GA3 2000 dP) [.str w],grA1,fun w=>tupsAns (runDK GA3 2000 dK) [.str w]⟩
noncomputable abbrev GB1:Gl:=G2 T3 E3 noF (own1 A1)
theorem la3 (t:List Nat)(h1:t.length≤200)(h2:46∉t):boolAns (runDK GA3 2000 dP) [.str (S t)]=some (lapsL t):=by
 obtain⟨σ',e⟩:=laps_run T3 noF (e3_ok T3) t h1 h2
 exact boolAns_of e
theorem A0_ok:OkF A0 where
 sp:=fun w m hw hl=>by
  obtain⟨σ',e⟩:=spelled_run T3 E3 noF w hw hl m
  exact strAns_of e
 un:=fun m=>strAns_of (unseen_run T3 E3 noF m)
theorem A0_la:LaOk A0:=la3
theorem A1_la:LaOk A1:=la3
theorem A1_cu:CuOk A1:=fun t h1 h2=>by
 obtain⟨v',g',e⟩:=cuts_run T3 noF (e3_ok T3) t h2 h1
 show tupsAns _ _=_
 unfold tupsAns
 rw[e]
 show opt (some (tupL (cutsL t))) tupsOf=_
 rw[← tups_strT]
 exact tupsOf_tups _
theorem A1_fo:FoOk A1:=fun f w b m hf hb h1 h2 h3=>by
 obtain⟨σ',e⟩:=folded_run T3_ft E3 noF A0_ok f w b m hf hb h1 h2 h3
 exact strAns_of e
theorem law1_true (v:Nat)(script:List Int)(hs:script.length≤1000):∃ σ',runD GB1 2000 dL [.lst 0] [⟨v,.lst (iL script)⟩]=some (.bool true,σ')∧σ'[0]?=some ⟨v,.lst (iL script)⟩:=by
 rw[← runDK_eq]
 exact law1_run T3 noF (e3_ok T3) A1_la A1_cu A1_fo grA1_ok (fun n0 n1 n2 n3 n4 n5 n6 n7 n8=>grown_ok n0 n1 n2 n3 n4 n5 n6 n7 n8) v script hs
set_option maxRecDepth 100000
set_option maxHeartbeats 0
theorem q3_incr:incr (tbl3.map Prod.fst)=true:=by kernel_rfl!
theorem q3_ne:tbl3≠[]:=by
 intro h
 have:=len3
 rw[h] at this
 cases this
theorem q3_eq (w:World):∃ a b,w=wf w a b:=by
 refine⟨w.params.followText "set-order",w.params.followText "special-get-raises",?_⟩
 unfold wf
 rw[World.withFollow_self,World.withFollow_self]
theorem q3_behind (w:World)(os:OsState)(hz:(⟨boot_heap w.params,#[],boot_drawn,boot_toks,os⟩:Shared).asleep):∃ s₁,Behind p3 ad3 tbl3 w os s₁:=by
 have hcc:(tbl3.length+16) / 17=39:=by rw[len3]
 have hln:tbl3.length≤100000:=by rw[len3]; decide
 obtain⟨a,b,e⟩:=q3_eq w
 have H:∀ p1 q tk,headV p3 ad3 g13 g23 d3 39 ad3.b3 w p1 q tk=headW p3 ad3 ad3.b3 w.params:=by
  intro p1 q tk
  rw[e]
  cases a <;> cases b
  ·exact hd3_ff w p1 q tk
  ·exact hd3_ft w p1 q tk
  ·exact hd3_tf w p1 q tk
  ·exact hd3_tt w p1 q tk
 exact behind_of hz hB3 hc3 q3_incr hln q3_ne hcc (by decide) (eA3 w) H
theorem q1_dE:(topR p3 "_ellipsis_match").d=dE:=by kernel_rfl!
theorem q1_dS:(topR p3 "_law_spelled").d=dS:=by kernel_rfl!
theorem q1_dU:(topR p3 "_law_unseen").d=dU:=by kernel_rfl!
theorem q1_dF:(topR p3 "_law_folded").d=dF:=by kernel_rfl!
theorem q1_dP:(topR p3 "_law_laps").d=dP:=by kernel_rfl!
theorem q1_dG:(topR p3 "_law_grown").d=dG:=by kernel_rfl!
theorem q1_dK:(topR p3 "_law_cuts").d=dK:=by kernel_rfl!
theorem q1_dL:(topR p3 "law").d=dL:=by kernel_rfl!
theorem runDK_fn (G:Gl)(n:Nat)(D:DefP):runDK G n D=runD G n D:=by funext args σ; exact runDK_eq ..
section
variable {kk:Nat→Option Obj}{B:Bs}
theorem FnAll.self {B:Bs}{k:Nat}{f:Value}{F:Fn}(h:FnAll B k f F)(x:Ext B B.h₀):FnOk B k f F:=h B.h₀ x
theorem q3_ext (N:Env p3 ad3 kk B T3):Ext B B.h₀:=⟨fun a o ho _=>ho,env_lim r3 N⟩
theorem q3_E (N:Env p3 ad3 kk B T3):FnOk B 2 (.ref 28) E3:=by
 have all:FnAll B 2 (.ref 28) F3E:=fun h hx=>by
  have:=top_ok r3 (N.at hx) (gl0 r3 (N.at hx)) (f:="_ellipsis_match") (a:=28) (List.mem_of_getElem? (i:=2) rfl) 2000
  rw[q1_dE] at this
  rw[show F3E=runD (G0 T3) 2000 dE from runDK_fn ..]
  exact this
 exact (pureF_ok (env_codes r3 N).ok all B.h₀ (q3_ext N)).le (elF_le F3E)
theorem q3_g1 (N:Env p3 ad3 kk B T3):GlOk B 4 GA3 (glob (kk 3)) (glob (kk 0)):=
 gl1 r3 N (aB:=130) (aM:=176) (aE:=28) (List.mem_of_getElem? (i:=0) rfl) (List.mem_of_getElem? (i:=1) rfl) (List.mem_of_getElem? (i:=2) rfl) 50 50 50 (r3_b1 T3) (r3_b3 T3) (r3_push T3) ((q3_E N).mono (by decide)) (popf_no r3 N 4)
theorem q3_all (N:Env p3 ad3 kk B T3){f:Str}{a:Nat}(h:(f,a)∈ad3.tops)(n:Nat):FnAll B 5 (.ref a) (runDK GA3 n (topR p3 f).d):=fun hh hx=>by
 have:=top_ok r3 (N.at hx) (q3_g1 (N.at hx)) h n
 rw[runDK_fn]
 exact this
theorem at3 (i:Nat){x:Str×Nat}(h:ad3.tops[i]?=some x):x∈ad3.tops:=List.mem_of_getElem? h
theorem q3_at (k:Nat)(i:Nat){f:Str}{a:Nat}{F:Fn}(h:ad3.tops[i]?=some (f,a))(q:(f,a)∈ad3.tops→FnOk B k (.ref a) F):∃ a,(f,a)∈ad3.tops∧FnOk B k (.ref a) F:=⟨a,at3 i h,q (at3 i h)⟩
theorem sp_no (F:Fn):Le (ansOwn fun _ _=>none) F:=fun args σ r h=>by
 obtain⟨a,b,e1,h1⟩:=two_some h
 obtain⟨w,e2,h2⟩:=onStr_some h1
 obtain⟨g,e3,h3⟩:=onInt_some h2
 exact nos h3
theorem un_no (F:Fn):Le (ansIS fun _=>none) F:=fun args σ r h=>by
 obtain⟨a,e1,h1⟩:=one_some h
 obtain⟨w,e2,h2⟩:=onInt_some h1
 exact nos h2
theorem fold_no (F:Fn):Le (ansFold fun _ _ _ _=>none) F:=fun args σ r h=>by
 obtain⟨w,l,g,i,x,e1,hx,e2⟩:=ansFold_some h
 exact nos hx
theorem gr_no (F:Fn):Le (ansGr fun _=>none) F:=fun args σ r h=>by
 obtain⟨a,e1,h1⟩:=one_some h
 obtain⟨i,e2,h2⟩:=onLst_some h1
 obtain⟨xs,hx,h3⟩:=opt_some h2
 obtain⟨l,hl,h4⟩:=opt_some h3
 exact nos h4
theorem cu_no (F:Fn):Le (ansTups fun _=>none) F:=fun args σ r h=>by
 obtain⟨a,e1,h1⟩:=one_some h
 obtain⟨w,e2,h2⟩:=onStr_some h1
 exact nos h2
theorem own1_some {A:Ans1}{f:Str}{F:Fn}{C:Str→Fn→Prop}(h:own1 A f=some F)(c1:C "_law_spelled" (ansOwn A.sp))(c2:C "_law_unseen" (ansIS A.un))(c3:C "_law_folded" (ansFold A.fo))(c4:C "_law_laps" (ansSB A.la))(c5:C "_law_grown" (ansGr A.gr))(c6:C "_law_cuts" (ansTups A.cu)):C f F:=by
 have h:(if f="_law_spelled" then some (ansOwn A.sp) else if f="_law_unseen" then some (ansIS A.un) else if f="_law_folded" then some (ansFold A.fo) else if f="_law_laps" then some (ansSB A.la) else if f="_law_grown" then some (ansGr A.gr) else if f="_law_cuts" then some (ansTups A.cu) else none)=some F:=h
 rcases ite_some h with⟨hf,h⟩ | ⟨_,h⟩
 ·exact hf▸Option.some.inj h▸c1
 rcases ite_some h with⟨hf,h⟩ | ⟨_,h⟩
 ·exact hf▸Option.some.inj h▸c2
 rcases ite_some h with⟨hf,h⟩ | ⟨_,h⟩
 ·exact hf▸Option.some.inj h▸c3
 rcases ite_some h with⟨hf,h⟩ | ⟨_,h⟩
 ·exact hf▸Option.some.inj h▸c4
 rcases ite_some h with⟨hf,h⟩ | ⟨_,h⟩
 ·exact hf▸Option.some.inj h▸c5
 obtain⟨hf,h⟩:=grd_some h
 exact hf▸Option.some.inj h▸c6
theorem q1_la (N:Env p3 ad3 kk B T3)(m:(("_law_laps":Str),202)∈ad3.tops):FnOk B 5 (.ref 202) (ansSB A0.la):=
 (pureF_ok (env_codes r3 N).ok (q1_dP▸q3_all N m 2000) B.h₀ (q3_ext N)).le (ansSB_le _)
theorem q1_own0 (N:Env p3 ad3 kk B T3):∀ f F,own1 A0 f=some F→∃ a,(f,a)∈ad3.tops∧FnOk B 5 (.ref a) F:=fun f F h=>by
 have ok:=(env_codes r3 N).ok
 have ex:=q3_ext N
 refine own1_some (C:=fun f F=>∃ a,(f,a)∈ad3.tops∧FnOk B 5 (.ref a) F) h ?_ ?_ ?_ ?_ ?_ ?_
 ·exact q3_at 5 3 rfl fun m=>(pureF_ok ok (q1_dS▸q3_all N m 500) B.h₀ ex).le (ansOwn_le _)
 ·exact q3_at 5 4 rfl fun m=>(pureF_ok ok (q1_dU▸q3_all N m 100) B.h₀ ex).le (ansIS_le _)
 ·exact q3_at 5 5 rfl fun m=>((q3_all N m 100).self ex).le (fold_no _)
 ·exact q3_at 5 6 rfl fun m=>q1_la N m
 ·exact q3_at 5 7 rfl fun m=>((q3_all N m 100).self ex).le (gr_no _)
 ·exact q3_at 5 8 rfl fun m=>((q3_all N m 100).self ex).le (cu_no _)
theorem q1_g2 (N:Env p3 ad3 kk B T3):GlOk B 5 GB0 (glob (kk 3)) (glob (kk 0)):=gl2 r3 N (q3_g1 N) 5 (by decide) (q1_own0 N)
theorem q1_all (N:Env p3 ad3 kk B T3){f:Str}{a:Nat}(h:(f,a)∈ad3.tops)(n:Nat):FnAll B 6 (.ref a) (runDK GB0 n (topR p3 f).d):=fun hh hx=>by
 have:=top_ok r3 (N.at hx) (q1_g2 (N.at hx)) h n
 rw[runDK_fn]
 exact this
theorem q1_own1 (N:Env p3 ad3 kk B T3):∀ f F,own1 A1 f=some F→∃ a,(f,a)∈ad3.tops∧FnOk B 6 (.ref a) F:=fun f F h=>by
 have ok:=(env_codes r3 N).ok
 have ex:=q3_ext N
 refine own1_some (C:=fun f F=>∃ a,(f,a)∈ad3.tops∧FnOk B 6 (.ref a) F) h ?_ ?_ ?_ ?_ ?_ ?_
 ·exact q3_at 6 3 rfl fun m=>((q1_all N m 100).self ex).le (sp_no _)
 ·exact q3_at 6 4 rfl fun m=>((q1_all N m 100).self ex).le (un_no _)
 ·exact q3_at 6 5 rfl fun m=>(pureF_ok ok (q1_dF▸q1_all N m 2000) B.h₀ ex).le (ansFold_le _)
 ·exact q3_at 6 6 rfl fun m=>(q1_la N m).mono (by decide)
 ·exact q3_at 6 7 rfl fun m=>((q1_dG▸q1_all N m 2000:FnAll B 6 (.ref 209) (runDK GB0 2000 dG)).self ex).le (ansGr_le T3 E3 noF A0_la)
 ·exact q3_at 6 8 rfl fun m=>((listF_ok ok (q1_dK▸q3_all N m 2000) B.h₀ ex).mono (by decide)).le (ansTups_le _)
theorem q3_fn (N:Env p3 ad3 kk B T3):FnOk B 7 (.ref 219) (runD GB1 2000 dL):=by
 have g2:=gl2 r3 N (q3_g1 N) 6 (by decide) (q1_own1 N)
 have:=top_ok r3 N g2 (f:="law") (a:=219) (at3 9 rfl) 2000
 rw[q1_dL] at this
 exact this
end
theorem law1_said:PySem.Challenge.rw_wa0042_01.wellSaid=true:=by decide+kernel
theorem law1_is:LawIs PySem.Challenge.rw_wa0042_01:=⟨rfl,rfl,rfl,rfl⟩
end Mine.Internal
set_option maxRecDepth 100000 in
set_option maxHeartbeats 0 in
theorem PySem.Challenge.cw_wa0042_01_holds : PySem.Challenge.rw_wa0042_01.Holds := by
 w_on
 refine holds_law Mine.Internal.law1_said fun said=>?_
 refine Mine.Internal.law_holds (l:=PySem.Challenge.rw_wa0042_01) Mine.Internal.law1_is (by assumption) ?prom ⟨rfl,rfl,rfl,rfl,rfl,by decide+kernel⟩ (by decide+kernel) (by decide+kernel) ?op ?fence ?thed ?nodef ?nokw ?nm Mine.Internal.r3 (aL:=219) ?hL (fun w os hz=>Mine.Internal.q3_behind w os hz) (fun kk B N=>Mine.Internal.q3_fn N) fun v script hs=>Mine.Internal.law1_true v script hs
 case prom=>w_witness2
 case op=>rfl
 case fence=>exact fun s=>rfl
 case thed=>kernel_rfl!
 case nodef=>kernel_rfl!
 case nokw=>kernel_rfl!
 case nm=>exact⟨by kernel_rfl!,by kernel_rfl!⟩
 case hL=>unfold Mine.Internal.ad3; simp; rfl
